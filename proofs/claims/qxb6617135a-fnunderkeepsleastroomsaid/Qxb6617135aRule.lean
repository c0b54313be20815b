/-
  The order's rules as a walk wants them.
-/
import Derived.Test.Qxb6617135aUnder
namespace Go.Proofs.Qxb6617135a
open Go.RowKit
set_option linter.unusedVariables false

theorem lt_rule {x y : Nat} {u v : Int} (hx : val x = some u) (hy : val y = some v) : (FloatKind.f64.format.order x y == some Ordering.lt) = decide (u < v) := by
  have e : FloatKind.f64.format.order x y = some (compare u v) := od_val hx hy
  rw [e]
  rcases Int.lt_trichotomy u v with h | h | h
  · rw [Int.compare_eq_lt.2 h, decide_eq_true h]; rfl
  · rw [Int.compare_eq_eq.2 h, decide_eq_false (by omega)]; rfl
  · rw [Int.compare_eq_gt.2 h, decide_eq_false (by omega)]; rfl

theorem eq_rule {x y : Nat} {u v : Int} (hx : val x = some u) (hy : val y = some v) : (FloatKind.f64.format.order x y == some Ordering.eq) = decide (u = v) := by
  have e : FloatKind.f64.format.order x y = some (compare u v) := od_val hx hy
  rw [e]
  rcases Int.lt_trichotomy u v with h | h | h
  · rw [Int.compare_eq_lt.2 h, decide_eq_false (by omega)]; rfl
  · rw [Int.compare_eq_eq.2 h, decide_eq_true h]; rfl
  · rw [Int.compare_eq_gt.2 h, decide_eq_false (by omega)]; rfl

theorem self_rule {x : Nat} {u : Int} (hx : val x = some u) : (FloatKind.f64.format.order x x != some Ordering.eq) = false := by
  have e := eq_rule hx hx
  unfold bne
  rw [e, decide_eq_true rfl]
  rfl

theorem nan_rule {x : Nat} (hx : val x = none) : (FloatKind.f64.format.order x x != some Ordering.eq) = true := by
  have e : FloatKind.f64.format.order x x = none := (od_nan x hx).1
  rw [e]
  rfl

theorem one_at (w : World) (o : Obj) : (w.alloc o).heap[w.heap.size]? = some o := heap_alloc_new w o

end Go.Proofs.Qxb6617135a
