import Derived.Test.Qxb6617086aBelow
import Derived.Deep.WholeRow
namespace Go.Proofs.Qxb6617086a
open Go.RowKit
set_option linter.unusedVariables false

/-- The words as cells. -/
def cells (ms : List Nat) : Array Value := (ms.map fun (x : Nat) => Value.int .u64 x).toArray

theorem cells_size (ms : List Nat) : (cells ms).size = ms.length := by simp [cells]
theorem cells_one (ms : List Nat) : (cells ms).all (·.oneCell') = true := by
  rw [Array.all_eq_true_iff_forall_mem]
  intro v hv
  simp only [cells, List.mem_toArray, List.mem_map] at hv
  obtain ⟨x, _, rfl⟩ := hv
  rfl

theorem info23 : (Try.prog.info? 23).map (·.size) = some 128 := by kernel_rfl
theorem info26 : (Try.prog.info? 26).map (·.size) = some 128 := by kernel_rfl

theorem zero26 : ∃ Z : Array Value, Z.size = 128 ∧ ∀ w, (zeroValue 26).run Try.prog w = .ok (.agg Z) w :=
  ⟨Array.replicate 128 (.int .u64 0), by simp, (zero_of_info (P := Try.prog) (t := 26) (v := .agg (Array.replicate 128 (.int .u64 0))) (n := 128) (by kernel_rfl)).1⟩

set_option maxRecDepth 100000 in
set_option maxHeartbeats 800000 in
theorem zz_any (ms : List Nat) (k : Nat) (w : World) (hl : ms.length = 128) (hlt : ∀ x ∈ ms, x < 18446744073709551616) (hk : k < 8192) :
    Calls Try.prog 5 #[.agg (cells ms), .int .i64 k] w fun e w' => e = .returned (.int .i64 (cnt ms k)) ∧ Below w.heap.size w w' := by
  have Hlt := hide hlt
  have h23 : (Try.prog.info? 23).map (·.size) = some (cells ms).size := by rw [cells_size, hl]; exact info23
  have h26 : (Try.prog.info? 26).map (·.size) = some (cells ms).size := by rw [cells_size, hl]; exact info26
  have H26 := hide h26
  have H23 := hide h23
  have hone := hide (cells_one ms)
  have hcs := hide (show (cells ms).size = 128 by rw [cells_size, hl])
  have hW : Hid (∀ w' : World, Wd (w'.alloc (.cells (cells ms) 26)) w'.heap.size 26 ms) := fun w' => heap_alloc_new w' (.cells (cells ms) 26)
  have HLen := hide hl
  obtain ⟨Z, hZs, hZ⟩ := zero26
  have HZs := hide hZs
  clear hlt h23 h26 hl hZs
  generalize cells ms = cs at *
  have hst : (storeCells ⟨w.heap.size + 1, 0, none⟩ cs.toList).run Try.prog ((w.alloc (.cells cs 23)).alloc (.cells Z 26)) = .ok () ((w.alloc (.cells cs 23)).alloc (.cells cs 26)) := by
    have h := run_storeCells_new (P := Try.prog) (w.alloc (.cells cs 23)) 26 Z cs H26.out (by rw [HZs.out, hcs.out]) hone.out
    rw [show (w.alloc (.cells cs 23)).heap.size = w.heap.size + 1 by simp] at h
    exact h
  have hWd : Hid (Wd ((w.alloc (.cells cs 23)).alloc (.cells cs 26)) (w.heap.size + 1) 26 ms) := by
    have h := hW.out (w.alloc (.cells cs 23))
    rw [show (w.alloc (.cells cs 23)).heap.size = w.heap.size + 1 by simp] at h
    exact h
  go_enter Try.func5, Try.ntmps5
  go_wp2_with (first | (go_at_call 7; refine (below_any (w.heap.size + 1) 26 ms k _ hWd.out HLen.out Hlt.out hk).mono ?_; rintro e w' ⟨rfl, n, rfl⟩) | (refine wpList_load_row rfl 23 _ rfl _ rfl 23 cs (0, 0) _ (heap_alloc_new _ _) Try.underlying23 rfl H23.out ?_))
  go_ret
  exact ⟨rfl, below_drewN (((Below.refl _ _).alloc (Nat.le_refl _) _).alloc (by simp) _) _⟩
end Go.Proofs.Qxb6617086a
