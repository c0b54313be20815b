/-
  The walk over FnUnderKeepsLeastRoom: inputs outside its premises.
-/
import Derived.Test.Qxb6617135aRule
namespace Go.Proofs.Qxb6617135a
open Go.RowKit
set_option linter.unusedVariables false

set_option maxRecDepth 100000 in
set_option maxHeartbeats 4000000 in
theorem short_len (r a b : Nat) (rl la lb : ByteArray) (w : World) (h : 262144 < rl.size ∨ (rl.size ≤ 262144 ∧ 262144 < la.size) ∨ (rl.size ≤ 262144 ∧ la.size ≤ 262144 ∧ 262144 < lb.size)) :
    Calls Try.prog 3 #[.float .f64 r, .string rl, .float .f64 a, .string la, .float .f64 b, .string lb] w fun e w' => e = .returned (.bool true) ∧ Below w.heap.size w w' := by
  have HY := hide (fun w => bytes_any r a b rl la lb w)
  rcases h with h | ⟨g1, h⟩ | ⟨g1, g2, h⟩
  all_goals
    go_enter Try.func3, Try.ntmps3
    go_wp2_with (
      (go_at_call 4
       refine (HY.out _).mono ?_
       rintro e w' ⟨⟨o, rfl⟩, hw⟩
       rw [hw]
       clear hw
       cases o))
    all_goals
      go_ret
      exact ⟨rfl, Below.refl _ _⟩

set_option maxRecDepth 100000 in
set_option maxHeartbeats 4000000 in
theorem short_num (r a b : Nat) (rl la lb : ByteArray) (w : World)
    (s1 : rl.size ≤ 262144) (s2 : la.size ≤ 262144) (s3 : lb.size ≤ 262144)
    (h : val r = none ∨ (∃ u, val r = some u ∧ val a = none) ∨ (∃ u v, val r = some u ∧ val a = some v ∧ val b = none) ∨ (∃ u v z, val r = some u ∧ val a = some v ∧ val b = some z ∧ u < 0)) :
    Calls Try.prog 3 #[.float .f64 r, .string rl, .float .f64 a, .string la, .float .f64 b, .string lb] w fun e w' => e = .returned (.bool true) ∧ Below w.heap.size w w' := by
  have HY := hide (fun w => bytes_ok r a b rl la lb w s1 s2 s3)
  rcases h with h | ⟨u, h1, h⟩ | ⟨u, v, h1, h2, h⟩ | ⟨u, v, z, h1, h2, h3, h⟩
  · have R1 := nan_rule h
    clear h
    go_enter Try.func3, Try.ntmps3
    go_wp2_with (go_at_call 4; refine (HY.out _).mono ?_; rintro e w' ⟨rfl, hw⟩; rw [hw]; clear hw)
    all_goals
      go_ret
      exact ⟨rfl, Below.refl _ _⟩
  · have R1 := self_rule h1
    have R2 := nan_rule h
    clear h h1
    go_enter Try.func3, Try.ntmps3
    go_wp2_with (go_at_call 4; refine (HY.out _).mono ?_; rintro e w' ⟨rfl, hw⟩; rw [hw]; clear hw)
    all_goals
      go_ret
      exact ⟨rfl, Below.refl _ _⟩
  · have R1 := self_rule h1
    have R2 := self_rule h2
    have R3 := nan_rule h
    clear h h1 h2
    go_enter Try.func3, Try.ntmps3
    go_wp2_with (go_at_call 4; refine (HY.out _).mono ?_; rintro e w' ⟨rfl, hw⟩; rw [hw]; clear hw)
    all_goals
      go_ret
      exact ⟨rfl, Below.refl _ _⟩
  · have R1 := self_rule h1
    have R2 := self_rule h2
    have R3 := self_rule h3
    have R4 := lt_rule h1 val_zero
    clear h1 h2 h3
    go_enter Try.func3, Try.ntmps3
    go_wp2_with (go_at_call 4; refine (HY.out _).mono ?_; rintro e w' ⟨rfl, hw⟩; rw [hw]; clear hw)
    all_goals
      go_ret
      exact ⟨rfl, Below.refl _ _⟩
end Go.Proofs.Qxb6617135a
