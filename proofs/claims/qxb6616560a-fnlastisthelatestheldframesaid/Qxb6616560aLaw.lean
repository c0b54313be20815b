import Derived.Test.Qxb6616560aWalks
namespace Go.Proofs.Qxb6616560a
open Go.RowKit
set_option linter.unusedVariables false

set_option maxHeartbeats 400000 in
theorem law_short (a0 : Int) (a1 : Int) (w : World) (h : a1 = 0 ∨ 18446744073709551607 < a0) :
    Calls Try.prog 3 #[.int .u64 a0, .int .u8 a1] w fun e w' => e = .returned (.bool true) ∧ Below w.heap.size w w' := by
  by_cases hz : a1 = 0
  · subst hz
    clear h
    go_enter Try.func3, Try.ntmps3
    go_wp2
    go_ret
    exact ⟨rfl, Below.refl _ _⟩
  have hz' : (a1 == 0) = false := by simp [hz]
  have hg : 18446744073709551607 < a0 := by omega
  clear h hz
  go_enter Try.func3, Try.ntmps3
  go_wp2
  go_ret
  exact ⟨rfl, Below.refl _ _⟩

set_option maxHeartbeats 1000000 in
theorem law_long (f h : Int) (hf0 : 0 ≤ f) (hf : f ≤ 18446744073709551607) (hh0 : 1 ≤ h) (hh : h ≤ 255) (w : World) :
    Calls Try.prog 3 #[.int .u64 f, .int .u8 h] w fun e w' => e = .returned (.bool true) ∧ Below w.heap.size w w' := by
  obtain ⟨L, hL, hL1, hL8, hyes, hno⟩ := plain h hh0 hh
  have HL := hide hL
  have Hyes := hide hyes
  have Hno := hide hno
  clear hL hyes hno
  have hz' : (h == 0) = false := by simp; omega
  have hg' : decide (18446744073709551607 < f) = false := by simp; omega
  go_enter Try.func3, Try.ntmps3
  go_wp2_with (go_at_call 5; refine (pop8_any h (by omega) (by omega) _).mono ?_; rintro e w' ⟨⟨n, rfl⟩, rfl⟩)
  go_wp2_with (go_at_call 4; refine (newHead' f h n _).mono ?_; rintro e w1 ⟨b, rfl, H1, hb1⟩)
  go_wp2_with (go_at_call 6; refine (headLast b f h hf0 hf hh0 hh L HL hL1 hL8 _ H1).mono ?_; rintro e w2 ⟨q, rfl, hq0, hq, HQ, H2, hb2⟩)
  have d1 : decide (q < f) = false := by simp; omega
  have d2 : decide (8 ≤ q - f) = false := by simp; omega
  have ty : (bits BinOp.and IntKind.u8 (h / 2 ^ (q - f).toNat) 1 == 0) = !true := by
    have e := HQ.out
    rw [show q - f = L - 1 by omega]; exact Hyes.out
  have Ty := hide ty
  clear ty
  go_wp2_with (go_at_call 7; refine (holds_any b f h q hf0 hf (by omega) hh hq0 hq _ H2 true Ty.out).mono ?_; rintro e w3 ⟨rfl, hb3⟩)
  have H3 := H2.below hb3
  have hB : Below w'.heap.size w' w3 := (hb1.trans (hb2.mono hb1.size)).trans (hb3.mono (Nat.le_trans hb1.size hb2.size))
  clear hb1 hb2 hb3 H1 H2 Ty Hyes
  go_wp2_with fail
  go_loopw [7] (fun i wr => ∃ k : Int, i = .int .u64 k ∧ L ≤ k ∧ k ≤ 8 ∧ HeadAt wr b f h ∧ Below w'.heap.size w' wr) (fun i _ => (8 - intOf i).toNat)
  case atStart => exact ⟨_, rfl, by have := HQ.out; omega, by omega, H3, hB⟩
  case round =>
    obtain ⟨k, rfl, hk, hk8, HR, hbR⟩ := hrel
    by_cases hlt : k < 8
    · have tn : (bits BinOp.and IntKind.u8 (h / 2 ^ (f + k - f).toNat) 1 == 0) = !false := by
        rw [show f + k - f = k by omega]; exact Hno.out k hk hlt
      have Tn := hide tn
      clear tn
      go_wp2_with (go_at_call 7; refine (holds_any b f h (f + k) hf0 hf (by omega) hh (by omega) (by omega) _ HR false Tn.out).mono ?_; rintro e w4 ⟨rfl, hb4⟩)
      go_roundw
      case rel => exact ⟨k + 1, rfl, by omega, by omega, HR.below hb4, hbR.trans (hb4.mono hbR.size)⟩
      case measure => simp [intOf]; omega
    · go_wp2
      go_ret
      exact ⟨rfl, hbR⟩
end Go.Proofs.Qxb6616560a
