/-
  The walk over FnUnderKeepsLeastRoom: cases 3.
-/
import Derived.Test.Qxb6617135aRule
namespace Go.Proofs.Qxb6617135a
open Go.RowKit
set_option linter.unusedVariables false

set_option maxRecDepth 100000 in
set_option maxHeartbeats 4000000 in
theorem core3 (r a b ca cb x1 x2 : Nat) (rl la lb l1 : ByteArray) (u va vb : Int) (w : World)
    (s1 : rl.size ≤ 262144) (s2 : la.size ≤ 262144) (s3 : lb.size ≤ 262144)
    (hr : val r = some u) (ha : val a = some va) (hb : val b = some vb) (hca : val ca = some va) (hcb : val cb = some 0) (hx2 : val x2 = some 0)
    (h0 : 0 ≤ u) (H1 : Hid (∀ w, Calls Try.prog 5 #[.agg #[.float .f64 r, .string rl], .float .f64 a, .string la] w fun e w' => e = .returned (.agg #[.float .f64 x1, .string l1]) ∧ Below w.heap.size w w'))
    (H2 : Hid (∀ w, Calls Try.prog 5 #[.agg #[.float .f64 x1, .string l1], .float .f64 b, .string lb] w fun e w' => e = .returned (.agg #[.float .f64 x2, .string lb]) ∧ Below w.heap.size w w'))
    (H3 : Hid (∀ w, Calls Try.prog 6 #[.float .f64 a] w fun e w' => e = .returned (.float .f64 ca) ∧ w' = w))
    (H4 : Hid (∀ w, Calls Try.prog 6 #[.float .f64 b] w fun e w' => e = .returned (.float .f64 cb) ∧ w' = w))
    (k1 : 0 ≤ va) (k2 : vb < 0) :
    Calls Try.prog 3 #[.float .f64 r, .string rl, .float .f64 a, .string la, .float .f64 b, .string lb] w fun e w' => e = .returned (.bool true) ∧ Below w.heap.size w w' := by
  have Q1 := lt_rule hr val_zero
  have Q2 := lt_rule ha val_zero
  have Q3 := lt_rule hb val_zero
  have Q4 := lt_rule hca hr
  have Q5 := lt_rule hcb hr
  have Q6 := lt_rule hcb hca
  have E1 := eq_rule hr val_zero
  have E2 := eq_rule hca val_zero
  have E3 := eq_rule hcb val_zero
  have E4 := eq_rule hr hr
  have E5 := eq_rule hr hca
  have E6 := eq_rule hr hcb
  have E7 := eq_rule hca hr
  have E8 := eq_rule hca hca
  have E9 := eq_rule hca hcb
  have E10 := eq_rule hx2 hr
  have E11 := eq_rule hx2 hca
  have E12 := eq_rule hx2 hcb
  have N1 := self_rule hr
  have N2 := self_rule ha
  have N3 := self_rule hb
  have HY := hide (fun w => bytes_ok r a b rl la lb w s1 s2 s3)
  clear hr ha hb hca hcb hx2
  go_enter Try.func3, Try.ntmps3
  go_wp2_with (first
    | (go_at_call 4
       refine (HY.out _).mono ?_
       rintro e w' ⟨rfl, rfl⟩)
    | (refine wpList_store_row rfl 25 _ _ rfl _ _ rfl rfl 25 _ (one_at _ _) info25 rfl (one2 _ _) ?_; rw [World.setRow_alloc_new])
    | (go_at_call 5
       refine (H1.out _).mono ?_
       rintro e w1 ⟨rfl, hB1⟩)
    | (go_at_call 5
       refine (H2.out _).mono ?_
       rintro e w2 ⟨rfl, hB2⟩)
    | (go_at_call 6
       refine (H3.out _).mono ?_
       rintro e w' ⟨rfl, rfl⟩)
    | (go_at_call 6
       refine (H4.out _).mono ?_
       rintro e w' ⟨rfl, rfl⟩))
  all_goals
    go_ret
    have A0 := (Below.refl w'.heap.size w').alloc (Nat.le_refl _) (.cells #[.float .f64 r, .string rl] 25)
    have A1 := A0.trans (hB1.mono A0.size)
    have A2 := A1.trans (hB2.mono A1.size)
    exact ⟨rfl, A2.alloc A2.size _⟩

end Go.Proofs.Qxb6617135a
