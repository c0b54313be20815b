/-
  The proof of 'Rows.FnUnderKeepsLeastRoomSaid'.
-/
import Derived.Test.Qxb6617135aLawA
import Derived.Test.Qxb6617135aLawB
import Derived.Test.Qxb6617135aLawC
import Derived.Test.Qxb6617135aLawD
import Derived.Test.Qxb6617135aShort
import Derived.WalkKit
import Derived.ProofKit
import Derived.OpenShut
import Derived.ShutString
import Derived.ChangeOld
import Derived.Below
namespace Go.Proofs.Qxb6617135a.fnUnderKeepsLeastRoom
open Go.ChangeShapes Go.WideShapes Go.ChangeAt Go.RowKit
open Go.ChangeMaps (open_string shut_string)
set_option linter.unusedVariables false

theorem own : ownKnob Try.prog.godebug = none := by kernel_rfl

theorem walk (r : Nat) (rl : ByteArray) (a : Nat) (la : ByteArray) (b : Nat) (lb : ByteArray) (w : World) :
    Calls Try.prog 3 #[.float .f64 r, .string rl, .float .f64 a, .string la, .float .f64 b, .string lb] w fun e w' => e = .returned (.bool true) ∧ Below w.heap.size w w' := by
  by_cases s1 : 262144 < rl.size
  · exact short_len r a b rl la lb w (.inl s1)
  by_cases s2 : 262144 < la.size
  · exact short_len r a b rl la lb w (.inr (.inl ⟨by omega, s2⟩))
  by_cases s3 : 262144 < lb.size
  · exact short_len r a b rl la lb w (.inr (.inr ⟨by omega, by omega, s3⟩))
  have s1 : rl.size ≤ 262144 := by omega
  have s2 : la.size ≤ 262144 := by omega
  have s3 : lb.size ≤ 262144 := by omega
  cases hr : val r with
  | none => exact short_num r a b rl la lb w s1 s2 s3 (.inl hr)
  | some u =>
  cases ha : val a with
  | none => exact short_num r a b rl la lb w s1 s2 s3 (.inr (.inl ⟨u, hr, ha⟩))
  | some va =>
  cases hb : val b with
  | none => exact short_num r a b rl la lb w s1 s2 s3 (.inr (.inr (.inl ⟨u, va, hr, ha, hb⟩)))
  | some vb =>
  by_cases h0 : u < 0
  · exact short_num r a b rl la lb w s1 s2 s3 (.inr (.inr (.inr ⟨u, va, vb, hr, ha, hb, h0⟩)))
  have h0 : 0 ≤ u := by omega
  obtain ⟨x1, z1, l1, hx1, hz1, H1⟩ := zz_any r a rl la u va hr ha
  obtain ⟨x2, z2, l2, hx2, hz2, H2⟩ := zz_any x1 b l1 lb z1 vb hx1 hb
  obtain ⟨ca, ua, hca, hua, H3⟩ := clamp_any a va ha
  obtain ⟨cb, ub, hcb, hub, H4⟩ := clamp_any b vb hb
  rcases hua with ⟨ka, rfl⟩ | ⟨ka, rfl⟩
  · have hz : z1 = 0 ∧ l1 = la := by
      rcases hz1 with ⟨h, _, _⟩ | ⟨_, h, h'⟩
      · omega
      · rw [if_pos ka] at h; exact ⟨h, h'⟩
    obtain ⟨rfl, rfl⟩ := hz
    rcases hub with ⟨kb, rfl⟩ | ⟨kb, rfl⟩
    · have hy : z2 = 0 ∧ l2 = lb := by
        rcases hz2 with ⟨h, _, _⟩ | ⟨_, h, h'⟩
        · omega
        · rw [if_pos kb] at h; exact ⟨h, h'⟩
      obtain ⟨rfl, rfl⟩ := hy
      exact core1 r a b ca cb x1 x2 rl l1 l2 l1 u va vb w s1 s2 s3 hr ha hb hca hcb hx2 h0 H1 H2 H3 H4 ka kb
    · have hy : z2 = 0 ∧ l2 = l1 := by
        rcases hz2 with ⟨_, h, h'⟩ | ⟨h, _, _⟩
        · exact ⟨h, h'⟩
        · omega
      obtain ⟨rfl, rfl⟩ := hy
      exact core2 r a b ca cb x1 x2 rl l2 lb l2 u va _ w s1 s2 s3 hr ha hb hca hcb hx2 h0 H1 H2 H3 H4 ka kb
  · rcases hub with ⟨kb, rfl⟩ | ⟨kb, rfl⟩
    · have hy : z2 = 0 ∧ l2 = lb := by
        rcases hz2 with ⟨h, _, _⟩ | ⟨_, h, h'⟩
        · rcases hz1 with ⟨_, g, _⟩ | ⟨_, g, _⟩
          · omega
          · rw [if_neg (by omega)] at g; omega
        · rw [if_pos kb] at h; exact ⟨h, h'⟩
      obtain ⟨rfl, rfl⟩ := hy
      exact core3 r a b ca cb x1 x2 rl la l2 l1 u _ vb w s1 s2 s3 hr ha hb hca hcb hx2 h0 H1 H2 H3 H4 ka kb
    · rcases hz1 with ⟨g, rfl, rfl⟩ | ⟨g, e1, rfl⟩
      · rcases hz2 with ⟨g2, rfl, rfl⟩ | ⟨g2, e2, rfl⟩
        · exact core4 r a b ca cb x1 x2 _ la lb _ _ _ _ w s1 s2 s3 hr ha hb hca hcb hx2 h0 H1 H2 H3 H4 ka kb g g2
        · rw [if_neg (by omega)] at e2
          subst e2
          exact core5 r a b ca cb x1 x2 _ la _ _ _ _ _ w s1 s2 s3 hr ha hb hca hcb hx2 h0 H1 H2 H3 H4 ka kb g g2
      · rw [if_neg (by omega)] at e1
        subst e1
        rcases hz2 with ⟨g2, rfl, rfl⟩ | ⟨g2, e2, rfl⟩
        · exact core6 r a b ca cb x1 x2 rl _ lb _ u _ _ w s1 s2 s3 hr ha hb hca hcb hx2 h0 H1 H2 H3 H4 ka kb g g2
        · rw [if_neg (by omega)] at e2
          subst e2
          exact core7 r a b ca cb x1 x2 rl _ _ _ u _ _ w s1 s2 s3 hr ha hb hca hcb hx2 h0 H1 H2 H3 H4 ka kb g g2

set_option maxRecDepth 100000 in
theorem lifted (os : Os) (started : os.Started) (H : Type) (enc : TypeId × Value → H) :
    ReturnsInHanded {} Try.checked os 3 .any (Rows.fnUnderKeepsLeastRoomSpec.pre6 enc Try.prog Try.f3 Rows.fnUnderKeepsLeastRoomRow.domain false) (Rows.fnUnderKeepsLeastRoomSpec.post enc Try.prog Try.f3 false true false false) := by
  refine returnsInHanded_of_change (C := Try.checked) own started (by kernel_rfl) Try.func3
    (ChangeSpec.witness6 (enc := enc) (C := Try.checked) false ⟨#[], #[.float .f64 0, .string ⟨#[]⟩, .float .f64 0, .string ⟨#[]⟩, .float .f64 0, .string ⟨#[]⟩], []⟩ 8 (by kernel_rfl) (by kernel_rfl) (by kernel_rfl) (by kernel_rfl)) ?_
  intro W base args ds gs before hval0 hW hcnd _
  have hval : ∀ (j : Nat) t v, Try.f3.params[j]? = some t → args[j]? = some v → Value.okWide Try.prog W .any base t v := hval0
  have hW' := hW
  obtain ⟨p, q, hA0, hV, rfl, hfz, hnd⟩ := hW
  have hA : DataW.TrodAll enc Try.prog W 0 (fun _ => true) true Try.f3.params.toList args.toList ds p := hA0
  rw [Try.params3] at hA hval
  obtain ⟨v0, vs0, d0, ds0, p0, q0, hargs, rfl, rfl, h0, r0⟩ := trodAll_cons hA
  obtain ⟨v1, vs1, d1, ds1, p1, q1, rfl, rfl, rfl, h1, r1⟩ := trodAll_cons r0
  obtain ⟨v2, vs2, d2, ds2, p2, q2, rfl, rfl, rfl, h2, r2⟩ := trodAll_cons r1
  obtain ⟨v3, vs3, d3, ds3, p3, q3, rfl, rfl, rfl, h3, r3⟩ := trodAll_cons r2
  obtain ⟨v4, vs4, d4, ds4, p4, q4, rfl, rfl, rfl, h4, r4⟩ := trodAll_cons r3
  obtain ⟨v5, vs5, d5, ds5, p5, q5, rfl, rfl, rfl, h5, r5⟩ := trodAll_cons r4
  obtain ⟨rfl, rfl, rfl⟩ := trodAll_nil r5
  obtain rfl : args = #[v0, v1, v2, v3, v4, v5] := by cases args; simp_all
  obtain ⟨rfl, rfl⟩ := trodVars_none hV
  obtain ⟨a0, rfl, rfl, rfl, w0⟩ := open_float Try.underlying22 (hval 0 22 v0 rfl rfl) h0
  obtain ⟨a1, rfl, rfl, rfl, w1⟩ := open_string Try.underlying9 (hval 1 9 v1 rfl rfl) h1
  obtain ⟨a2, rfl, rfl, rfl, w2⟩ := open_float Try.underlying22 (hval 2 22 v2 rfl rfl) h2
  obtain ⟨a3, rfl, rfl, rfl, w3⟩ := open_string Try.underlying9 (hval 3 9 v3 rfl rfl) h3
  obtain ⟨a4, rfl, rfl, rfl, w4⟩ := open_float Try.underlying22 (hval 4 22 v4 rfl rfl) h4
  obtain ⟨a5, rfl, rfl, rfl, w5⟩ := open_string Try.underlying9 (hval 5 9 v5 rfl rfl) h5
  clear hA0 hval0
  refine (walk a0 a1 a2 a3 a4 a5 W).mono fun e W' ⟨he, bel⟩ => ?_
  subst he
  exact ⟨_, rfl, _, _, _, [], _, [], hW', trodAll_mk1 (shut_bool Try.underlying4 _), (trodAll_cons_mk (shut_float Try.underlying22 w0) (trodAll_cons_mk (shut_string Try.underlying9 w1) (trodAll_cons_mk (shut_float Try.underlying22 w2) (trodAll_cons_mk (shut_string Try.underlying9 w3) (trodAll_cons_mk (shut_float Try.underlying22 w4) (trodAll_cons_mk (shut_string Try.underlying9 w5) trodAll_mk0)))))), rfl, bel.frame _, fun h => by cases h⟩

theorem over : Rows.fnUnderKeepsLeastRoomRow.holds Try.pinned (OpenSpec.ofChange Rows.fnUnderKeepsLeastRoomSpec) :=
  OpenClaim.holds_of_wide 3 Try.f3 rfl rfl rfl rfl rfl rfl rfl ⟨rfl, rfl, rfl, rfl, rfl⟩ rfl rfl rfl rfl rfl (by kernel_rfl) Try.func3 (by kernel_rfl)
    (of_decide_eq_true (by kernel_rfl)) (by unfold Func.isWrapper; first | (rw [if_pos (by decide +kernel)]; kernel_rfl) | (rw [if_neg (by decide +kernel)]; exact ⟨rfl, rfl⟩))
    (fun os started H enc _ => lifted os started H enc)

/-- The statement. -/
theorem proved : Rows.FnUnderKeepsLeastRoomSaid := over
end Go.Proofs.Qxb6617135a.fnUnderKeepsLeastRoom
