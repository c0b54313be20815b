/-
  zzUvarint: the law's own reader of a minimal unsigned varint.
-/
import Derived.Test.Qxb6616560aFmtHead
import Derived.Lib.VarintBits
namespace Go.Proofs.Qxb6616560aFmt
open Go.RowKit Go.Extern.Stop Go.Stop Go.Extern
set_option linter.unusedVariables false

theorem pow7 (k : Nat) (h : k ≤ 8) : 2 ^ (7 * k) * 128 ≤ 9223372036854775808 := by
  rw [show (128 : Nat) = 2 ^ 7 from rfl, ← Nat.pow_add, show (9223372036854775808 : Nat) = 2 ^ 63 from rfl]
  exact Nat.pow_le_pow_right (by omega) (by omega)

theorem or_acc (k acc b : Nat) (ha : acc < 2 ^ (7 * k)) (hk : k ≤ 9) (hlt : b * 2 ^ (7 * k) < 18446744073709551616) :
    bits .or .u64 (acc : Int) (IntKind.u64.wrap ((b : Int) * 2 ^ (7 * k))) = ((acc + b * 2 ^ (7 * k) : Nat) : Int) := by
  have hp : (2 : Nat) ^ (7 * k) ≤ 2 ^ 64 := Nat.pow_le_pow_right (by omega) (by omega)
  have e : (b : Int) * 2 ^ (7 * k) = ((b * 2 ^ (7 * k) : Nat) : Int) := by push_cast; rfl
  rw [e, wraps_u64 _ (by omega) (by omega)]
  rw [bits_join_low .u64 64 (by decide) wraps_u64 (7 * k) (acc : Int) ((b * 2 ^ (7 * k) : Nat) : Int) (by omega) (by exact_mod_cast ha) (by exact_mod_cast Nat.lt_of_lt_of_le ha hp) (by omega) ?_ (by omega)]
  · push_cast; rfl
  · have : (b * 2 ^ (7 * k)) % 2 ^ (7 * k) = 0 := Nat.mul_mod_left _ _
    exact_mod_cast this

theorem pow63 : (2 : Nat) ^ (7 * 9) = 9223372036854775808 := by decide

theorem uv_end {l : List UInt8} {k acc : Nat} (h : l.length ≤ k) (hd : Lib.uvarintFrom k acc (l.drop k) = Lib.uvarintDec l) : Pl.uv l = none := by
  rw [List.drop_eq_nil_of_le h] at hd
  unfold Pl.uv
  rw [← hd]
  exact Pl.fit_nonpos 0 (by omega)

theorem uv_ten {l : List UInt8} {acc : Nat} (hd : Lib.uvarintFrom 10 acc (l.drop 10) = Lib.uvarintDec l) : Pl.uv l = none := by
  unfold Pl.uv
  rw [← hd]
  cases l.drop 10 with
  | nil => exact Pl.fit_nonpos 0 (by omega)
  | cons b r =>
    have e : Lib.uvarintFrom 10 acc (b :: r) = (0, -11) := by simp [Lib.uvarintFrom]
    rw [e]
    exact Pl.fit_nonpos _ (by omega)

theorem from_cons {l : List UInt8} {k acc : Nat} (hk : k < l.length) (hd : Lib.uvarintFrom k acc (l.drop k) = Lib.uvarintDec l) : Lib.uvarintFrom k acc (l[k] :: l.drop (k + 1)) = Lib.uvarintDec l := by
  rw [← List.drop_eq_getElem_cons hk]; exact hd

theorem uv_nine {l : List UInt8} {acc : Nat} (hk : 9 < l.length) (hd : Lib.uvarintFrom 9 acc (l.drop 9) = Lib.uvarintDec l) (hb : (l[9]).toNat < 128) (hb1 : 1 < (l[9]).toNat) : Pl.uv l = none := by
  have h := from_cons hk hd
  unfold Pl.uv
  rw [← h]
  have e : Lib.uvarintFrom 9 acc (l[9] :: l.drop (9 + 1)) = (0, -10) := by simp only [Lib.uvarintFrom]; rw [if_neg (by decide), if_pos hb, if_pos ⟨trivial, hb1⟩]; rfl
  rw [e]
  exact Pl.fit_nonpos _ (by omega)

theorem uv_pad {l : List UInt8} {k acc : Nat} (hk : k < l.length) (hk9 : k ≤ 9) (hk0 : 0 < k) (ha : acc < 2 ^ (7 * k)) (hd : Lib.uvarintFrom k acc (l.drop k) = Lib.uvarintDec l) (hb : (l[k]).toNat = 0) : Pl.uv l = none := by
  have h := from_cons hk hd
  unfold Pl.uv
  rw [← h]
  have e : Lib.uvarintFrom k acc (l[k] :: l.drop (k + 1)) = (acc, (k : Int) + 1) := by simp only [Lib.uvarintFrom]; rw [if_neg (by omega), if_pos (by omega), if_neg (by omega), hb]; simp
  rw [e]
  exact Pl.fit_padded acc k hk0 hk9 ha

theorem uv_good {l : List UInt8} {k acc : Nat} (hk : k < l.length) (hk9 : k ≤ 9) (ha : acc < 2 ^ (7 * k)) (hd : Lib.uvarintFrom k acc (l.drop k) = Lib.uvarintDec l) (hb : (l[k]).toNat < 128)
    (h9 : ¬ (k = 9 ∧ 1 < (l[k]).toNat)) (h0 : ¬ (0 < k ∧ (l[k]).toNat = 0)) (hlt : acc + (l[k]).toNat * 2 ^ (7 * k) < 18446744073709551616) : Pl.uv l = some (acc + (l[k]).toNat * 2 ^ (7 * k), k + 1) := by
  have h := from_cons hk hd
  unfold Pl.uv
  rw [← h]
  have e : Lib.uvarintFrom k acc (l[k] :: l.drop (k + 1)) = (acc + (l[k]).toNat * 2 ^ (7 * k), (k : Int) + 1) := by simp only [Lib.uvarintFrom]; rw [if_neg (by omega), if_pos hb, if_neg h9]
  rw [e]
  exact Pl.fit_good acc _ k hk9 ha hb (by omega) (by omega)

theorem from_more {l : List UInt8} {k acc : Nat} (hk : k < l.length) (hk9 : k ≤ 9) (hd : Lib.uvarintFrom k acc (l.drop k) = Lib.uvarintDec l) (hb : ¬ (l[k]).toNat < 128) :
    Lib.uvarintFrom (k + 1) (acc + (l[k]).toNat % 128 * 2 ^ (7 * k)) (l.drop (k + 1)) = Lib.uvarintDec l := by
  have h := from_cons hk hd
  rw [← h]
  simp only [Lib.uvarintFrom]
  rw [if_neg (by omega), if_neg hb]

/-- What zzUvarint hands back. -/
def Zu (l : List UInt8) (e : Ending) : Prop :=
  (Pl.uv l = none ∧ e = .returned (.tuple #[.int .u64 0, .int .i64 0, .bool false])) ∨ ∃ n k : Nat, Pl.uv l = some (n, k) ∧ e = .returned (.tuple #[.int .u64 n, .int .i64 k, .bool true])

set_option maxRecDepth 100000 in
set_option maxHeartbeats 2000000 in
theorem zzUv_any (B : Nat) (v : Value) (l : List UInt8) (w : World) (hv : Sl B w v l) :
    Calls Tryf.prog 7 #[v] w fun e w' => Zu l e ∧ w' = w := by
  obtain ⟨ao, c, rfl, hlc, hc, hl⟩ := hv
  have HL := hide hl
  have hl20 : l.length ≤ 1048576 := by omega
  clear hl
  go_enter Tryf.func7, Tryf.ntmps7
  go_wp2_with fail
  go_loop [5, 6, 7] (fun x s i => ∃ (k acc : Nat) (xv : Int), i = .int .i64 k ∧ s = .int .u64 ((7 * k : Nat) : Int) ∧ x = .int .u64 xv ∧ k ≤ 10 ∧ k ≤ l.length ∧ (k ≤ 9 → xv = (acc : Int) ∧ acc < 2 ^ (7 * k)) ∧ Lib.uvarintFrom k acc (l.drop k) = Lib.uvarintDec l) (fun _ _ i => 10 - (intOf i).toNat)
  case atStart => exact ⟨0, 0, 0, rfl, rfl, rfl, by omega, by omega, fun _ => ⟨rfl, by decide⟩, rfl⟩
  case round =>
    obtain ⟨k, acc, xv, rfl, rfl, rfl, hk10, hkl, hacc, hdec⟩ := hrel
    have HD := hide hdec
    have HA := hide hacc
    clear hdec hacc
    by_cases hk1 : k < l.length
    · have d1 : decide ((k : Int) < l.length) = true := by simp; omega
      by_cases hk2 : k < 10
      · obtain ⟨rfl, hlt⟩ := HA.out (by omega)
        have HLT := hide hlt
        clear hlt HA
        rcases HL.out with h | ⟨g, o, rfl, hg, hcell⟩
        · rw [h] at hk1; simp at hk1
        have hcl := hcell k hk1
        have hb256 : (l[k]).toNat < 256 := UInt8.toNat_lt _
        obtain ⟨b, hb⟩ : ∃ b, (l[k]).toNat = b := ⟨_, rfl⟩
        rw [hb] at hcl hb256
        have HB := hide hb
        clear hcell HL hb
        by_cases h9 : k = 9
        · subst h9
          have hacc : acc < 9223372036854775808 := HLT.out
          by_cases hb : b < 128
          · by_cases h1 : 1 < b
            · have hu : Pl.uv l = none := uv_nine hk1 HD.out (by rw [HB.out]; exact hb) (by rw [HB.out]; exact h1)
              have HU := hide hu
              clear hu
              have e1 : decide (1 < b) = true := by simpa using h1
              go_wp2
              go_ret3
              exact ⟨.inl ⟨HU.out, rfl⟩, rfl⟩
            · by_cases h0 : b = 0
              · have hu : Pl.uv l = none := uv_pad hk1 (by omega) (by omega) HLT.out HD.out (by rw [HB.out]; exact h0)
                have HU := hide hu
                clear hu
                subst h0
                go_wp2
                go_ret3
                exact ⟨.inl ⟨HU.out, rfl⟩, rfl⟩
              · have hb1 : b = 1 := by omega
                have hu := uv_good hk1 (by omega) HLT.out HD.out (by rw [HB.out]; exact hb) (by rw [HB.out]; omega) (by rw [HB.out]; omega) (by rw [HB.out, hb1]; omega)
                rw [HB.out] at hu
                have HU := hide hu
                have ho := or_acc 9 acc b HLT.out (by omega) (by rw [hb1]; decide)
                have HO := hide ho
                clear hu ho
                subst hb1
                go_wp2
                rw [u64_orv63 (acc : Int) 9223372036854775808 (by omega) (by omega) (by omega) (by omega) (by omega)]
                go_ret3
                refine ⟨.inr ⟨acc + 1 * 2 ^ (7 * 9), 9 + 1, HU.out, ?_⟩, rfl⟩
                have e : ((acc + 1 * 2 ^ (7 * 9) : Nat) : Int) = (acc : Int) + 9223372036854775808 := by
                  rw [pow63]; omega
                rw [e]
                rfl
          · have hmore := from_more hk1 (by omega) HD.out (by rw [HB.out]; exact hb)
            rw [HB.out] at hmore
            have HM := hide hmore
            clear hmore
            have e1 : ¬ b < 128 := hb
            go_wp2
            go_round
            case rel => exact ⟨10, _, _, rfl, rfl, rfl, by omega, by omega, fun h => absurd h (by omega), HM.out⟩
            case measure => simp [intOf]
        · have hk8 : k ≤ 8 := by omega
          have h9' : ((k : Int) == 9) = false := by simp; omega
          have hp := pow7 k hk8
          have hlt := HLT.out
          by_cases hb : b < 128
          · by_cases h0 : 0 < k ∧ b = 0
            · obtain ⟨h0, rfl⟩ := h0
              have hu : Pl.uv l = none := uv_pad hk1 (by omega) h0 HLT.out HD.out HB.out
              have HU := hide hu
              clear hu hp hlt
              go_wp2
              go_ret3
              exact ⟨.inl ⟨HU.out, rfl⟩, rfl⟩
            · have hbp : b * 2 ^ (7 * k) < 18446744073709551616 ∧ acc + b * 2 ^ (7 * k) < 18446744073709551616 := by
                have h1 : b * 2 ^ (7 * k) ≤ 127 * 2 ^ (7 * k) := Nat.mul_le_mul_right _ (by omega)
                omega
              have hu := uv_good hk1 (by omega) HLT.out HD.out (by rw [HB.out]; exact hb) (by rw [HB.out]; omega) (by rw [HB.out]; omega) (by rw [HB.out]; exact hbp.2)
              rw [HB.out] at hu
              have HU := hide hu
              have ho := or_acc k acc b HLT.out (by omega) hbp.1
              have HO := hide ho
              clear hu ho hbp hp hlt
              by_cases hk0 : 0 < k
              · have hb0 : ((b : Int) == 0) = false := by simp; omega
                clear h0
                go_wp2
                rw [HO.out]
                go_ret3
                exact ⟨.inr ⟨_, _, HU.out, rfl⟩, rfl⟩
              · clear h0
                go_wp2
                rw [HO.out]
                go_ret3
                exact ⟨.inr ⟨_, _, HU.out, rfl⟩, rfl⟩
          · have hmore := from_more hk1 (by omega) HD.out (by rw [HB.out]; exact hb)
            rw [HB.out] at hmore
            obtain ⟨m, hm⟩ : ∃ m, b % 128 = m := ⟨_, rfl⟩
            rw [hm] at hmore
            have hm128 : m < 128 := by omega
            have hand : bits .and .u8 (b : Int) 127 = (m : Int) := by rw [u8_and127 _ (by omega) (by omega), ← hm]; omega
            have hbp : m * 2 ^ (7 * k) < 18446744073709551616 ∧ acc + m * 2 ^ (7 * k) < 2 ^ (7 * (k + 1)) := by
              have h1 : m * 2 ^ (7 * k) ≤ 127 * 2 ^ (7 * k) := Nat.mul_le_mul_right _ (by omega)
              have h2 : (2 : Nat) ^ (7 * (k + 1)) = 2 ^ (7 * k) * 128 := by rw [show 7 * (k + 1) = 7 * k + 7 by omega, Nat.pow_add]
              omega
            have ho := or_acc k acc m HLT.out (by omega) hbp.1
            have HO := hide ho
            have HM := hide hmore
            have HP := hide hbp
            clear hmore ho hbp hp hlt hm
            go_wp2
            go_round
            case rel => exact ⟨k + 1, acc + m * 2 ^ (7 * k), _, by go_num, by go_num, rfl, by omega, by omega, fun _ => ⟨HO.out, HP.out.2⟩, HM.out⟩
            case measure => simp [intOf]; omega
      · have hten : k = 10 := by omega
        have hu : Pl.uv l = none := by subst hten; exact uv_ten HD.out
        have HU := hide hu
        clear hu hten
        go_wp2
        go_ret3
        exact ⟨.inl ⟨HU.out, rfl⟩, rfl⟩
    · have d1 : decide ((k : Int) < l.length) = false := by simp; omega
      have hu := uv_end (by omega) HD.out
      have HU := hide hu
      clear hu
      go_wp2
      go_ret3
      exact ⟨.inl ⟨HU.out, rfl⟩, rfl⟩
end Go.Proofs.Qxb6616560aFmt
