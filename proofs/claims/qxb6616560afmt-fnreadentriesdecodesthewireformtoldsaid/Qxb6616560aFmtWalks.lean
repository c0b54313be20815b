import Derived.Test.Qxb6616560aFmtCards
import Derived.Test.Qxb6616560aFmtShelf
import Derived.Test.Qxb6616560aFmtFacts
import Derived.Test.Qxb6616560aFmtPlain
import Derived.WalkKit
import Derived.WalkSpells
import Derived.WalkLawsBesides
import Derived.RowKit3
import Derived.Below
import Derived.Deep.QuietTactic
import Derived.BigQuiet
namespace Go.Proofs.Qxb6616560aFmt
open Go.RowKit Go.Extern.Stop Go.Stop Go.Extern
set_option linter.unusedVariables false
attribute [local go_sem] Tryf.call20 Tryf.guard Tryf.fmt0 Tryf.fmt0r Tryf.fmt1 Tryf.fmt1r Tryf.op9_115w Tryf.op3_100w Tryf.op30_100w Tryf.ptr52 Tryf.elem52 Tryf.ptr51 Tryf.elem51

theorem hide {p : Prop} (h : p) : Hid p := h

def fmtShort : ByteArray := ⟨#[37, 115, 32, 105, 115, 32, 99, 117, 116, 32, 115, 104, 111, 114, 116, 44, 32, 116, 111, 111, 32, 108, 111, 110, 103, 32, 111, 114, 32, 112, 97, 100, 100, 101, 100]⟩

set_option maxHeartbeats 400000 in
theorem errorf_short (F : Interp) (b : Nat) (nm : ByteArray) (w : World) (hF : F.answers w.tape) (hc : w.cell? ⟨b, 0, none⟩ = some (.iface 9 (.string nm))) :
    Calls Tryf.prog 18 #[.string ⟨#[37, 115, 32, 105, 115, 32, 99, 117, 116, 32, 115, 104, 111, 114, 116, 44, 32, 116, 111, 111, 32, 108, 111, 110, 103, 32, 111, 114, 32, 112, 97, 100, 100, 101, 100]⟩, .slice (some ⟨b, 0, none⟩) 1 1] w fun e w' => 
      (∃ p, e = .returned (.iface 52 (.pointer (some p)))) ∧ Below w.heap.size w w' := by
  have hF' := answers_open hF
  go_enter Tryf.func18, Tryf.ntmps18
  go_wp2
  go_ret
  exact ⟨⟨_, rfl⟩, ((Below.refl _ _).alloc (Nat.le_refl _) _).drew⟩

set_option maxHeartbeats 400000 in
theorem errorf_limit (F : Interp) (b : Nat) (x y z : Int) (w : World) (hF : F.answers w.tape) (hc : w.cell? ⟨b, 0, none⟩ = some (.iface 3 (.int .i64 x))) (hc1 : w.cell? ⟨b, 1, none⟩ = some (.iface 30 (.int .u64 y))) (hc2 : w.cell? ⟨b, 2, none⟩ = some (.iface 3 (.int .i64 z))) :
    Calls Tryf.prog 18 #[.string ⟨#[97, 110, 32, 101, 110, 116, 114, 121, 32, 102, 111, 114, 32, 112, 114, 111, 99, 101, 115, 115, 32, 37, 100, 32, 43, 32, 37, 100, 32, 105, 115, 32, 97, 116, 32, 111, 114, 32, 112, 97, 115, 116, 32, 116, 104, 101, 32, 108, 105, 109, 105, 116, 32, 111, 102, 32, 37, 100, 32, 112, 114, 111, 99, 101, 115, 115, 101, 115]⟩, .slice (some ⟨b, 0, none⟩) 3 3] w fun e w' => 
      (∃ p, e = .returned (.iface 52 (.pointer (some p)))) ∧ Below w.heap.size w w' := by
  have hF' := answers_open hF
  go_enter Tryf.func18, Tryf.ntmps18
  go_wp2
  go_ret
  exact ⟨⟨_, rfl⟩, ((Below.refl _ _).alloc (Nat.le_refl _) _).drew⟩

set_option maxHeartbeats 400000 in
theorem uvarintLen_any (n : Nat) (hn : n < 18446744073709551616) (w : World) :
    Calls Tryf.prog 17 #[.int .u64 n] w fun e w' => e = .returned (.int .i64 (Pl.ulen n)) ∧ w' = w := by
  have hl := Lib.bitLen_le n 64 (by omega) (by omega)
  obtain ⟨L, hL⟩ : ∃ L, L = Lib.bitLen n := ⟨_, rfl⟩
  have e : Pl.ulen n = max 1 ((L + 6) / 7) := by rw [hL]; rfl
  have E := hide e
  rw [← hL] at hl
  have hlen : ∀ w, Calls Tryf.prog 19 #[.int .u64 n] w fun e w' => e = .returned (.int .i64 L) ∧ w' = w := by
    intro w
    refine (Tryf.bits_Len64 n w (by omega) (by omega)).mono ?_
    rintro e w' ⟨rfl, rfl⟩
    rw [hL]; exact ⟨by simp, rfl⟩
  have HL := hide hlen
  clear hlen e hL
  go_enter Tryf.func17, Tryf.ntmps17
  go_wp2_with (go_at_call 19; refine (HL.out _).mono ?_; rintro e w' ⟨rfl, rfl⟩)
  go_ret
  refine ⟨?_, rfl⟩
  show Ending.returned (.int .i64 (max 1 (((L : Int) + 6) / 7))) = _
  rw [E.out, show max 1 (((L : Int) + 6) / 7) = ((max 1 ((L + 6) / 7) : Nat) : Int) by omega]

/-- A slice of bytes in memory: its bytes. -/
def Sl (B : Nat) (w : World) (v : Value) (l : List UInt8) : Prop :=
  ∃ ao c, v = .slice ao l.length c ∧ l.length ≤ c ∧ c ≤ 1048576 ∧ (l = [] ∨ ∃ g o, ao = some ⟨g, o, none⟩ ∧ g < B ∧ ∀ j (hj : j < l.length), w.cell? ⟨g, o + j, none⟩ = some (.int .u8 (l[j]).toNat))

theorem Sl.below {B : Nat} {w w' : World} {v : Value} {l : List UInt8} (h : Sl B w v l) (k : Below B w w') : Sl B w' v l := by
  obtain ⟨ao, c, rfl, h1, h2, h3⟩ := h
  refine ⟨ao, c, rfl, h1, h2, ?_⟩
  rcases h3 with h3 | ⟨g, o, rfl, hg, hc⟩
  · exact .inl h3
  · exact .inr ⟨g, o, rfl, hg, fun j hj => by rw [k.cell (p := ⟨g, o + j, none⟩) hg, hc j hj]⟩

theorem Sl.mono {B B' : Nat} {w : World} {v : Value} {l : List UInt8} (h : Sl B w v l) (k : B ≤ B') : Sl B' w v l := by
  obtain ⟨ao, c, rfl, h1, h2, h3⟩ := h
  refine ⟨ao, c, rfl, h1, h2, ?_⟩
  rcases h3 with h3 | ⟨g, o, rfl, hg, hc⟩
  · exact .inl h3
  · exact .inr ⟨g, o, rfl, Nat.lt_of_lt_of_le hg k, hc⟩

theorem Sl.cut0 {B : Nat} {w : World} {l : List UInt8} {k c : Nat} (a : Option Addr) (hkl : k ≤ l.length) (hlc : l.length ≤ c) (e : c = k) : Sl B w (.slice a (l.length - k) 0) (l.drop k) := by
  have : l.drop k = [] := List.drop_eq_nil_of_le (by omega)
  refine ⟨_, 0, by rw [List.length_drop], by rw [List.length_drop]; omega, by omega, .inl this⟩

theorem Sl.cut {B : Nat} {w : World} {l : List UInt8} {g o k c : Nat} (hkl : k ≤ l.length) (hlc : l.length ≤ c) (hc : c ≤ 1048576) (hg : g < B)
    (hcell : ∀ j (hj : j < l.length), w.cell? ⟨g, o + j, none⟩ = some (.int .u8 (l[j]).toNat)) : Sl B w (.slice (some ⟨g, o + k, none⟩) (l.length - k) (c - k)) (l.drop k) := by
  refine ⟨_, c - k, by rw [List.length_drop], by rw [List.length_drop]; omega, by omega, .inr ⟨g, o + k, rfl, hg, fun j hj => ?_⟩⟩
  rw [List.length_drop] at hj
  rw [Nat.add_assoc, hcell (k + j) (by omega)]
  simp

theorem uvarint_any {B : Nat} (v : Value) (l : List UInt8) (w : World) (hv : Sl B w v l) :
    Calls Tryf.prog 16 #[v] w fun e w' => e = .returned (.tuple #[.int .u64 (Lib.uvarintDec l).1, .int .i64 (Lib.uvarintDec l).2]) ∧ w' = w := by
  obtain ⟨ao, c, rfl, hlc, hc, hl⟩ := hv
  rcases hl with rfl | ⟨g, o, rfl, hg, hcell⟩
  · exact Tryf.binary_Uvarint_empty ao c w
  · exact Tryf.binary_Uvarint g o l.length c l w rfl hcell

set_option maxHeartbeats 400000 in
theorem readUvarint_yes (B : Nat) (v : Value) (nm : ByteArray) (l : List UInt8) (n k : Nat) (w : World) (hv : Sl B w v l) (hu : Pl.uv l = some (n, k)) :
    Calls Tryf.prog 13 #[v, .string nm] w fun e w' => (∃ v', e = .returned (.tuple #[.int .u64 n, v', .nilIface]) ∧ Sl B w' v' (l.drop k)) ∧ Below w.heap.size w w' := by
  obtain ⟨hd, hk, hk1, hkl, hn⟩ := Pl.uv_some hu
  have hdec := uvarint_any v l w hv
  rw [hd] at hdec
  obtain ⟨ao, c, rfl, hlc, hc, hl⟩ := hv
  rcases hl with rfl | ⟨g, o, rfl, hg, hcell⟩
  · simp at hkl; omega
  have hlen : ∀ w, Calls Tryf.prog 17 #[.int .u64 n] w fun e w' => e = .returned (.int .i64 k) ∧ w' = w := by
    intro w
    rw [hk]; exact uvarintLen_any n hn w
  have HD := hide hdec
  have HL := hide hlen
  have HC := hide hcell
  clear hd hk hdec hlen hu hcell
  go_enter Tryf.func13, Tryf.ntmps13
  go_wp2_with (first | (go_at_call 16; refine (HD.out).mono ?_; rintro e w' ⟨rfl, rfl⟩) | (go_at_call 17; refine (HL.out _).mono ?_; rintro e w' ⟨rfl, rfl⟩))
  go_quiet (fail)
  go_wp2
  · have hck : c = k := by assumption
    go_ret3
    exact ⟨⟨_, rfl, Sl.cut0 _ hkl hlc hck⟩, below_drewN (Below.refl _ _) _⟩
  · go_ret3
    exact ⟨⟨_, rfl, Sl.below (Sl.cut hkl hlc hc hg HC.out) (below_drewN (Below.refl _ _) _)⟩, below_drewN (Below.refl _ _) _⟩

set_option maxHeartbeats 400000 in
theorem readUvarint_no (F : Interp) (B : Nat) (v : Value) (nm : ByteArray) (l : List UInt8) (w : World) (hF : F.answers w.tape) (hv : Sl B w v l) (hu : Pl.uv l = none) :
    Calls Tryf.prog 13 #[v, .string nm] w fun e w' => (∃ p, e = .returned (.tuple #[.int .u64 0, .slice none 0 0, .iface 52 (.pointer (some p))])) ∧ Below w.heap.size w w' := by
  have hne := Pl.uv_none hu
  have hdec := uvarint_any v l w hv
  have hlt := Lib.uvarintDec_lt l
  generalize (Lib.uvarintDec l).1 = n at *
  generalize (Lib.uvarintDec l).2 = z at *
  have hlen : ∀ w, Calls Tryf.prog 17 #[.int .u64 n] w fun e w' => e = .returned (.int .i64 (Pl.ulen n)) ∧ w' = w := fun w => uvarintLen_any n hlt w
  generalize Pl.ulen n = m at *
  have hne' : (z != (m : Int)) = true := by simpa using hne
  have HD := hide hdec
  have HL := hide hlen
  clear hdec hlen hu hne hv
  go_enter Tryf.func13, Tryf.ntmps13
  go_wp2_with (first | (go_at_call 16; refine (HD.out).mono ?_; rintro e w' ⟨rfl, rfl⟩) | (go_at_call 17; refine (HL.out _).mono ?_; rintro e w' ⟨rfl, rfl⟩))
  refine (errorf_short F _ nm _ (by exact hF) (by simp [go_sem])).mono ?_
  rintro e w1 ⟨⟨p, rfl⟩, hb⟩
  go_wp2
  go_ret3
  exact ⟨⟨_, rfl⟩, ((Below.refl _ _).alloc (Nat.le_refl _) _).trans (hb.mono (by simp))⟩

set_option maxHeartbeats 400000 in
theorem gap_yes (B : Nat) (v : Value) (x : Int) (l : List UInt8) (n k : Nat) (w : World) (hv : Sl B w v l) (hu : Pl.uv l = some (n, k)) :
    Calls Tryf.prog 12 #[v, .int .i64 x] w fun e w' => (∃ v', e = .returned (.tuple #[.int .u64 n, v', .nilIface]) ∧ Sl B w' v' (l.drop k)) ∧ Below w.heap.size w w' := by
  have HV := hide hv
  have HU := hide hu
  clear hu hv
  go_enter Tryf.func12, Tryf.ntmps12
  go_wp2_with (go_at_call 13; refine (readUvarint_yes B v _ l n k _ HV.out HU.out).mono ?_; rintro e w' ⟨⟨v', rfl, hs⟩, hb⟩)
  go_ret3
  exact ⟨⟨_, rfl, hs⟩, hb⟩

set_option maxHeartbeats 400000 in
theorem gap_no (F : Interp) (B : Nat) (v : Value) (x : Int) (l : List UInt8) (w : World) (hF : F.answers w.tape) (hv : Sl B w v l) (hu : Pl.uv l = none) :
    Calls Tryf.prog 12 #[v, .int .i64 x] w fun e w' => (∃ p, e = .returned (.tuple #[.int .u64 0, .slice none 0 0, .iface 52 (.pointer (some p))])) ∧ Below w.heap.size w w' := by
  have HV := hide hv
  have HU := hide hu
  clear hu hv
  go_enter Tryf.func12, Tryf.ntmps12
  go_wp2_with (go_at_call 13; refine (readUvarint_no F B v _ l _ (by exact hF) HV.out HU.out).mono ?_; rintro e w' ⟨⟨p, rfl⟩, hb⟩)
  go_ret3
  exact ⟨⟨_, rfl⟩, hb⟩
end Go.Proofs.Qxb6616560aFmt
