import Derived.Test.Qxb6616560aRows
import Derived.Test.Qxb6616560aShelf
import Derived.WalkKit
import Derived.WalkSpells
import Derived.WalkLawsBesides
import Derived.RowKit3
import Derived.Deep.QuietTactic
import Derived.BigQuiet
import Derived.Below
namespace Go.Proofs.Qxb6616560a
open Go.RowKit

set_option maxHeartbeats 400000 in
theorem pop8_any (x : Int) (hx0 : 0 ≤ x) (hx : x < 256) (w : World) :
    Calls Try.prog 5 #[.int .u8 x] w fun e w' => (∃ n, e = .returned (.int .i64 n)) ∧ w' = w := by
  go_enter Try.func5, Try.ntmps5
  go_wp2
  go_loop [0, 3] (fun a n => ∃ y m : Int, 0 ≤ y ∧ y < 256 ∧ a = .int .u8 y ∧ n = .int .i64 m) (fun a _ => (intOf a).toNat)
  case atStart => exact ⟨x, 0, hx0, hx, rfl, rfl⟩
  case round =>
    obtain ⟨y, m, hy0, hy, rfl, rfl⟩ := hrel
    by_cases hz : y = 0
    · have hz' : (y != 0) = false := by simp [hz]
      clear hz
      go_wp2
      go_ret
      exact ⟨⟨_, rfl⟩, rfl⟩
    · have hz' : (y != 0) = true := by simp [hz]
      go_wp2
      go_round
      case rel => exact ⟨y / 2, _, by omega, by omega, rfl, rfl⟩
      case measure => simp [intOf]; omega

/-- The head's cells. -/
def headCells (f h n : Int) : Array Value := #[.int .u64 f, .int .u8 h, .int .u8 0, .int .i64 n, .int .u64 0, .pointer none, .int .u64 0, .pointer none, .int .u64 0, .pointer none, .int .u64 0, .pointer none, .int .u64 0, .pointer none, .int .u64 0, .pointer none, .int .u64 0, .pointer none, .int .u64 0, .pointer none, .int .u64 0, .pointer none]

set_option maxHeartbeats 400000 in
theorem newHead (f h n : Int) (w : World) :
    Calls Try.prog 4 #[.int .u64 f, .int .u8 h, .int .i64 n, .agg #[.int .u64 0, .int .u64 0, .int .u64 0, .int .u64 0, .int .u64 0, .int .u64 0, .int .u64 0, .int .u64 0]] w fun e w' => 
      e = .returned (.pointer (some ⟨w.heap.size + 1, 0, none⟩)) ∧ ∃ c, w' = (w.alloc (.cells c 26)).alloc (.cells (headCells f h n) 36) := by
  go_enter Try.func4, Try.ntmps4
  go_wp2
  go_ret
  exact ⟨rfl, _, rfl⟩

set_option maxHeartbeats 400000 in
theorem last_any (b : Nat) (f h : Int) (hf0 : 0 ≤ f) (hf : f ≤ 18446744073709551607) (hh0 : 1 ≤ h) (hh : h ≤ 255) (l : Int) (hl : Hid (l = Lib.bitLen h.toNat)) (hl1 : 1 ≤ l) (hl8 : l ≤ 8) (w : World)
    (c0 : w.cell? ⟨b, 0, none⟩ = some (.int .u64 f)) (c1 : w.cell? ⟨b, 1, none⟩ = some (.int .u8 h)) :
    Calls Try.prog 8 #[.pointer (some ⟨b, 0, none⟩)] w fun e w' => e = .returned (.int .u64 (f + l - 1)) ∧ ∃ n, w' = w.drewN n := by
  have hlen : ∀ w, Calls Try.prog 10 #[.int .u8 h] w fun e w' => e = .returned (.int .i64 l) ∧ w' = w := by
    intro w
    refine (Try.bits_Len8 h w (by omega) (by omega)).mono ?_
    rintro e w' ⟨rfl, rfl⟩
    rw [hl.out]; exact ⟨rfl, rfl⟩
  have HL := Hid.out (p := _) hlen
  go_enter Try.func8, Try.ntmps8
  go_wp2
  go_quiet ((go_at_call 10; exact Calls.quiet_of_same (hlen _)))
  go_wp2
  go_ret
  exact ⟨rfl, _, rfl⟩

set_option linter.unusedVariables false
theorem hide {p : Prop} (h : p) : Hid p := h
theorem bcell {W : World} {b k : Nat} {v : Value} (hb : b < W.heap.size) (h : W.cell? ⟨b, k, none⟩ = some v) (o : Obj) : (W.alloc o).cell? ⟨b, k, none⟩ = some v := by
  rw [((Below.refl W.heap.size W).alloc (Nat.le_refl _) o).cell (p := ⟨b, k, none⟩) hb, h]

/-- What is asked of a head in memory. -/
structure HeadAt (w : World) (b : Nat) (f h : Int) : Prop where
  hb : b < w.heap.size
  c0 : w.cell? ⟨b, 0, none⟩ = some (.int .u64 f)
  c1 : w.cell? ⟨b, 1, none⟩ = some (.int .u8 h)
  va : ∀ i : Nat, i < 8 → w.cell? ⟨b, 6 + i * 2, none⟩ = some (.int .u64 0)
  vb : ∀ i : Nat, i < 8 → w.cell? ⟨b, 6 + i * 2 + 1, none⟩ = some (.pointer none)

theorem HeadAt.below {w w' : World} {b : Nat} {f h : Int} (H : HeadAt w b f h) (k : Below w.heap.size w w') : HeadAt w' b f h :=
  ⟨Nat.lt_of_lt_of_le H.hb k.size, by rw [k.cell (p := ⟨b, 0, none⟩) H.hb, H.c0], by rw [k.cell (p := ⟨b, 1, none⟩) H.hb, H.c1],
    fun i hi => by rw [k.cell (p := ⟨b, 6 + i * 2, none⟩) H.hb, H.va i hi], fun i hi => by rw [k.cell (p := ⟨b, 6 + i * 2 + 1, none⟩) H.hb, H.vb i hi]⟩

set_option maxHeartbeats 400000 in
theorem value_no (b : Nat) (f h q : Int) (hf0 : 0 ≤ f) (hf : f ≤ 18446744073709551607) (hh0 : 0 ≤ h) (hh : h ≤ 255) (hq0 : f ≤ q) (hq : q - f < 8) (w : World) (H : HeadAt w b f h)
    (ht : (bits BinOp.and IntKind.u8 (h / 2 ^ (q - f).toNat) 1 == 0) = true) :
    Calls Try.prog 9 #[.pointer (some ⟨b, 0, none⟩), .int .u64 q] w fun e w' => e = .returned (.tuple #[.agg #[.int .u64 0, .pointer none], .bool false]) ∧ Below w.heap.size w w' := by
  have d1 : decide (q < f) = false := by simp; omega
  have d2 : decide (8 ≤ q - f) = false := by simp; omega
  have e0 := bcell H.hb H.c0
  have e1 := bcell H.hb H.c1
  clear H
  go_enter Try.func9, Try.ntmps9
  go_wp2
  go_quiet (fail)
  go_wp2
  refine bodyPost_ret (v := .tuple #[.agg #[.int .u64 0, .pointer none], .bool false]) (by simp [results, Try.results9, go_sem]) rfl ⟨rfl, ?_⟩
  exact ((below_drewN ((Below.refl _ _).alloc (Nat.le_refl _) _) _).setCell (Nat.le_refl _) _).setCell (Nat.le_refl _) _

set_option maxHeartbeats 400000 in
theorem value_yes (b : Nat) (f h q : Int) (hf0 : 0 ≤ f) (hf : f ≤ 18446744073709551607) (hh0 : 0 ≤ h) (hh : h ≤ 255) (hq0 : f ≤ q) (hq : q - f < 8) (w : World) (H : HeadAt w b f h)
    (ht : (bits BinOp.and IntKind.u8 (h / 2 ^ (q - f).toNat) 1 == 0) = false) :
    Calls Try.prog 9 #[.pointer (some ⟨b, 0, none⟩), .int .u64 q] w fun e w' => e = .returned (.tuple #[.agg #[.int .u64 0, .pointer none], .bool true]) ∧ Below w.heap.size w w' := by
  have d1 : decide (q < f) = false := by simp; omega
  have d2 : decide (8 ≤ q - f) = false := by simp; omega
  have e0 := bcell H.hb H.c0
  have e1 := bcell H.hb H.c1
  have e2 := bcell H.hb (H.va (q - f).toNat (by omega))
  have e3 := bcell H.hb (H.vb (q - f).toNat (by omega))
  clear H
  go_enter Try.func9, Try.ntmps9
  go_wp2
  go_quiet (fail)
  go_wp2
  go_region
  go_wp2
  refine bodyPost_ret (v := .tuple #[.agg #[.int .u64 0, .pointer none], .bool true]) (by simp [results, Try.results9, go_sem]) rfl ⟨rfl, ?_⟩
  exact ((below_drewN ((Below.refl _ _).alloc (Nat.le_refl _) _) _).setCell (Nat.le_refl _) _).setCell (Nat.le_refl _) _

set_option maxHeartbeats 400000 in
theorem holds_any (b : Nat) (f h q : Int) (hf0 : 0 ≤ f) (hf : f ≤ 18446744073709551607) (hh0 : 0 ≤ h) (hh : h ≤ 255) (hq0 : f ≤ q) (hq : q - f < 8) (w : World) (H : HeadAt w b f h) (r : Bool)
    (ht : (bits BinOp.and IntKind.u8 (h / 2 ^ (q - f).toNat) 1 == 0) = !r) :
    Calls Try.prog 7 #[.pointer (some ⟨b, 0, none⟩), .int .u64 q] w fun e w' => e = .returned (.bool r) ∧ Below w.heap.size w w' := by
  have hv : ∀ w, HeadAt w b f h → Calls Try.prog 9 #[.pointer (some ⟨b, 0, none⟩), .int .u64 q] w fun e w' => e = .returned (.tuple #[.agg #[.int .u64 0, .pointer none], .bool r]) ∧ Below w.heap.size w w' := by
    intro w H
    cases r
    · exact value_no b f h q hf0 hf hh0 hh hq0 hq w H ht
    · exact value_yes b f h q hf0 hf hh0 hh hq0 hq w H ht
  have HV := hide hv
  clear hv ht
  go_enter Try.func7, Try.ntmps7
  go_wp2_with (go_at_call 9; refine (HV.out _ H).mono ?_; rintro e w' ⟨rfl, hb'⟩)
  go_ret
  exact ⟨rfl, hb'.alloc hb'.size _⟩

theorem top8 : ∀ h : Fin 256, h.val ≠ 0 → 1 ≤ Lib.bitLen h.val ∧ Lib.bitLen h.val ≤ 8 ∧ (h.val / 2 ^ (Lib.bitLen h.val - 1) % 2 = 1) ∧ ∀ j : Fin 8, Lib.bitLen h.val ≤ j.val → h.val / 2 ^ j.val % 2 = 0 := by decide +kernel

/-- The bit test of the Go text, over all bytes and all places of a row. -/
theorem test8 : ∀ h : Fin 256, ∀ j : Fin 8, (bits BinOp.and IntKind.u8 ((h.val : Int) / 2 ^ j.val) 1 == 0) = (h.val / 2 ^ j.val % 2 == 0) := by decide +kernel

/-- The plain law: of the row's bits the one at 'bitLen - 1' is set and none above it is. -/
theorem plain (h : Int) (h1 : 1 ≤ h) (h2 : h ≤ 255) : ∃ L : Int, L = Lib.bitLen h.toNat ∧ 1 ≤ L ∧ L ≤ 8 ∧ (bits BinOp.and IntKind.u8 (h / 2 ^ (L - 1).toNat) 1 == 0) = !true ∧
    ∀ j : Int, L ≤ j → j < 8 → (bits BinOp.and IntKind.u8 (h / 2 ^ j.toNat) 1 == 0) = !false := by
  obtain ⟨n, rfl⟩ := Int.eq_ofNat_of_zero_le (show 0 ≤ h by omega)
  have t := top8 ⟨n, by omega⟩ (by show n ≠ 0; omega)
  simp only at t
  obtain ⟨t1, t2, t3, t4⟩ := t
  refine ⟨Lib.bitLen n, by rw [Int.toNat_natCast], by omega, by omega, ?_, ?_⟩
  · have e := test8 ⟨n, by omega⟩ ⟨Lib.bitLen n - 1, by omega⟩
    simp only at e
    rw [show ((Lib.bitLen n : Int) - 1).toNat = Lib.bitLen n - 1 by omega, e, t3]; rfl
  · intro j hj hj8
    obtain ⟨k, rfl⟩ := Int.eq_ofNat_of_zero_le (show 0 ≤ j by omega)
    have e := test8 ⟨n, by omega⟩ ⟨k, by omega⟩
    simp only at e
    have t := t4 ⟨k, by omega⟩ (by show Lib.bitLen n ≤ k; omega)
    simp only at t
    rw [Int.toNat_natCast, e, t]; rfl

theorem below_of_grown {w : World} (c : Array Value) (t : TypeId) (c' : Array Value) (t' : TypeId) : Below w.heap.size w ((w.alloc (.cells c t)).alloc (.cells c' t')) :=
  ((Below.refl _ _).alloc (Nat.le_refl _) _).alloc (by simp) _

theorem headAt_new (w : World) (f h n : Int) : HeadAt (w.alloc (.cells (headCells f h n) 36)) w.heap.size f h := by
  have hc : ∀ k, (w.alloc (.cells (headCells f h n) 36)).cell? ⟨w.heap.size, k, none⟩ = (headCells f h n)[k]? := by
    intro k
    exact World.cell?_alloc_new _ _ _ _
  refine ⟨by simp, by rw [hc]; rfl, by rw [hc]; rfl, ?_, ?_⟩
  · intro i hi
    rw [hc]
    match i, hi with
    | 0, _ | 1, _ | 2, _ | 3, _ | 4, _ | 5, _ | 6, _ | 7, _ => rfl
  · intro i hi
    rw [hc]
    match i, hi with
    | 0, _ | 1, _ | 2, _ | 3, _ | 4, _ | 5, _ | 6, _ | 7, _ => rfl

theorem newHead' (f h n : Int) (w : World) :
    Calls Try.prog 4 #[.int .u64 f, .int .u8 h, .int .i64 n, .agg #[.int .u64 0, .int .u64 0, .int .u64 0, .int .u64 0, .int .u64 0, .int .u64 0, .int .u64 0, .int .u64 0]] w fun e w' => 
      ∃ b : Nat, e = .returned (.pointer (some ⟨b, 0, none⟩)) ∧ HeadAt w' b f h ∧ Below w.heap.size w w' := by
  refine (newHead f h n w).mono ?_
  rintro e w' ⟨rfl, c, rfl⟩
  refine ⟨_, rfl, ?_, below_of_grown _ _ _ _⟩
  have := headAt_new (w.alloc (.cells c 26)) f h n
  simpa using this

theorem headLast (b : Nat) (f h : Int) (hf0 : 0 ≤ f) (hf : f ≤ 18446744073709551607) (hh0 : 1 ≤ h) (hh : h ≤ 255) (L : Int) (hL : Hid (L = Lib.bitLen h.toNat)) (hL1 : 1 ≤ L) (hL8 : L ≤ 8) (w : World) (H : HeadAt w b f h) :
    Calls Try.prog 6 #[.pointer (some ⟨b, 0, none⟩)] w fun e w' => ∃ q : Int, e = .returned (.int .u64 q) ∧ f ≤ q ∧ q - f < 8 ∧ Hid (q - f + 1 = L) ∧ HeadAt w' b f h ∧ Below w.heap.size w w' := by
  have H' := H
  obtain ⟨_, c0, c1, _, _⟩ := H
  go_enter Try.func6, Try.ntmps6
  go_wp2_with (go_at_call 8; refine (last_any b f h hf0 hf hh0 hh L hL hL1 hL8 _ c0 c1).mono ?_; rintro e w' ⟨rfl, n, rfl⟩)
  go_ret
  have hb := below_drewN (Below.refl w.heap.size w) n
  exact ⟨_, rfl, by omega, by omega, show f + L - 1 - f + 1 = L by omega, H'.below hb, hb⟩
end Go.Proofs.Qxb6616560a
