/-
  (*marks).below and ZZMarksBelow.
-/
import Derived.Test.Qxb6617086aCount
namespace Go.Proofs.Qxb6617086a
open Go.RowKit
set_option linter.unusedVariables false

/-- A set of 8192 integers in memory: 128 words. -/
def Wd (w : World) (b : Nat) (t : TypeId) (ms : List Nat) : Prop := w.heap[b]? = some (.cells (ms.map fun (x : Nat) => Value.int .u64 x).toArray t (0, 0))

theorem Wd.cell {w : World} {b : Nat} {t : TypeId} {ms : List Nat} (h : Wd w b t ms) (i : Nat) (hi : i < ms.length) : w.cell? ⟨b, i, none⟩ = some (.int .u64 (ms.getD i 0 : Nat)) := by
  unfold Wd at h
  simp [World.cell?, h, hi]

theorem maskR (x r : Nat) (hx : x < 18446744073709551616) (hr : r < 64) : bits BinOp.and IntKind.u64 (x : Int) (IntKind.u64.wrap (IntKind.u64.wrap (2 ^ r) - 1)) = ((x % 2 ^ r : Nat) : Int) := by
  have hp : (2 : Nat) ^ r ≤ 2 ^ 63 := Nat.pow_le_pow_right (by omega) (by omega)
  have h1 : 0 < (2 : Nat) ^ r := Nat.two_pow_pos r
  have e : ((2 : Int) ^ r) = (((2 : Nat) ^ r : Nat) : Int) := by push_cast; rfl
  have e1 : IntKind.u64.wrap (((2 : Nat) ^ r : Nat) : Int) = (((2 : Nat) ^ r : Nat) : Int) := wraps_u64 _ (by omega) (by omega)
  have e2 : IntKind.u64.wrap ((((2 : Nat) ^ r : Nat) : Int) - 1) = (((2 : Nat) ^ r : Nat) : Int) - 1 := wraps_u64 _ (by omega) (by omega)
  rw [e, e1, e2, ← e, bits_mask .u64 64 (by decide) wraps_u64 r (by omega) (x : Int) (by omega) (by omega), e]
  push_cast
  rfl

/-- The count over the first j words. -/
def S (ms : List Nat) (j : Nat) : Nat := ((ms.take j).map (Pl.pop 64)).sum

theorem S_succ (ms : List Nat) (j : Nat) (h : j < ms.length) : S ms (j + 1) = S ms j + Pl.pop 64 (ms.getD j 0) := by
  unfold S
  rw [List.take_succ_eq_append_getElem h, List.map_append, List.sum_append]
  simp [h]

theorem S_le (ms : List Nat) : ∀ j, j ≤ ms.length → S ms j ≤ 64 * j
  | 0, _ => by simp [S]
  | j + 1, h => by
    rw [S_succ ms j (by omega)]
    have := S_le ms j (by omega)
    have := Pl.pop_le 64 (ms.getD j 0)
    omega

/-- How many of the integers below k the set holds. -/
def cnt (ms : List Nat) (k : Nat) : Nat := Pl.pop (k % 64) (ms.getD (k / 64) 0) + S ms (k / 64)

theorem getD_lt {ms : List Nat} (hlt : ∀ x ∈ ms, x < 18446744073709551616) (i : Nat) : ms.getD i 0 < 18446744073709551616 := by
  by_cases h : i < ms.length
  · have : ms.getD i 0 = ms[i] := by simp [h]
    rw [this]
    exact hlt _ (List.getElem_mem h)
  · have : ms.getD i 0 = 0 := by simp [List.getElem?_eq_none (by omega : ms.length ≤ i)]
    rw [this]
    omega

theorem arrayLen26 : Try.prog.arrayLen 26 = 128 := by kernel_rfl
theorem sizeOf26 (w : World) : (sizeOf (Try.prog.elem 26)).run Try.prog w = .ok 1 w := by kernel_rfl

theorem slice_arr (b q : Nat) (hq : q ≤ 128) (w : World) : (Instr.sliceAt 26 (.pointer (some ⟨b, 0, none⟩)) none (some (.int .i64 (q : Int))) none).run Try.prog w = .ok (.slice (some ⟨b, 0, none⟩) q 128) w := by
  have h := run_sliceAt_array_h (P := Try.prog) w 26 ⟨b, 0, none⟩ (by kernel_rfl) .i64 (q : Int) (by omega) (by rw [arrayLen26]; omega)
  rw [h, sizeOf26, arrayLen26]
  simp [Result.andThen, slicedAt, Addr.add]

set_option maxRecDepth 100000 in
set_option maxHeartbeats 800000 in
theorem below_any (b : Nat) (t : TypeId) (ms : List Nat) (k : Nat) (w : World) (hm : Wd w b t ms) (hl : ms.length = 128) (hlt : ∀ x ∈ ms, x < 18446744073709551616) (hk : k < 8192) :
    Calls Try.prog 7 #[.pointer (some ⟨b, 0, none⟩), .int .i64 k] w fun e w' => e = .returned (.int .i64 (cnt ms k)) ∧ ∃ n, w' = w.drewN n := by
  obtain ⟨q, hq⟩ : ∃ q, k / 64 = q := ⟨_, rfl⟩
  obtain ⟨r, hr⟩ : ∃ r, k % 64 = r := ⟨_, rfl⟩
  have hdiv : (k : Int) / 64 = (q : Int) := by omega
  have hmod : (k : Int) % 64 = (r : Int) := by omega
  have hq128 : q < 128 := by omega
  have hr64 : r < 64 := by omega
  have c0 := hm.cell q (by omega)
  have hx64 := getD_lt hlt q
  have hcnt : cnt ms k = Pl.pop r (ms.getD q 0) + S ms q := by unfold cnt; rw [hq, hr]
  obtain ⟨x, hx⟩ : ∃ x, ms.getD q 0 = x := ⟨_, rfl⟩
  rw [hx] at c0 hx64 hcnt
  have hpr := Pl.pop_le r x
  have hcall : ∀ w, Calls Try.prog 8 #[.int .u64 ((x % 2 ^ r : Nat) : Int)] w fun e w' => e = .returned (.int .i64 (Pl.pop r x)) ∧ w' = w := by
    intro w
    have h := ones_any (x % 2 ^ r) (Nat.lt_of_le_of_lt (Nat.mod_le _ _) hx64) w
    rw [Pl.pop_low r 64 x (by omega)] at h
    exact h
  obtain ⟨p, hp⟩ : ∃ p, Pl.pop r x = p := ⟨_, rfl⟩
  rw [hp] at hcnt hpr hcall
  have HM := hide hm
  have HC := hide hcall
  have HT := hide hcnt
  have HLt := hide hlt
  have HLen := hide hl
  clear hm hx hq hr hcall hcnt hp hlt hl
  have hsl := fun w => slice_arr b q (by omega) w
  go_enter Try.func7, Try.ntmps7
  go_wp2
  go_quiet ((go_at_call 8; rw [maskR x r hx64 hr64]; exact Calls.quiet_of_same (HC.out _)))
  go_wp2
  clear hdiv hmod hsl HC
  go_loop [5, 26] (fun c i => ∃ j : Nat, i = .int .i64 j ∧ j ≤ q ∧ c = .int .i64 ((p + S ms j : Nat) : Int)) (fun _ i => q - (intOf i).toNat)
  case atStart => exact ⟨0, rfl, Nat.zero_le _, by simp [S]⟩
  case round =>
    obtain ⟨j, rfl, hj, rfl⟩ := hrel
    have hSj := S_le ms j (by have := HLen.out; omega)
    by_cases hlt : j < q
    · have cj := HM.out.cell j (by have := HLen.out; omega)
      have hz64 := getD_lt HLt.out j
      have hS := S_succ ms j (by have := HLen.out; omega)
      have hpz := Pl.pop_le 64 (ms.getD j 0)
      generalize ms.getD j 0 = z at cj hz64 hS hpz
      have hc2 := hide (fun w => ones_any z hz64 w)
      generalize Pl.pop 64 z = pz at hS hc2 hpz
      have HS := hide hS
      clear hS
      generalize S ms j = sj at *
      go_wp2_with (go_at_call 8; refine (hc2.out _).mono ?_; rintro e w' ⟨rfl, rfl⟩)
      go_round
      case rel => exact ⟨j + 1, by go_num, by omega, by rw [HS.out]; go_num⟩
      case measure => simp [intOf]; omega
    · have hjq : j = q := by omega
      have HJ := hide hjq
      clear hjq
      go_wp2
      go_ret
      refine ⟨?_, _, rfl⟩
      rw [HT.out, ← HJ.out]
      rfl
end Go.Proofs.Qxb6617086a
