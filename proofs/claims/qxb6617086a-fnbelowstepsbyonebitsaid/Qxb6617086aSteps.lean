/-
  The walk over FnBelowStepsByOneBit.
-/
import Derived.Test.Qxb6617086aZz
namespace Go.Proofs.Qxb6617086a
open Go.RowKit
set_option linter.unusedVariables false

/-- The bit k of the set. -/
def bit (ms : List Nat) (k : Nat) : Nat := ms.getD (k / 64) 0 / 2 ^ (k % 64) % 2

theorem cnt_zero (ms : List Nat) : cnt ms 0 = 0 := by simp [cnt, S, Pl.pop]

theorem cnt_succ (ms : List Nat) (k : Nat) (hl : ms.length = 128) (hk : k < 8191) : cnt ms (k + 1) = cnt ms k + bit ms k := by
  unfold cnt bit
  by_cases h : k % 64 < 63
  · rw [show (k + 1) / 64 = k / 64 by omega, show (k + 1) % 64 = k % 64 + 1 by omega, Pl.pop_succ]
    omega
  · rw [show (k + 1) / 64 = k / 64 + 1 by omega, show (k + 1) % 64 = 0 by omega, show k % 64 = 63 by omega, S_succ ms (k / 64) (by omega), Pl.pop_succ 63]
    simp [Pl.pop]
    omega

set_option maxRecDepth 100000 in
set_option maxHeartbeats 800000 in
theorem steps_short (cs : Array Value) (k : Int) (w : World) (h : k < 0 ∨ 8191 ≤ k) :
    Calls Try.prog 3 #[.agg cs, .int .i64 k] w fun e w' => e = .returned (.bool true) ∧ Below w.heap.size w w' := by
  rcases h with h | h
  all_goals
    go_enter Try.func3, Try.ntmps3
    go_wp2
    go_ret
    exact ⟨rfl, (Below.refl _ _).alloc (Nat.le_refl _) _⟩

theorem and1 (x r : Nat) (hx : x < 18446744073709551616) : bits BinOp.and IntKind.u64 ((x / 2 ^ r : Nat) : Int) 1 = ((x / 2 ^ r % 2 : Nat) : Int) := by
  have hle : x / 2 ^ r ≤ x := Nat.div_le_self _ _
  have h := andN (x / 2 ^ r) 1 (by omega) (by decide)
  rw [Nat.and_one_is_mod] at h
  exact h

set_option maxRecDepth 100000 in
set_option maxHeartbeats 800000 in
theorem bit_any (ms : List Nat) (k : Nat) (w : World) (hl : ms.length = 128) (hlt : ∀ x ∈ ms, x < 18446744073709551616) (hk : k < 8192) :
    Calls Try.prog 6 #[.agg (cells ms), .int .i64 k] w fun e w' => e = .returned (.int .i64 (bit ms k)) ∧ Below w.heap.size w w' := by
  obtain ⟨q, hq⟩ : ∃ q, k / 64 = q := ⟨_, rfl⟩
  obtain ⟨r, hr⟩ : ∃ r, k % 64 = r := ⟨_, rfl⟩
  have hdiv : (k : Int) / 64 = (q : Int) := by omega
  have hmod : (k : Int) % 64 = (r : Int) := by omega
  have hq128 : q < 128 := by omega
  have hr64 : r < 64 := by omega
  have hx64 := getD_lt hlt q
  have hc0 : (w.alloc (.cells (cells ms) 23)).cell? ⟨w.heap.size, q, none⟩ = some (.int .u64 (ms.getD q 0 : Nat)) :=
    Wd.cell (ms := ms) (t := 23) (heap_alloc_new w (.cells (cells ms) 23)) q (by omega)
  have hb : bit ms k = ms.getD q 0 / 2 ^ r % 2 := by unfold bit; rw [hq, hr]
  generalize ms.getD q 0 = x at *
  have ha := and1 x r hx64
  have HB := hide hb
  clear hb hq hr hlt hl
  generalize cells ms = cs at *
  go_enter Try.func6, Try.ntmps6
  go_wp2
  all_goals rename_i hbit
  all_goals
    have e : ((x : Int) / 2 ^ r) = ((x / 2 ^ r : Nat) : Int) := by push_cast; rfl
    rw [e, ha] at hbit
    go_ret
    refine ⟨?_, (Below.refl _ _).alloc (Nat.le_refl _) _⟩
    rw [HB.out]
    have hy : x / 2 ^ r % 2 < 2 := Nat.mod_lt _ (by decide)
    clear HB ha
    generalize x / 2 ^ r % 2 = y at hy hbit
    have h2 : y = 0 ∨ y = 1 := by omega
    rcases h2 with rfl | rfl
    all_goals first | rfl | (exact absurd hbit (by decide))

theorem cnt_le (ms : List Nat) (k : Nat) (hl : ms.length = 128) (hk : k < 8192) : cnt ms k ≤ 8192 := by
  unfold cnt
  have := S_le ms (k / 64) (by omega)
  have := Pl.pop_le (k % 64) (ms.getD (k / 64) 0)
  omega

set_option maxRecDepth 100000 in
set_option maxHeartbeats 2000000 in
theorem steps_main (ms : List Nat) (k : Nat) (w : World) (hl : ms.length = 128) (hlt : ∀ x ∈ ms, x < 18446744073709551616) (hk : k < 8191) :
    Calls Try.prog 3 #[.agg (cells ms), .int .i64 k] w fun e w' => e = .returned (.bool true) ∧ Below w.heap.size w w' := by
  have Z0 := hide (fun w' => zz_any ms 0 w' hl hlt (by omega))
  rw [cnt_zero] at Z0
  have ZK := hide (fun w' => zz_any ms k w' hl hlt (by omega))
  have ZS : Hid (∀ w', Calls Try.prog 5 #[.agg (cells ms), .int .i64 ((k : Int) + 1)] w' fun e w'' => e = .returned (.int .i64 (cnt ms (k + 1) : Nat)) ∧ Below w'.heap.size w' w'') := by
    intro w'
    have h := zz_any ms (k + 1) w' hl hlt (by omega)
    rw [show (((k + 1 : Nat) : Int)) = (k : Int) + 1 by omega] at h
    exact h
  have BK := hide (fun w' => bit_any ms k w' hl hlt (by omega))
  have hsum : ((cnt ms k : Nat) : Int) + ((bit ms k : Nat) : Int) = ((cnt ms (k + 1) : Nat) : Int) := by
    have := cnt_succ ms k hl hk
    omega
  have hle := cnt_le ms (k + 1) hl (by omega)
  have h23 : Hid ((Try.prog.info? 23).map (·.size) = some (cells ms).size) := by show _ = _; rw [cells_size, hl]; exact info23
  clear hl hlt
  generalize cells ms = cs at *
  generalize cnt ms k = a at *
  generalize cnt ms (k + 1) = c at *
  generalize bit ms k = x at *
  have HM0 : Hid ((w.alloc (.cells cs 23)).heap[w.heap.size]? = some (.cells cs 23 (0, 0))) := heap_alloc_new w (.cells cs 23)
  have HB0 : Hid (Below w.heap.size w (w.alloc (.cells cs 23))) := (Below.refl _ _).alloc (Nat.le_refl _) _
  go_enter Try.func3, Try.ntmps3
  go_wp2_with (first
    | (refine wpList_load_row rfl 23 _ rfl _ rfl 23 cs (0, 0) _ HM0.out Try.underlying23 rfl h23.out ?_)
    | (refine wpList_load_row rfl 23 _ rfl _ rfl 23 cs (0, 0) _ HM1.out Try.underlying23 rfl h23.out ?_)
    | (refine wpList_load_row rfl 23 _ rfl _ rfl 23 cs (0, 0) _ HM2.out Try.underlying23 rfl h23.out ?_)
    | (refine wpList_load_row rfl 23 _ rfl _ rfl 23 cs (0, 0) _ HM3.out Try.underlying23 rfl h23.out ?_)
    | (go_at_call 5
       refine (Z0.out _).mono ?_
       rintro e w1 ⟨rfl, h1⟩
       have HM1 : Hid (w1.heap[w.heap.size]? = some (.cells cs 23 (0, 0))) := (h1.block _ (lt_of_block HM0.out)).trans HM0.out
       have HB1 : Hid (Below w.heap.size w w1) := HB0.out.trans (h1.mono HB0.out.size)
       clear h1)
    | (go_at_call 5
       refine (ZK.out _).mono ?_
       rintro e w2 ⟨rfl, h2⟩
       have HM2 : Hid (w2.heap[w.heap.size]? = some (.cells cs 23 (0, 0))) := (h2.block _ (lt_of_block HM1.out)).trans HM1.out
       have HB2 : Hid (Below w.heap.size w w2) := HB1.out.trans (h2.mono HB1.out.size)
       clear h2)
    | (go_at_call 5
       refine (ZS.out _).mono ?_
       rintro e w3 ⟨rfl, h3⟩
       have HM3 : Hid (w3.heap[w.heap.size]? = some (.cells cs 23 (0, 0))) := (h3.block _ (lt_of_block HM2.out)).trans HM2.out
       have HB3 : Hid (Below w.heap.size w w3) := HB2.out.trans (h3.mono HB2.out.size)
       clear h3)
    | (go_at_call 6
       refine (BK.out _).mono ?_
       rintro e w4 ⟨rfl, h4⟩
       have HB4 : Hid (Below w.heap.size w w4) := HB3.out.trans (h4.mono HB3.out.size)
       clear h4))
  go_ret
  exact ⟨rfl, HB4.out⟩
end Go.Proofs.Qxb6617086a
