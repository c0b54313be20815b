/-
  The walk over FnBelowWithComplementCountsK.
-/
import Derived.Test.Qxb6617086aZz
namespace Go.Proofs.Qxb6617086a
open Go.RowKit
set_option linter.unusedVariables false

def co (x : Nat) : Nat := 18446744073709551615 - x

/-- The complement's words behind j rounds. -/
def cl (ms : List Nat) (j : Nat) : List Nat := (ms.take j).map co ++ List.replicate (128 - j) 0

theorem cl_succ (ms : List Nat) (j : Nat) (hl : ms.length = 128) (hj : j < 128) : (cl ms j).set j (co (ms.getD j 0)) = cl ms (j + 1) := by
  unfold cl
  have hlen : ((ms.take j).map co).length = j := by simp; omega
  have e : List.replicate (128 - j) 0 = 0 :: List.replicate (128 - (j + 1)) 0 := by
    rw [show 128 - j = (128 - (j + 1)) + 1 by omega, List.replicate_succ]
  rw [e, List.set_append_right _ _ (by omega), hlen, Nat.sub_self, List.set_cons_zero, List.take_succ_eq_append_getElem (by omega), List.map_append]
  have hg : ms.getD j 0 = ms[j] := by simp [hl, hj]
  rw [hg]
  simp

theorem cl_length (ms : List Nat) (j : Nat) (hl : ms.length = 128) (hj : j ≤ 128) : (cl ms j).length = 128 := by
  unfold cl
  simp
  omega

theorem cl_full (ms : List Nat) (hl : ms.length = 128) : cl ms 128 = ms.map co := by
  unfold cl
  rw [List.take_of_length_le (by omega)]
  simp

theorem zero23 : ∀ w, (zeroValue 23).run Try.prog w = .ok (.agg (cells (List.replicate 128 0))) w :=
  (zero_of_info (P := Try.prog) (t := 23) (v := .agg (cells (List.replicate 128 0))) (n := 128) (by kernel_rfl)).1

theorem set_block {w : World} {b k : Nat} {cs : Array Value} {t : TypeId} {v : Value} (h : w.heap[b]? = some (.cells cs t (0, 0))) : (w.setCell ⟨b, k, none⟩ v).heap[b]? = some (.cells (cs.setIfInBounds k v) t (0, 0)) := by
  have hlt := lt_of_block h
  have h' : w.heap[b] = .cells cs t (0, 0) := by simpa [Array.getElem?_eq_getElem hlt] using h
  show (w.heap.modify b _)[b]? = _
  rw [Array.getElem?_eq_getElem (by simpa using hlt), Array.getElem_modify_self, h']
  rfl

theorem cells_set (ms : List Nat) (j x : Nat) : (cells ms).setIfInBounds j (.int .u64 x) = cells (ms.set j x) := by
  unfold cells
  simp [List.map_set]

set_option maxRecDepth 100000 in
set_option maxHeartbeats 800000 in
theorem compl_short (cs : Array Value) (k : Int) (w : World) (h : k < 0 ∨ 8192 ≤ k) :
    Calls Try.prog 4 #[.agg cs, .int .i64 k] w fun e w' => e = .returned (.bool true) ∧ Below w.heap.size w w' := by
  rcases h with h | h
  all_goals
    go_enter Try.func4, Try.ntmps4
    go_wp2
    go_ret
    exact ⟨rfl, (Below.refl _ _).alloc (Nat.le_refl _) _⟩

theorem frozen_of {w : World} {b k : Nat} {cs : Array Value} {t : TypeId} (h : w.heap[b]? = some (.cells cs t (0, 0))) : w.frozen? ⟨b, k, none⟩ = false := by
  simp [World.frozen?, h]

theorem co_xor (z : Nat) (hz : z < 18446744073709551616) : 18446744073709551615 ^^^ z = co z := by
  have h : (BitVec.allOnes 64 ^^^ BitVec.ofNat 64 z).toNat = (~~~ (BitVec.ofNat 64 z)).toNat := by rw [BitVec.allOnes_xor]
  rw [BitVec.toNat_xor, BitVec.toNat_not, BitVec.toNat_allOnes, BitVec.toNat_ofNat, Nat.mod_eq_of_lt hz] at h
  exact h

theorem co_bits (z : Nat) (hz : z < 18446744073709551616) : bits BinOp.xor IntKind.u64 (if IntKind.u64.signed = true then -1 else IntKind.u64.max) (z : Int) = ((co z : Nat) : Int) := by
  have e : (if IntKind.u64.signed = true then -1 else IntKind.u64.max) = ((18446744073709551615 : Nat) : Int) := by decide
  rw [e, bits_xor_u64_nat _ _ (by decide) hz, co_xor z hz]

theorem S_co (ms : List Nat) (hl : ms.length = 128) (hlt : ∀ x ∈ ms, x < 18446744073709551616) : ∀ q, q ≤ 128 → S ms q + S (ms.map co) q = 64 * q
  | 0, _ => by simp [S]
  | q + 1, h => by
    have h1 := S_succ ms q (by omega)
    have h2 := S_succ (ms.map co) q (by simp; omega)
    have h3 := S_co ms hl hlt q (by omega)
    have hg : (ms.map co).getD q 0 = co (ms.getD q 0) := by
      have : q < ms.length := by omega
      simp [this]
    rw [hg] at h2
    have hx := getD_lt hlt q
    have h4 := Pl.pop_compl 64 64 (ms.getD q 0) (by omega) hx
    have h5 : co (ms.getD q 0) = 2 ^ 64 - 1 - ms.getD q 0 := rfl
    rw [← h5] at h4
    omega

theorem cnt_co (ms : List Nat) (k : Nat) (hl : ms.length = 128) (hlt : ∀ x ∈ ms, x < 18446744073709551616) (hk : k < 8192) : cnt ms k + cnt (ms.map co) k = k := by
  unfold cnt
  have h1 := S_co ms hl hlt (k / 64) (by omega)
  have hg : (ms.map co).getD (k / 64) 0 = co (ms.getD (k / 64) 0) := by
    have : k / 64 < ms.length := by omega
    simp [this]
  rw [hg]
  have hx := getD_lt hlt (k / 64)
  have h4 := Pl.pop_compl (k % 64) 64 (ms.getD (k / 64) 0) (by omega) hx
  have h5 : co (ms.getD (k / 64) 0) = 2 ^ 64 - 1 - ms.getD (k / 64) 0 := rfl
  rw [← h5] at h4
  omega

set_option maxRecDepth 100000 in
set_option maxHeartbeats 2000000 in
theorem compl_main (ms : List Nat) (k : Nat) (w : World) (hl : ms.length = 128) (hlt : ∀ x ∈ ms, x < 18446744073709551616) (hk : k < 8192) :
    Calls Try.prog 4 #[.agg (cells ms), .int .i64 k] w fun e w' => e = .returned (.bool true) ∧ Below w.heap.size w w' := by
  have hz := zero23
  have H0 : Hid (cells (List.replicate 128 0) = cells (cl ms 0)) := by show _ = _; unfold cl; simp
  have Hlt := hide hlt
  have HLen := hide hl
  generalize cells (List.replicate 128 0) = Z at *
  clear hlt hl
  obtain ⟨cs, hcc⟩ : ∃ cs, cells ms = cs := ⟨_, rfl⟩
  have HCC := hide hcc
  rw [hcc]
  clear hcc
  have HB0 : Hid (Below w.heap.size w ((w.alloc (.cells cs 23)).alloc (.cells Z 23))) := ((Below.refl _ _).alloc (Nat.le_refl _) _).alloc (by simp) _
  have HM0 : Hid (((w.alloc (.cells cs 23)).alloc (.cells Z 23)).heap[w.heap.size]? = some (.cells cs 23 (0, 0))) := by
    show _ = _
    rw [Below.heap_alloc _ _ _ (by simp)]
    exact heap_alloc_new w (.cells cs 23)
  have HC0 : Hid (((w.alloc (.cells cs 23)).alloc (.cells Z 23)).heap[w.heap.size + 1]? = some (.cells Z 23 (0, 0))) := by
    have h := heap_alloc_new (w.alloc (.cells cs 23)) (.cells Z 23)
    rw [show (w.alloc (.cells cs 23)).heap.size = w.heap.size + 1 by simp] at h
    exact h
  go_enter Try.func4, Try.ntmps4
  go_wp2_with fail
  go_loopw [6] (fun i wr => ∃ j : Nat, i = .int .i64 j ∧ j ≤ 128 ∧ wr.heap[w.heap.size]? = some (.cells cs 23 (0, 0)) ∧ wr.heap[w.heap.size + 1]? = some (.cells (cells (cl ms j)) 23 (0, 0)) ∧ Below w.heap.size w wr) (fun i _ => 128 - (intOf i).toNat)
  case atStart => exact ⟨0, rfl, Nat.zero_le _, HM0.out, by rw [← H0.out]; exact HC0.out, HB0.out⟩
  case round =>
    obtain ⟨j, rfl, hj, hm, hc, hB⟩ := hrel
    have HM := hide hm
    have HC := hide hc
    clear hm hc HM0 HC0 HB0 H0 hz
    by_cases hjl : j < 128
    · have hz64 := getD_lt Hlt.out j
      have hcm : wr.cell? ⟨w.heap.size, j, none⟩ = some (.int .u64 (ms.getD j 0 : Nat)) := by
        have h := HM.out
        rw [← HCC.out] at h
        exact Wd.cell (ms := ms) (t := 23) h j (by have := HLen.out; omega)
      have hco : wr.cell? ⟨w.heap.size + 1, j, none⟩ = some (.int .u64 ((cl ms j).getD j 0 : Nat)) :=
        Wd.cell (ms := cl ms j) (t := 23) HC.out j (by rw [cl_length ms j HLen.out hj]; exact hjl)
      have hfr : wr.frozen? ⟨w.heap.size + 1, j, none⟩ = false := frozen_of HC.out
      have HS := hide (cl_succ ms j HLen.out hjl)
      generalize (cl ms j).getD j 0 = zc at hco
      generalize ms.getD j 0 = z at hcm hz64 HS
      go_wp2_with fail
      rw [co_bits z hz64]
      go_round
      case rel =>
        refine ⟨j + 1, by go_num, by omega, ?_, ?_, hB.setCell (by simp) _⟩
        · rw [Below.heap_setCell _ _ _ _ (by simp)]
          exact HM.out
        · rw [set_block HC.out, cells_set, HS.out]
      case measure => simp [intOf]; omega
    · have hj8 : j = 128 := by omega
      subst hj8
      have HZ1 := hide (fun w' => zz_any ms k w' HLen.out Hlt.out hk)
      have hlt2 : ∀ x ∈ ms.map co, x < 18446744073709551616 := by
        intro x hx
        obtain ⟨y, _, rfl⟩ := List.mem_map.1 hx
        unfold co
        omega
      have HZ2 := hide (fun w' => zz_any (ms.map co) k w' (by rw [List.length_map]; exact HLen.out) hlt2 hk)
      have hab : ((cnt ms k : Nat) : Int) + ((cnt (ms.map co) k : Nat) : Int) = (k : Int) := by
        have := cnt_co ms k HLen.out Hlt.out hk
        omega
      have H23 : Hid ((Try.prog.info? 23).map (·.size) = some cs.size) := by
        show _ = _
        rw [← HCC.out, cells_size, HLen.out]
        exact info23
      have H23c : Hid ((Try.prog.info? 23).map (·.size) = some (cells (ms.map co)).size) := by
        show _ = _
        rw [cells_size, List.length_map, HLen.out]
        exact info23
      have HC2 : Hid (wr.heap[w.heap.size + 1]? = some (.cells (cells (ms.map co)) 23 (0, 0))) := by
        have h := HC.out
        rw [cl_full ms HLen.out] at h
        exact h
      have HSz : Hid (w.heap.size + 1 < wr.heap.size) := lt_of_block HC2.out
      rw [HCC.out] at HZ1
      generalize cells (ms.map co) = c2 at HZ2 HC2 H23c
      generalize cnt ms k = a at HZ1 hab
      generalize cnt (ms.map co) k = b at HZ2 hab
      clear hlt2 HC hjl hj
      go_wp2_with (first
        | (refine wpList_load_row rfl 23 _ rfl _ rfl 23 cs (0, 0) _ HM.out Try.underlying23 rfl H23.out ?_)
        | (refine wpList_load_row rfl 23 _ rfl _ rfl 23 c2 (0, 0) _ HC3.out Try.underlying23 rfl H23c.out ?_)
        | (go_at_call 5
           refine (HZ1.out _).mono ?_
           rintro e w1 ⟨rfl, hB1⟩
           have HC3 : Hid (w1.heap[w.heap.size + 1]? = some (.cells c2 23 (0, 0))) := (hB1.block _ HSz.out).trans HC2.out
           have hB1' : Below w.heap.size w w1 := hB.trans (hB1.mono hB.size))
        | (go_at_call 5
           refine (HZ2.out _).mono ?_
           rintro e w2 ⟨rfl, hB2⟩))
      go_ret
      exact ⟨rfl, hB1'.trans (hB2.mono hB1'.size)⟩
end Go.Proofs.Qxb6617086a
