/-
  The small functions on the road: hexValue, the Delimiter's lineStart, sizeLineEnd, afterSize, step.
-/
import Derived.Test.Qxb6617066aRows
import Derived.WalkKit
import Derived.WalkSpells
import Derived.WalkLawsBesides
import Derived.RowKit3
import Derived.Below
import Derived.BigRegion
import Derived.Deep.QuietTactic
import Derived.BigQuiet
namespace Go.Proofs.Qxb6617066a
open Go.RowKit
set_option linter.unusedVariables false

theorem hide {p : Prop} (h : p) : Hid p := h

/-- The value of a hex digit. -/
def hexv (c : Nat) : Option Nat := if 48 ≤ c ∧ c ≤ 57 then some (c - 48) else if 97 ≤ c ∧ c ≤ 102 then some (c - 97 + 10) else if 65 ≤ c ∧ c ≤ 70 then some (c - 65 + 10) else none

theorem ret2_int {k k' : IntKind} {a a' : Int} {b : Bool} (h : a = a') : Ending.returned (.tuple #[.int k a, .bool b]) = Ending.returned (.tuple #[.int k a', .bool b]) := by rw [h]

set_option maxHeartbeats 800000 in
theorem hexValue_yes (c v : Nat) (hc : c < 256) (hv : hexv c = some v) (w : World) :
    Calls Try.prog 26 #[.int .u8 c] w fun e w' => e = .returned (.tuple #[.int .i64 v, .bool true]) ∧ w' = w := by
  unfold hexv at hv
  by_cases h1 : 48 ≤ c ∧ c ≤ 57
  · rw [if_pos h1] at hv
    obtain ⟨h1, h2⟩ := h1
    have hv' : v = c - 48 := by simpa using hv.symm
    have HV := hide hv'
    clear hv hv'
    go_enter Try.func26, Try.ntmps26
    go_wp2
    go_ret2
    exact ⟨ret2_int (k' := .i64) (by rw [HV.out]; omega), rfl⟩
  rw [if_neg h1] at hv
  by_cases h2 : 97 ≤ c ∧ c ≤ 102
  · rw [if_pos h2] at hv
    obtain ⟨h2, h3⟩ := h2
    have hv' : v = c - 97 + 10 := by simpa using hv.symm
    have HV := hide hv'
    have h4 : 57 < c := by omega
    clear hv hv' h1
    go_enter Try.func26, Try.ntmps26
    go_wp2
    go_ret2
    exact ⟨ret2_int (k' := .i64) (by rw [HV.out]; omega), rfl⟩
  rw [if_neg h2] at hv
  by_cases h3 : 65 ≤ c ∧ c ≤ 70
  · rw [if_pos h3] at hv
    obtain ⟨h3, h4⟩ := h3
    have hv' : v = c - 65 + 10 := by simpa using hv.symm
    have HV := hide hv'
    have h5 : 57 < c := by omega
    have h6 : c < 97 := by omega
    clear hv hv' h1 h2
    go_enter Try.func26, Try.ntmps26
    go_wp2
    go_ret2
    exact ⟨ret2_int (k' := .i64) (by rw [HV.out]; omega), rfl⟩
  · rw [if_neg h3] at hv; cases hv

set_option maxHeartbeats 800000 in
theorem hexValue_no (c : Nat) (hc : c < 256) (hv : hexv c = none) (w : World) :
    Calls Try.prog 26 #[.int .u8 c] w fun e w' => e = .returned (.tuple #[.int .i64 0, .bool false]) ∧ w' = w := by
  unfold hexv at hv
  have h1 : ¬ (48 ≤ c ∧ c ≤ 57) := by intro h; rw [if_pos h] at hv; cases hv
  have h2 : ¬ (97 ≤ c ∧ c ≤ 102) := by intro h; rw [if_neg h1, if_pos h] at hv; cases hv
  have h3 : ¬ (65 ≤ c ∧ c ≤ 70) := by intro h; rw [if_neg h1, if_neg h2, if_pos h] at hv; cases hv
  clear hv
  have h : c < 48 ∨ (57 < c ∧ c < 65) ∨ (70 < c ∧ c < 97) ∨ 102 < c := by omega
  clear h1 h2 h3
  rcases h with h | ⟨h, h'⟩ | ⟨h, h'⟩ | h
  all_goals
    go_enter Try.func26, Try.ntmps26
    go_wp2
    go_ret2
    exact ⟨rfl, rfl⟩

/-- A Delimiter of a chunked body that has not ended, in memory. -/
def Dl (w : World) (b : Nat) (l : Int) (s : Nat) (n d : Int) : Prop :=
  w.heap[b]? = some (.cells #[.bool true, .int .i64 0, .bool false, .int .i64 l, .int .u8 s, .int .i64 n, .int .i64 d] 44 (0, 0))

theorem set_block {w : World} {b k : Nat} {cs : Array Value} {t : TypeId} {v : Value} (h : w.heap[b]? = some (.cells cs t (0, 0))) : (w.setCell ⟨b, k, none⟩ v).heap[b]? = some (.cells (cs.setIfInBounds k v) t (0, 0)) := by
  have hlt := lt_of_block h
  have h' : w.heap[b] = .cells cs t (0, 0) := by simpa [Array.getElem?_eq_getElem hlt] using h
  show (w.heap.modify b _)[b]? = _
  rw [Array.getElem?_eq_getElem (by simpa using hlt), Array.getElem_modify_self, h']
  rfl

theorem Dl.cells {w : World} {b : Nat} {l : Int} {s : Nat} {n d : Int} (h : Dl w b l s n d) :
    w.cell? ⟨b, 2, none⟩ = some (.bool false) ∧ w.cell? ⟨b, 3, none⟩ = some (.int .i64 l) ∧ w.cell? ⟨b, 4, none⟩ = some (.int .u8 s) ∧ w.cell? ⟨b, 5, none⟩ = some (.int .i64 n) ∧ w.cell? ⟨b, 6, none⟩ = some (.int .i64 d) ∧ (∀ k, w.frozen? ⟨b, k, none⟩ = false) := by
  unfold Dl at h
  refine ⟨?_, ?_, ?_, ?_, ?_, fun k => ?_⟩ <;> simp [World.cell?, World.frozen?, h]

theorem Dl.lt {w : World} {b : Nat} {l : Int} {s : Nat} {n d : Int} (h : Dl w b l s n d) : b < w.heap.size := lt_of_block h

theorem Dl.drewN {w : World} {b : Nat} {l : Int} {s : Nat} {n d : Int} (h : Dl w b l s n d) (q : Nat) : Dl (w.drewN q) b l s n d := h

theorem Dl.set3 {w : World} {b : Nat} {l : Int} {s : Nat} {n d : Int} (h : Dl w b l s n d) (x : Int) : Dl (w.setCell ⟨b, 3, none⟩ (.int .i64 x)) b x s n d := set_block h
theorem Dl.set4 {w : World} {b : Nat} {l : Int} {s : Nat} {n d : Int} (h : Dl w b l s n d) (x : Nat) : Dl (w.setCell ⟨b, 4, none⟩ (.int .u8 x)) b l x n d := set_block h
theorem Dl.set5 {w : World} {b : Nat} {l : Int} {s : Nat} {n d : Int} (h : Dl w b l s n d) (x : Int) : Dl (w.setCell ⟨b, 5, none⟩ (.int .i64 x)) b l s x d := set_block h
theorem Dl.set6 {w : World} {b : Nat} {l : Int} {s : Nat} {n d : Int} (h : Dl w b l s n d) (x : Int) : Dl (w.setCell ⟨b, 6, none⟩ (.int .i64 x)) b l s n x := set_block h

theorem below_set (w : World) (b k : Nat) (v : Value) : Below b w (w.setCell ⟨b, k, none⟩ v) := (Below.refl b w).setCell (p := ⟨b, k, none⟩) (Nat.le_refl _) v

set_option maxHeartbeats 400000 in
theorem lineStart_any (b : Nat) (l : Int) (s : Nat) (n d : Int) (x : Nat) (w : World) (h : Dl w b l s n d) :
    Calls Try.prog 29 #[.pointer (some ⟨b, 0, none⟩), .int .u8 x] w fun e w' => e = .returned (.int .u8 x) ∧ Dl w' b l s 0 0 ∧ Below b w w' := by
  obtain ⟨_, _, _, c5, c6, fz⟩ := h.cells
  have HD := hide h
  clear h
  go_enter Try.func29, Try.ntmps29
  go_wp2
  go_ret
  exact ⟨rfl, (HD.out.set5 0).set6 0, (below_set _ _ _ _).trans (below_set _ _ _ _)⟩

/-- Where a chunk-size line leads to: what is left, the state, the digits. -/
def fin (l d : Nat) : Nat × Nat × Nat := if l = 0 then (0, 8, 0) else (l, 5, d)

set_option maxHeartbeats 400000 in
theorem sizeLineEnd_any (b : Nat) (l s d : Nat) (n : Int) (w : World) (h : Dl w b l s n d) :
    Calls Try.prog 28 #[.pointer (some ⟨b, 0, none⟩)] w fun e w' => e = .returned (.int .u8 (fin l d).2.1) ∧ (∃ n' : Int, Dl w' b (fin l d).1 s n' (fin l d).2.2) ∧ Below b w w' := by
  obtain ⟨_, c3, _, c5, c6, fz⟩ := h.cells
  have HD := hide h
  clear h
  by_cases hl : l = 0
  · subst hl
    have ef : fin 0 d = (0, 8, 0) := rfl
    rw [ef]
    clear ef
    go_enter Try.func28, Try.ntmps28
    go_wp2_with (go_at_call 29; refine (lineStart_any b _ _ _ _ 8 _ HD.out).mono ?_; rintro e w' ⟨rfl, hD, hB⟩)
    go_ret
    exact ⟨rfl, ⟨_, hD⟩, hB⟩
  · have ef : fin l d = (l, 5, d) := if_neg hl
    rw [ef]
    have hl' : ((l : Int) == 0) = false := by simp; omega
    clear ef hl
    go_enter Try.func28, Try.ntmps28
    go_wp2
    go_ret
    exact ⟨rfl, ⟨_, HD.out.set5 0⟩, below_set _ _ _ _⟩

/-- Behind a chunk size's digits. -/
def aft (l d c : Nat) : Option (Nat × Nat × Nat) := if c = 32 ∨ c = 9 then some (l, 2, d) else if c = 59 then some (l, 3, d) else if c = 13 then some (l, 4, d) else if c = 10 then some (fin l d) else none

/-- What the call hands back and leaves, by the plain step. -/
def Gives (b : Nat) (s : Nat) (w : World) (r : Option (Nat × Nat × Nat)) (e : Ending) (w' : World) : Prop :=
  Below b w w' ∧ ((r = none ∧ ∃ x : Int, e = .returned (.tuple #[.int .u8 x, .bool false])) ∨
    ∃ (l' s' d' : Nat) (n' : Int), r = some (l', s', d') ∧ e = .returned (.tuple #[.int .u8 s', .bool true]) ∧ Dl w' b l' s n' d')

set_option maxHeartbeats 800000 in
theorem afterSize_any (b : Nat) (l s d c : Nat) (n : Int) (w : World) (h : Dl w b l s n d) (hc : c < 256) :
    Calls Try.prog 27 #[.pointer (some ⟨b, 0, none⟩), .int .u8 c] w fun e w' => Gives b s w (aft l d c) e w' := by
  obtain ⟨_, c3, c4, c5, c6, fz⟩ := h.cells
  have HD := hide h
  clear h
  by_cases h1 : c = 32
  · subst h1
    go_enter Try.func27, Try.ntmps27
    go_wp2
    go_ret2
    exact ⟨Below.refl _ _, .inr ⟨l, 2, d, n, rfl, rfl, HD.out⟩⟩
  by_cases h2 : c = 9
  · subst h2
    go_enter Try.func27, Try.ntmps27
    go_wp2
    go_ret2
    exact ⟨Below.refl _ _, .inr ⟨l, 2, d, n, rfl, rfl, HD.out⟩⟩
  by_cases h3 : c = 59
  · subst h3
    go_enter Try.func27, Try.ntmps27
    go_wp2
    go_ret2
    exact ⟨Below.refl _ _, .inr ⟨l, 3, d, n, rfl, rfl, HD.out⟩⟩
  by_cases h4 : c = 13
  · subst h4
    go_enter Try.func27, Try.ntmps27
    go_wp2
    go_ret2
    exact ⟨Below.refl _ _, .inr ⟨l, 4, d, n, rfl, rfl, HD.out⟩⟩
  by_cases h5 : c = 10
  · subst h5
    go_enter Try.func27, Try.ntmps27
    go_wp2_with (go_at_call 28; refine (sizeLineEnd_any b l s d n _ HD.out).mono ?_; rintro e w' ⟨rfl, ⟨n', hD⟩, hB⟩)
    go_ret2
    exact ⟨hB, .inr ⟨_, _, _, n', rfl, rfl, hD⟩⟩
  · have ha : aft l d c = none := by unfold aft; rw [if_neg (by omega), if_neg h3, if_neg h4, if_neg h5]
    rw [ha]
    have e1 : ((c : Int) == 32) = false := by simp; omega
    have e2 : ((c : Int) == 9) = false := by simp; omega
    have e3 : ((c : Int) == 59) = false := by simp; omega
    have e4 : ((c : Int) == 13) = false := by simp; omega
    have e5 : ((c : Int) == 10) = false := by simp; omega
    clear h1 h2 h3 h4 h5 ha
    go_enter Try.func27, Try.ntmps27
    go_wp2
    go_ret2
    exact ⟨Below.refl _ _, .inl ⟨rfl, _, rfl⟩⟩
end Go.Proofs.Qxb6617066a
