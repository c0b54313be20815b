/-
  (*Delimiter).step, ZZStep: by the plain step 'nx'.
-/
import Derived.Test.Qxb6617066aWalks
namespace Go.Proofs.Qxb6617066a
open Go.RowKit
set_option linter.unusedVariables false

/-- The plain step of a chunk-size line: what is left, the state, the digits; none: refused. -/
def nx (l s d c : Nat) : Option (Nat × Nat × Nat) :=
  if s ≤ 1 then
    match hexv c with
    | some v => if d < 15 then some (l * 16 + v, 1, d + 1) else none
    | none => if s = 0 then (if c = 32 ∨ c = 9 then some (l, 0, d) else none) else aft l d c
  else if s = 2 then aft l d c
  else if s = 3 then (if c = 10 then some (fin l d) else some (l, 3, d))
  else if s = 4 then (if c = 10 then some (fin l d) else none)
  else none

theorem hexv_lt {c v : Nat} (h : hexv c = some v) : v < 16 := by
  unfold hexv at h
  split at h
  · simp at h; omega
  split at h
  · simp at h; omega
  split at h
  · simp at h; omega
  · cases h

theorem wraps_i64 (n : Int) (h0 : 0 ≤ n) (h1 : n < 2 ^ 63) : IntKind.i64.wrap n = n := by rw [IntKind.wrap_i64]; omega

theorem or_digit (l v : Nat) (hl : l < 576460752303423488) (hv : v < 16) : bits BinOp.or IntKind.i64 ((l : Int) * 16) (v : Int) = ((l * 16 + v : Nat) : Int) := by
  rw [bits_join .i64 63 (by decide) wraps_i64 4 _ _ (by omega) (by omega) (by omega) (by omega) (by omega) (by omega)]
  omega

set_option maxRecDepth 100000 in
set_option maxHeartbeats 2000000 in
theorem step_hex (b : Nat) (l s d c v : Nat) (n : Int) (w : World) (h : Dl w b l s n d) (hc : c < 256) (hs : s = 0 ∨ s = 1) (hv : hexv c = some v) (hl : l < 576460752303423488) (hd : d < 15) :
    Calls Try.prog 24 #[.pointer (some ⟨b, 0, none⟩), .int .u8 c] w fun e w' => e = .returned (.tuple #[.int .u8 1, .bool true]) ∧ Dl w' b ((l * 16 + v : Nat) : Int) s n ((d + 1 : Nat) : Int) ∧ Below b w w' := by
  obtain ⟨_, c3, c4, c5, c6, fz⟩ := h.cells
  have hv16 := hexv_lt hv
  have HD := hide h
  have HV := hide hv
  clear h hv
  have ho := or_digit l v hl hv16
  have HO := hide ho
  have hdd : decide ((d : Int) + 1 ≤ 15) = true := by simp; omega
  clear ho
  rcases hs with rfl | rfl
  all_goals
    go_enter Try.func24, Try.ntmps24
    go_wp2_with (go_at_call 26; refine (hexValue_yes c v hc HV.out _).mono ?_; rintro e w' ⟨rfl, rfl⟩)
    go_region
    go_wp2
    go_quiet (fail)
    go_wp2
    go_ret2
    refine ⟨rfl, ?_, ?_⟩
    · rw [← HO.out]
      exact (HD.out.set3 _).set6 _
    · exact below_drewN ((below_set _ _ _ _).trans (below_set _ _ _ _)).drew _

set_option maxRecDepth 100000 in
set_option maxHeartbeats 2000000 in
theorem step_hex_no (b : Nat) (l s d c v : Nat) (n : Int) (w : World) (h : Dl w b l s n d) (hc : c < 256) (hs : s = 0 ∨ s = 1) (hv : hexv c = some v) (hd : d = 15) :
    Calls Try.prog 24 #[.pointer (some ⟨b, 0, none⟩), .int .u8 c] w fun e w' => e = .returned (.tuple #[.int .u8 1, .bool false]) ∧ Below b w w' := by
  subst hd
  obtain ⟨_, c3, c4, c5, c6, fz⟩ := h.cells
  have hv16 := hexv_lt hv
  have HV := hide hv
  clear h hv
  rcases hs with rfl | rfl
  all_goals
    go_enter Try.func24, Try.ntmps24
    go_wp2_with (go_at_call 26; refine (hexValue_yes c v hc HV.out _).mono ?_; rintro e w' ⟨rfl, rfl⟩)
    go_region
    go_wp2
    go_quiet (fail)
    go_wp2
    go_ret2
    exact ⟨rfl, below_drewN ((below_set _ _ _ _).trans (below_set _ _ _ _)).drew _⟩

set_option maxRecDepth 100000 in
set_option maxHeartbeats 2000000 in
theorem step_lead (b : Nat) (l d c : Nat) (n : Int) (w : World) (h : Dl w b l 0 n d) (hc : c < 256) (hv : hexv c = none) :
    Calls Try.prog 24 #[.pointer (some ⟨b, 0, none⟩), .int .u8 c] w fun e w' => Gives b 0 w (if c = 32 ∨ c = 9 then some (l, 0, d) else none) e w' := by
  obtain ⟨_, c3, c4, c5, c6, fz⟩ := h.cells
  have HD := hide h
  have HV := hide hv
  clear h hv
  by_cases h1 : c = 32
  · subst h1
    go_enter Try.func24, Try.ntmps24
    go_wp2_with (go_at_call 26; refine (hexValue_no 32 hc HV.out _).mono ?_; rintro e w' ⟨rfl, rfl⟩)
    go_ret2
    exact ⟨Below.refl _ _, .inr ⟨l, 0, d, n, rfl, rfl, HD.out⟩⟩
  by_cases h2 : c = 9
  · subst h2
    go_enter Try.func24, Try.ntmps24
    go_wp2_with (go_at_call 26; refine (hexValue_no 9 hc HV.out _).mono ?_; rintro e w' ⟨rfl, rfl⟩)
    go_ret2
    exact ⟨Below.refl _ _, .inr ⟨l, 0, d, n, rfl, rfl, HD.out⟩⟩
  · rw [if_neg (by omega)]
    have e1 : ((c : Int) == 32) = false := by simp; omega
    have e2 : ((c : Int) == 9) = false := by simp; omega
    clear h1 h2
    go_enter Try.func24, Try.ntmps24
    go_wp2_with (go_at_call 26; refine (hexValue_no c hc HV.out _).mono ?_; rintro e w' ⟨rfl, rfl⟩)
    go_ret2
    exact ⟨Below.refl _ _, .inl ⟨rfl, _, rfl⟩⟩

set_option maxRecDepth 100000 in
set_option maxHeartbeats 2000000 in
theorem step_aft (b : Nat) (l s d c : Nat) (n : Int) (w : World) (h : Dl w b l s n d) (hc : c < 256) (hs : (s = 1 ∧ hexv c = none) ∨ s = 2) :
    Calls Try.prog 24 #[.pointer (some ⟨b, 0, none⟩), .int .u8 c] w fun e w' => Gives b s w (aft l d c) e w' := by
  obtain ⟨_, c3, c4, c5, c6, fz⟩ := h.cells
  have HD := hide h
  clear h
  rcases hs with ⟨rfl, hv⟩ | rfl
  · have HV := hide hv
    clear hv
    go_enter Try.func24, Try.ntmps24
    go_wp2_with (first | (go_at_call 26; refine (hexValue_no c hc HV.out _).mono ?_; rintro e w' ⟨rfl, rfl⟩) | (go_at_call 27; refine (afterSize_any b l 1 d c n _ HD.out hc).mono ?_; rintro e w2 ⟨hB, hG⟩; rcases hG with ⟨hr, x, rfl⟩ | ⟨l', s', d', n', hr, rfl, hD⟩ <;> (have HR := hide hr; clear hr)))
    · go_ret2
      exact ⟨hB, .inl ⟨HR.out, _, rfl⟩⟩
    · go_ret2
      exact ⟨hB, .inr ⟨_, _, _, _, HR.out, rfl, hD⟩⟩
  · go_enter Try.func24, Try.ntmps24
    go_wp2_with (go_at_call 27; refine (afterSize_any b l 2 d c n _ HD.out hc).mono ?_; rintro e w2 ⟨hB, hG⟩; rcases hG with ⟨hr, x, rfl⟩ | ⟨l', s', d', n', hr, rfl, hD⟩ <;> (have HR := hide hr; clear hr))
    · go_ret2
      exact ⟨hB, .inl ⟨HR.out, _, rfl⟩⟩
    · go_ret2
      exact ⟨hB, .inr ⟨_, _, _, _, HR.out, rfl, hD⟩⟩

set_option maxRecDepth 100000 in
set_option maxHeartbeats 2000000 in
theorem step_ext (b : Nat) (l d c : Nat) (n : Int) (w : World) (h : Dl w b l 3 n d) (hc : c < 256) :
    Calls Try.prog 24 #[.pointer (some ⟨b, 0, none⟩), .int .u8 c] w fun e w' => Gives b 3 w (if c = 10 then some (fin l d) else some (l, 3, d)) e w' := by
  obtain ⟨_, c3, c4, c5, c6, fz⟩ := h.cells
  have HD := hide h
  clear h
  by_cases h1 : c = 10
  · subst h1
    go_enter Try.func24, Try.ntmps24
    go_wp2_with (go_at_call 28; refine (sizeLineEnd_any b l 3 d n _ HD.out).mono ?_; rintro e w' ⟨rfl, ⟨n', hD⟩, hB⟩)
    go_ret2
    exact ⟨hB, .inr ⟨_, _, _, n', rfl, rfl, hD⟩⟩
  · rw [if_neg h1]
    have e1 : ((c : Int) == 10) = false := by simp; omega
    clear h1
    go_enter Try.func24, Try.ntmps24
    go_wp2
    go_ret2
    exact ⟨Below.refl _ _, .inr ⟨l, 3, d, n, rfl, rfl, HD.out⟩⟩

set_option maxRecDepth 100000 in
set_option maxHeartbeats 2000000 in
theorem step_cr (b : Nat) (l d c : Nat) (n : Int) (w : World) (h : Dl w b l 4 n d) (hc : c < 256) :
    Calls Try.prog 24 #[.pointer (some ⟨b, 0, none⟩), .int .u8 c] w fun e w' => Gives b 4 w (if c = 10 then some (fin l d) else none) e w' := by
  obtain ⟨_, c3, c4, c5, c6, fz⟩ := h.cells
  have HD := hide h
  clear h
  by_cases h1 : c = 10
  · subst h1
    go_enter Try.func24, Try.ntmps24
    go_wp2_with (go_at_call 28; refine (sizeLineEnd_any b l 4 d n _ HD.out).mono ?_; rintro e w' ⟨rfl, ⟨n', hD⟩, hB⟩)
    go_ret2
    exact ⟨hB, .inr ⟨_, _, _, n', rfl, rfl, hD⟩⟩
  · rw [if_neg h1]
    have e1 : ((c : Int) == 10) = false := by simp; omega
    clear h1
    go_enter Try.func24, Try.ntmps24
    go_wp2_with (go_at_call 28; refine (sizeLineEnd_any b l 4 d n _ HD.out).mono ?_; rintro e w' ⟨rfl, ⟨n', hD⟩, hB⟩)
    go_ret2
    exact ⟨hB, .inl ⟨rfl, _, rfl⟩⟩

theorem step_any (b : Nat) (l s d c : Nat) (n : Int) (w : World) (h : Dl w b l s n d) (hc : c < 256) (hs : s ≤ 4) (hl : d < 15 → l < 576460752303423488) (hd : d ≤ 15) :
    Calls Try.prog 24 #[.pointer (some ⟨b, 0, none⟩), .int .u8 c] w fun e w' => Gives b s w (nx l s d c) e w' := by
  by_cases h1 : s ≤ 1
  · cases hv : hexv c with
    | some v =>
      by_cases hd' : d < 15
      · have en : nx l s d c = some (l * 16 + v, 1, d + 1) := by unfold nx; rw [if_pos h1, hv]; exact if_pos hd'
        rw [en]
        refine (step_hex b l s d c v n w h hc (by omega) hv (hl hd') hd').mono ?_
        rintro e w' ⟨rfl, hD, hB⟩
        exact ⟨hB, .inr ⟨_, _, _, n, rfl, rfl, hD⟩⟩
      · have en : nx l s d c = none := by unfold nx; rw [if_pos h1, hv]; exact if_neg hd'
        rw [en]
        refine (step_hex_no b l s d c v n w h hc (by omega) hv (by omega)).mono ?_
        rintro e w' ⟨rfl, hB⟩
        exact ⟨hB, .inl ⟨rfl, _, rfl⟩⟩
    | none =>
      by_cases h0 : s = 0
      · subst h0
        have en : nx l 0 d c = if c = 32 ∨ c = 9 then some (l, 0, d) else none := by unfold nx; rw [if_pos h1, hv]; rfl
        rw [en]
        exact step_lead b l d c n w h hc hv
      · have en : nx l s d c = aft l d c := by unfold nx; rw [if_pos h1, hv]; exact if_neg h0
        rw [en]
        exact step_aft b l s d c n w h hc (.inl ⟨by omega, hv⟩)
  · by_cases h2 : s = 2
    · have en : nx l s d c = aft l d c := by unfold nx; rw [if_neg h1, if_pos h2]
      rw [en]
      exact step_aft b l s d c n w h hc (.inr h2)
    · by_cases h3 : s = 3
      · have en : nx l s d c = if c = 10 then some (fin l d) else some (l, 3, d) := by unfold nx; rw [if_neg h1, if_neg h2, if_pos h3]
        rw [en]
        subst h3
        exact step_ext b l d c n w h hc
      · have h4 : s = 4 := by omega
        have en : nx l s d c = if c = 10 then some (fin l d) else none := by unfold nx; rw [if_neg h1, if_neg h2, if_neg h3, if_pos h4]
        rw [en]
        subst h4
        exact step_cr b l d c n w h hc
end Go.Proofs.Qxb6617066a
