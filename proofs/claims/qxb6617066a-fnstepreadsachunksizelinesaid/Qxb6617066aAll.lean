/-
  stepAll: the bytes of a line driven through the Delimiter.
-/
import Derived.Test.Qxb6617066aStep
namespace Go.Proofs.Qxb6617066a
open Go.RowKit
set_option linter.unusedVariables false

/-- Driven over a list of bytes; none: refused, or a byte ahead of which the data would begin. -/
def go (S : Nat × Nat × Nat) : List Nat → Option (Nat × Nat × Nat)
  | [] => some S
  | c :: cs => if 5 ≤ S.2.1 then none else
    match nx S.1 S.2.1 S.2.2 c with
    | none => none
    | some S' => go S' cs

theorem go_cons {S T : Nat × Nat × Nat} {c : Nat} {cs : List Nat} (h : go S (c :: cs) = some T) : S.2.1 ≤ 4 ∧ ∃ S', nx S.1 S.2.1 S.2.2 c = some S' ∧ go S' cs = some T := by
  simp only [go] at h
  split at h
  · cases h
  · cases hn : nx S.1 S.2.1 S.2.2 c with
    | none => rw [hn] at h; cases h
    | some S' => rw [hn] at h; exact ⟨by omega, S', rfl, h⟩

/-- What is left is spelt by the digits read. -/
def Inv (S : Nat × Nat × Nat) : Prop := S.1 < 16 ^ S.2.2 ∧ S.2.2 ≤ 15

theorem Inv.lt {S : Nat × Nat × Nat} (h : Inv S) : S.2.2 < 15 → S.1 < 576460752303423488 := by
  intro hd
  have h1 : 16 ^ S.2.2 ≤ 16 ^ 14 := Nat.pow_le_pow_right (by omega) (by omega)
  have := h.1
  omega

theorem fin_inv {l s d : Nat} (h : Inv (l, s, d)) : Inv (fin l d) := by
  unfold fin
  split
  · exact ⟨by show 0 < 16 ^ 0; omega, by show 0 ≤ 15; omega⟩
  · exact h

theorem aft_inv {l s d c : Nat} {S : Nat × Nat × Nat} (h : Inv (l, s, d)) (ha : aft l d c = some S) : Inv S := by
  unfold aft at ha
  split at ha
  · obtain rfl := Option.some.inj ha; exact h
  split at ha
  · obtain rfl := Option.some.inj ha; exact h
  split at ha
  · obtain rfl := Option.some.inj ha; exact h
  split at ha
  · obtain rfl := Option.some.inj ha; exact fin_inv h
  · cases ha

theorem nx_inv {l s d c : Nat} {S : Nat × Nat × Nat} (h : Inv (l, s, d)) (hn : nx l s d c = some S) : Inv S := by
  unfold nx at hn
  split at hn
  · cases hv : hexv c with
    | some v =>
      rw [hv] at hn
      simp only at hn
      split at hn
      · rename_i hd
        obtain rfl := Option.some.inj hn
        have hv16 := hexv_lt hv
        refine ⟨?_, by show d + 1 ≤ 15; omega⟩
        show l * 16 + v < 16 ^ (d + 1)
        have h1 : l < 16 ^ d := h.1
        rw [Nat.pow_succ]
        omega
      · cases hn
    | none =>
      rw [hv] at hn
      simp only at hn
      split at hn
      · split at hn
        · obtain rfl := Option.some.inj hn; exact h
        · cases hn
      · exact aft_inv h hn
  split at hn
  · exact aft_inv h hn
  split at hn
  · split at hn
    · obtain rfl := Option.some.inj hn; exact fin_inv h
    · obtain rfl := Option.some.inj hn; exact h
  split at hn
  · split at hn
    · obtain rfl := Option.some.inj hn; exact fin_inv h
    · cases hn
  · cases hn

set_option maxHeartbeats 400000 in
theorem state_any (b : Nat) (l : Int) (s : Nat) (n d : Int) (w : World) (h : Dl w b l s n d) :
    Calls Try.prog 18 #[.pointer (some ⟨b, 0, none⟩)] w fun e w' => e = .returned (.int .u8 s) ∧ w' = w := by
  obtain ⟨_, c3, c4, c5, c6, fz⟩ := h.cells
  clear h
  go_enter Try.func18, Try.ntmps18
  go_wp2
  go_ret
  exact ⟨rfl, rfl⟩

set_option maxHeartbeats 400000 in
theorem left_any (b : Nat) (l : Int) (s : Nat) (n d : Int) (w : World) (h : Dl w b l s n d) :
    Calls Try.prog 19 #[.pointer (some ⟨b, 0, none⟩)] w fun e w' => e = .returned (.int .i64 l) ∧ w' = w := by
  obtain ⟨_, c3, c4, c5, c6, fz⟩ := h.cells
  clear h
  go_enter Try.func19, Try.ntmps19
  go_wp2
  go_ret
  exact ⟨rfl, rfl⟩

set_option maxHeartbeats 400000 in
theorem ended_any (b : Nat) (l : Int) (s : Nat) (n d : Int) (w : World) (h : Dl w b l s n d) :
    Calls Try.prog 17 #[.pointer (some ⟨b, 0, none⟩)] w fun e w' => e = .returned (.bool false) ∧ w' = w := by
  obtain ⟨c2, c3, c4, c5, c6, fz⟩ := h.cells
  clear h
  go_enter Try.func17, Try.ntmps17
  go_wp2
  go_ret
  exact ⟨rfl, rfl⟩

set_option maxHeartbeats 400000 in
theorem setState_any (b : Nat) (l : Int) (s x : Nat) (n d : Int) (w : World) (h : Dl w b l s n d) :
    Calls Try.prog 22 #[.pointer (some ⟨b, 0, none⟩), .int .u8 x] w fun e w' => e = .returned (.tuple #[]) ∧ Dl w' b l x n d ∧ Below b w w' := by
  obtain ⟨_, c3, c4, c5, c6, fz⟩ := h.cells
  have HD := hide h
  clear h
  go_enter Try.func22, Try.ntmps22
  go_wp2
  go_end0
  exact ⟨rfl, HD.out.set4 x, below_set _ _ _ _⟩

set_option maxHeartbeats 400000 in
theorem zzStep_any (b : Nat) (l s d c : Nat) (n : Int) (w : World) (h : Dl w b l s n d) (hc : c < 256) (hs : s ≤ 4) (hl : d < 15 → l < 576460752303423488) (hd : d ≤ 15) :
    Calls Try.prog 21 #[.pointer (some ⟨b, 0, none⟩), .int .u8 c] w fun e w' => Gives b s w (nx l s d c) e w' := by
  have HS := hide (step_any b l s d c n w h hc hs hl hd)
  clear h hl
  go_enter Try.func21, Try.ntmps21
  go_wp2_with (go_at_call 24; refine HS.out.mono ?_; rintro e w2 ⟨hB, hG⟩; rcases hG with ⟨hr, x, rfl⟩ | ⟨l', s', d', n', hr, rfl, hD⟩ <;> (have HR := hide hr; clear hr))
  · go_ret2
    exact ⟨hB, .inl ⟨HR.out, _, rfl⟩⟩
  · go_ret2
    exact ⟨hB, .inr ⟨_, _, _, _, HR.out, rfl, hD⟩⟩

set_option maxHeartbeats 2000000 in
theorem stepAll_yes (b g cap : Nat) (bs : List Nat) (S0 Sf : Nat × Nat × Nat) (n : Int) (w : World) (hD : Dl w b S0.1 S0.2.1 n S0.2.2) (hI : Inv S0) (hg : g < b) (hlen : bs.length ≤ 1048576)
    (hcell : ∀ j (hj : j < bs.length), w.cell? ⟨g, j, none⟩ = some (.int .u8 (bs[j] : Nat))) (hby : ∀ c ∈ bs, c < 256) (hgo : go S0 bs = some Sf) :
    Calls Try.prog 16 #[.pointer (some ⟨b, 0, none⟩), .slice (some ⟨g, 0, none⟩) bs.length cap] w fun e w' =>
      e = .returned (.tuple #[.int .i64 bs.length, .bool true]) ∧ (∃ n' : Int, Dl w' b Sf.1 Sf.2.1 n' Sf.2.2) ∧ Below b w w' := by
  have HC := hide hcell
  have HBy := hide hby
  have HD0 := hide hD
  have Hgo := hide hgo
  have HI0 := hide hI
  clear hcell hby hD hgo hI
  go_enter Try.func16, Try.ntmps16
  go_wp2_with fail
  go_loopw [6] (fun i wr => ∃ (k : Nat) (l s d : Nat) (n' : Int), i = .int .i64 k ∧ k ≤ bs.length ∧ go (l, s, d) (bs.drop k) = some Sf ∧ Inv (l, s, d) ∧ Dl wr b l s n' d ∧ Below b w wr) (fun i _ => bs.length - (intOf i).toNat)
  case atStart => exact ⟨0, S0.1, S0.2.1, S0.2.2, n, rfl, Nat.zero_le _, Hgo.out, HI0.out, HD0.out, Below.refl _ _⟩
  case round =>
    obtain ⟨k, l, s, d, n', rfl, hk, hgo, hI, hD, hB⟩ := hrel
    have HgoK := hide hgo
    have HIK := hide hI
    have HDK := hide hD
    clear hgo hI hD HD0 Hgo HI0
    by_cases hlt : k < bs.length
    · have hg2 := HgoK.out
      rw [List.drop_eq_getElem_cons hlt] at hg2
      obtain ⟨hs4, S', hn, hg3⟩ := go_cons hg2
      have hc := HC.out k hlt
      have hcb := HBy.out _ (List.getElem_mem hlt)
      have hcr := (hB.cell (p := ⟨g, k, none⟩) hg).trans hc
      generalize bs[k] = c at hcb hcr hn
      have hs4' : s ≤ 4 := hs4
      have Hn := hide hn
      have Hg3 := hide hg3
      have hs5 : ((s : Int) == 5) = false := by simp; omega
      clear hg2 hn hg3 hc hs4
      go_wp2_with (go_at_call 18; refine (state_any b _ s _ _ _ HDK.out).mono ?_; rintro e w' ⟨rfl, rfl⟩)
      refine (zzStep_any b l s d c n' _ HDK.out hcb hs4' HIK.out.lt HIK.out.2).mono ?_
      rintro e2 w2 ⟨hB2, hG⟩
      rw [Hn.out] at hG
      rcases hG with ⟨hr, _⟩ | ⟨l2, s2, d2, n2, hr, rfl, hD2⟩
      case inl => cases hr
      obtain rfl : S' = (l2, s2, d2) := Option.some.inj hr
      have HD2 := hide hD2
      have HI2 := hide (nx_inv HIK.out Hn.out)
      have hB02 := hB.trans hB2
      clear hr hD2 HDK HIK Hn
      go_wp2_with (go_at_call 22; refine (setState_any b _ s s2 _ _ _ HD2.out).mono ?_; rintro e3 w3 ⟨rfl, hD3, hB3⟩)
      refine (ended_any b _ s2 _ _ _ hD3).mono ?_
      rintro e4 w4 ⟨rfl, rfl⟩
      have hB03 := hB02.trans hB3
      go_wp2
      go_roundw
      case rel => exact ⟨k + 1, l2, s2, d2, n2, by go_num, by omega, Hg3.out, HI2.out, hD3, hB03⟩
      case measure => simp [intOf]; omega
    · have hk' : bs.length = k := by omega
      have hg2 := HgoK.out
      rw [List.drop_eq_nil_of_le (by omega)] at hg2
      have hSf : Sf = (l, s, d) := by simpa [go] using hg2.symm
      have HSf := hide hSf
      clear hk' hg2 hSf
      go_wp2
      go_ret2
      exact ⟨rfl, ⟨n', by rw [HSf.out]; exact HDK.out⟩, hB⟩

set_option maxHeartbeats 2000000 in
theorem stepAll_no (b g cap : Nat) (bs : List Nat) (i : Nat) (S0 Si : Nat × Nat × Nat) (n : Int) (w : World) (hD : Dl w b S0.1 S0.2.1 n S0.2.2) (hI : Inv S0) (hg : g < b) (hlen : bs.length ≤ 1048576)
    (hcell : ∀ j (hj : j < bs.length), w.cell? ⟨g, j, none⟩ = some (.int .u8 (bs[j] : Nat))) (hby : ∀ c ∈ bs, c < 256) (hi : i < bs.length) (hgo : go S0 (bs.take i) = some Si) (hSi : Si.2.1 ≤ 4) (hno : nx Si.1 Si.2.1 Si.2.2 bs[i] = none) :
    Calls Try.prog 16 #[.pointer (some ⟨b, 0, none⟩), .slice (some ⟨g, 0, none⟩) bs.length cap] w fun e w' =>
      e = .returned (.tuple #[.int .i64 i, .bool false]) ∧ Below b w w' := by
  have HC := hide hcell
  have HBy := hide hby
  have HD0 := hide hD
  have Hgo := hide hgo
  have HI0 := hide hI
  have HSi := hide hSi
  have Hno := hide hno
  clear hcell hby hD hgo hI hSi hno
  go_enter Try.func16, Try.ntmps16
  go_wp2_with fail
  go_loopw [6] (fun j wr => ∃ (k : Nat) (l s d : Nat) (n' : Int), j = .int .i64 k ∧ k ≤ i ∧ go (l, s, d) ((bs.take i).drop k) = some Si ∧ Inv (l, s, d) ∧ Dl wr b l s n' d ∧ Below b w wr) (fun j _ => bs.length - (intOf j).toNat)
  case atStart => exact ⟨0, S0.1, S0.2.1, S0.2.2, n, rfl, Nat.zero_le _, Hgo.out, HI0.out, HD0.out, Below.refl _ _⟩
  case round =>
    obtain ⟨k, l, s, d, n', rfl, hk, hgo, hI, hD, hB⟩ := hrel
    have HgoK := hide hgo
    have HIK := hide hI
    have HDK := hide hD
    clear hgo hI hD HD0 Hgo HI0
    have hlt : k < bs.length := by omega
    have hc := HC.out k hlt
    have hcb := HBy.out _ (List.getElem_mem hlt)
    have hcr := (hB.cell (p := ⟨g, k, none⟩) hg).trans hc
    by_cases hki : k < i
    · have hg2 := HgoK.out
      have hkt : k < (bs.take i).length := by rw [List.length_take]; omega
      rw [List.drop_eq_getElem_cons hkt] at hg2
      obtain ⟨hs4, S', hn, hg3⟩ := go_cons hg2
      rw [List.getElem_take] at hn
      generalize bs[k] = c at hcb hcr hn
      have hs4' : s ≤ 4 := hs4
      have Hn := hide hn
      have Hg3 := hide hg3
      have hs5 : ((s : Int) == 5) = false := by simp; omega
      clear hg2 hn hg3 hc hs4
      go_wp2_with (go_at_call 18; refine (state_any b _ s _ _ _ HDK.out).mono ?_; rintro e w' ⟨rfl, rfl⟩)
      refine (zzStep_any b l s d c n' _ HDK.out hcb hs4' HIK.out.lt HIK.out.2).mono ?_
      rintro e2 w2 ⟨hB2, hG⟩
      rw [Hn.out] at hG
      rcases hG with ⟨hr, _⟩ | ⟨l2, s2, d2, n2, hr, rfl, hD2⟩
      case inl => cases hr
      obtain rfl : S' = (l2, s2, d2) := Option.some.inj hr
      have HD2 := hide hD2
      have HI2 := hide (nx_inv HIK.out Hn.out)
      have hB02 := hB.trans hB2
      clear hr hD2 HDK HIK Hn
      go_wp2_with (go_at_call 22; refine (setState_any b _ s s2 _ _ _ HD2.out).mono ?_; rintro e3 w3 ⟨rfl, hD3, hB3⟩)
      refine (ended_any b _ s2 _ _ _ hD3).mono ?_
      rintro e4 w4 ⟨rfl, rfl⟩
      have hB03 := hB02.trans hB3
      go_wp2
      go_roundw
      case rel => exact ⟨k + 1, l2, s2, d2, n2, by go_num, by omega, Hg3.out, HI2.out, hD3, hB03⟩
      case measure => simp [intOf]; omega
    · obtain rfl : k = i := by omega
      have hg2 := HgoK.out
      rw [List.drop_eq_nil_of_le (by rw [List.length_take]; omega)] at hg2
      have hSf : Si = (l, s, d) := by simpa [go] using hg2.symm
      have hn := Hno.out
      have hs4' := HSi.out
      rw [hSf] at hn hs4'
      generalize bs[k] = c at hcb hcr hn
      have hs4 : s ≤ 4 := hs4'
      have Hn := hide hn
      have hs5 : ((s : Int) == 5) = false := by simp; omega
      clear hg2 hn hc hs4' hSf Hno HSi
      go_wp2_with (go_at_call 18; refine (state_any b _ s _ _ _ HDK.out).mono ?_; rintro e w' ⟨rfl, rfl⟩)
      refine (zzStep_any b l s d c n' _ HDK.out hcb hs4 HIK.out.lt HIK.out.2).mono ?_
      rintro e2 w2 ⟨hB2, hG⟩
      rw [show nx l s d c = none from Hn.out] at hG
      rcases hG with ⟨_, x, rfl⟩ | ⟨_, _, _, _, hr, _⟩
      case inr => cases hr
      have hB02 := hB.trans hB2
      go_wp2
      go_ret2
      exact ⟨rfl, hB02⟩
end Go.Proofs.Qxb6617066a
