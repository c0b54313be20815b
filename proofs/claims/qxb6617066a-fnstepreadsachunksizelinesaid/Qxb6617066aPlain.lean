/-
  The chunk-size line as a list of bytes, and where the plain steps lead over it. No walk.
-/
import Derived.Test.Qxb6617066aHelp
namespace Go.Proofs.Qxb6617066a
set_option linter.unusedVariables false

/-- Digit i of n in wd hex digits, upper case where bit i of u is set. -/
def dig (n wd u i : Nat) : Nat := hexd (n / 16 ^ (wd - 1 - i) % 16) (u / 2 ^ i % 2 == 1)

def digs (n wd u k : Nat) : List Nat := (List.range k).map (dig n wd u)

def extOf (x : Bool) (ex : List Nat) : List Nat := if x then 59 :: ex else []
def crOf (y : Bool) : List Nat := if y then [13] else []

theorem go_app : ∀ (a b : List Nat) (S T : Nat × Nat × Nat), go S a = some T → go S (a ++ b) = go T b
  | [], b, S, T, h => by simp only [go, Option.some.injEq] at h; subst h; rfl
  | c :: a, b, S, T, h => by
    obtain ⟨h1, S', h2, h3⟩ := go_cons h
    simp only [List.cons_append, go]
    rw [if_neg (by omega), h2]
    exact go_app a b S' T h3

theorem go_one {S T : Nat × Nat × Nat} {c : Nat} (h1 : S.2.1 ≤ 4) (h2 : nx S.1 S.2.1 S.2.2 c = some T) : go S [c] = some T := by
  simp only [go]
  rw [if_neg (by omega), h2]

theorem hexv_blank (c : Nat) (h : c = 32 ∨ c = 9) : hexv c = none := by rcases h with rfl | rfl <;> decide

theorem go_lead : ∀ (ld : List Nat), (∀ c ∈ ld, c = 32 ∨ c = 9) → go (0, 0, 0) ld = some (0, 0, 0)
  | [], _ => rfl
  | c :: cs, h => by
    have hc := h c (List.mem_cons_self)
    have hn : nx 0 0 0 c = some (0, 0, 0) := by
      unfold nx
      rw [if_pos (by omega), hexv_blank c hc]
      simp only
      rw [if_pos trivial, if_pos hc]
    simp only [go]
    rw [if_neg (by omega), hn]
    exact go_lead cs fun c hc => h c (List.mem_cons_of_mem _ hc)

theorem dig_v (n wd u i : Nat) : hexv (dig n wd u i) = some (n / 16 ^ (wd - 1 - i) % 16) := hexv_hexd ⟨n / 16 ^ (wd - 1 - i) % 16, Nat.mod_lt _ (by omega)⟩ _

theorem digs_succ (n wd u k : Nat) : digs n wd u (k + 1) = digs n wd u k ++ [dig n wd u k] := by
  unfold digs; rw [List.range_succ, List.map_append]; rfl

/-- Behind i digits: the number that they spell, the state, their count. -/
theorem go_digs (n wd u : Nat) (hn : n < 16 ^ wd) : ∀ i, i ≤ wd → i ≤ 15 → go (0, 0, 0) (digs n wd u i) = some (n / 16 ^ (wd - i), (if i = 0 then 0 else 1), i)
  | 0, _, _ => by simp [digs, go, Nat.div_eq_of_lt hn]
  | i + 1, h1, h2 => by
    rw [digs_succ, go_app _ _ _ _ (go_digs n wd u hn i (by omega) (by omega))]
    refine go_one (by show (if i = 0 then 0 else 1) ≤ 4; split <;> omega) ?_
    show nx (n / 16 ^ (wd - i)) (if i = 0 then 0 else 1) i (dig n wd u i) = _
    have e : wd - i = (wd - 1 - i) + 1 := by omega
    have e2 : wd - (i + 1) = wd - 1 - i := by omega
    unfold nx
    rw [if_pos (by split <;> omega), dig_v]
    simp only
    rw [if_pos (by omega), e, e2, Nat.pow_succ, ← Nat.div_div_eq_div_mul, if_neg (by omega)]
    congr 2
    omega

theorem nx_sixteen (l n wd u : Nat) (i : Nat) : nx l 1 15 (dig n wd u i) = none := by
  unfold nx
  rw [if_pos (by omega), dig_v]
  rfl

theorem aft_blank (l d c : Nat) (h : c = 32 ∨ c = 9) : aft l d c = some (l, 2, d) := if_pos h

theorem nx_trail (l s d c : Nat) (hs : s = 1 ∨ s = 2) (h : c = 32 ∨ c = 9) : nx l s d c = some (l, 2, d) := by
  rcases hs with rfl | rfl
  · unfold nx
    rw [if_pos (by omega), hexv_blank c h]
    simp only
    rw [if_neg (by omega), aft_blank _ _ _ h]
  · unfold nx
    rw [if_neg (by omega), if_pos rfl, aft_blank _ _ _ h]

theorem go_trail (l d : Nat) : ∀ (tr : List Nat) (s : Nat), s = 1 ∨ s = 2 → (∀ c ∈ tr, c = 32 ∨ c = 9) → ∃ s', (s' = 1 ∨ s' = 2) ∧ go (l, s, d) tr = some (l, s', d)
  | [], s, hs, _ => ⟨s, hs, rfl⟩
  | c :: cs, s, hs, h => by
    obtain ⟨s', h1, h2⟩ := go_trail l d cs 2 (.inr rfl) fun c hc => h c (List.mem_cons_of_mem _ hc)
    refine ⟨s', h1, ?_⟩
    simp only [go]
    rw [if_neg (by show ¬ 5 ≤ s; omega), nx_trail l s d c hs (h c List.mem_cons_self)]
    exact h2

theorem nx_mark (l s d c : Nat) (hs : s = 1 ∨ s = 2) (hc : hexv c = none) : nx l s d c = aft l d c := by
  rcases hs with rfl | rfl
  · unfold nx
    rw [if_pos (by omega), hc]
    simp only
    rw [if_neg (by omega)]
  · unfold nx
    rw [if_neg (by omega), if_pos rfl]

theorem go_ext (l d : Nat) : ∀ (ex : List Nat), (∀ c ∈ ex, c ≠ 10) → go (l, 3, d) ex = some (l, 3, d)
  | [], _ => rfl
  | c :: cs, h => by
    have hn : nx l 3 d c = some (l, 3, d) := by
      unfold nx
      rw [if_neg (by omega), if_neg (by omega), if_pos rfl, if_neg (h c List.mem_cons_self)]
    simp only [go]
    rw [if_neg (by show ¬ 5 ≤ 3; omega), hn]
    exact go_ext l d cs fun c hc => h c (List.mem_cons_of_mem _ hc)

theorem go_end (l d : Nat) (s : Nat) (hs : s = 1 ∨ s = 2) (x : Bool) (ex : List Nat) (y : Bool) (hex : ∀ c ∈ ex, c ≠ 10) : go (l, s, d) (extOf x ex ++ (crOf y ++ [10])) = some (fin l d) := by
  have h59 : go (l, s, d) [59] = some (l, 3, d) := go_one (by show s ≤ 4; omega) (by show nx l s d 59 = _; rw [nx_mark l s d 59 hs (by decide)]; rfl)
  have h13 : go (l, s, d) [13] = some (l, 4, d) := go_one (by show s ≤ 4; omega) (by show nx l s d 13 = _; rw [nx_mark l s d 13 hs (by decide)]; rfl)
  have h10 : go (l, s, d) [10] = some (fin l d) := go_one (by show s ≤ 4; omega) (by show nx l s d 10 = _; rw [nx_mark l s d 10 hs (by decide)]; rfl)
  have h310 : go (l, 3, d) [10] = some (fin l d) := go_one (by show 3 ≤ 4; omega) (by show nx l 3 d 10 = _; rfl)
  have h313 : go (l, 3, d) [13] = some (l, 3, d) := go_one (by show 3 ≤ 4; omega) (by show nx l 3 d 13 = _; rfl)
  have h410 : go (l, 4, d) [10] = some (fin l d) := go_one (by show 4 ≤ 4; omega) (by show nx l 4 d 10 = _; rfl)
  cases x
  · cases y
    · exact h10
    · show go (l, s, d) ([13] ++ [10]) = _
      rw [go_app _ _ _ _ h13]; exact h410
  · show go (l, s, d) ([59] ++ ex ++ (crOf y ++ [10])) = _
    rw [List.append_assoc, go_app _ _ _ _ h59, go_app _ _ _ _ (go_ext l d ex hex)]
    cases y
    · exact h310
    · show go (l, 3, d) ([13] ++ [10]) = _
      rw [go_app _ _ _ _ h313]; exact h310

/-- The line. -/
def line (n wd u : Nat) (ld tr ex : List Nat) (x y : Bool) : List Nat := ld ++ (digs n wd u wd ++ (tr ++ (extOf x ex ++ (crOf y ++ [10]))))

theorem line_yes (n wd u : Nat) (ld tr ex : List Nat) (x y : Bool) (h1 : 1 ≤ wd) (h2 : wd ≤ 15) (hn : n < 16 ^ wd) (hl : ∀ c ∈ ld, c = 32 ∨ c = 9) (ht : ∀ c ∈ tr, c = 32 ∨ c = 9) (he : ∀ c ∈ ex, c ≠ 10) :
    go (0, 0, 0) (line n wd u ld tr ex x y) = some (fin n wd) := by
  unfold line
  rw [go_app _ _ _ _ (go_lead ld hl), go_app _ _ _ _ (go_digs n wd u hn wd (Nat.le_refl _) h2)]
  rw [if_neg (by omega), Nat.sub_self, Nat.pow_zero, Nat.div_one]
  obtain ⟨s', hs, h⟩ := go_trail n wd tr 1 (.inl rfl) ht
  rw [go_app _ _ _ _ h]
  exact go_end n wd s' hs x ex y he

theorem digs_length (n wd u k : Nat) : (digs n wd u k).length = k := by simp [digs]

theorem line_no (n u : Nat) (ld tr ex : List Nat) (x y : Bool) (hn : n < 16 ^ 16) (hl : ∀ c ∈ ld, c = 32 ∨ c = 9) :
    ∃ (h : ld.length + 15 < (line n 16 u ld tr ex x y).length) (l : Nat), go (0, 0, 0) ((line n 16 u ld tr ex x y).take (ld.length + 15)) = some (l, 1, 15) ∧ nx l 1 15 (line n 16 u ld tr ex x y)[ld.length + 15] = none := by
  have hlen : ld.length + 15 < (line n 16 u ld tr ex x y).length := by unfold line; simp [digs_length]; omega
  have e : line n 16 u ld tr ex x y = (ld ++ digs n 16 u 15) ++ (dig n 16 u 15 :: (tr ++ (extOf x ex ++ (crOf y ++ [10])))) := by
    unfold line
    rw [show (16 : Nat) = 15 + 1 from rfl, digs_succ]
    simp
  refine ⟨hlen, n / 16 ^ (16 - 15), ?_, ?_⟩
  · rw [e, List.take_append_of_le_length (by simp [digs_length]), List.take_of_length_le (by simp [digs_length]), go_app _ _ _ _ (go_lead ld hl), go_digs n 16 u hn 15 (by omega) (by omega)]
    rfl
  · have e2 : (line n 16 u ld tr ex x y)[ld.length + 15] = dig n 16 u 15 := by
      have : (line n 16 u ld tr ex x y)[ld.length + 15]? = some (dig n 16 u 15) := by
        rw [e, List.getElem?_append_right (by simp [digs_length])]
        simp [digs_length]
      rw [List.getElem?_eq_getElem hlen] at this
      exact Option.some.inj this
    rw [e2]
    exact nx_sixteen _ n 16 u 15

theorem dig_lt (n wd u i : Nat) : dig n wd u i < 256 := by
  unfold dig hexd
  have := Nat.mod_lt (n / 16 ^ (wd - 1 - i)) (show 16 > 0 by omega)
  split
  · omega
  · split <;> omega

theorem line_bytes (n wd u : Nat) (ld tr ex : List Nat) (x y : Bool) (hl : ∀ c ∈ ld, c = 32 ∨ c = 9) (ht : ∀ c ∈ tr, c = 32 ∨ c = 9) (he : ∀ c ∈ ex, c < 256) : ∀ c ∈ line n wd u ld tr ex x y, c < 256 := by
  intro c hc
  unfold line at hc
  simp only [List.mem_append] at hc
  rcases hc with hc | hc | hc | hc | hc | hc
  · have := hl c hc; omega
  · unfold digs at hc
    rw [List.mem_map] at hc
    obtain ⟨i, _, rfl⟩ := hc
    exact dig_lt n wd u i
  · have := ht c hc; omega
  · unfold extOf at hc
    split at hc
    · rw [List.mem_cons] at hc
      rcases hc with rfl | hc
      · omega
      · exact he c hc
    · simp at hc
  · unfold crOf at hc
    split at hc
    · simp at hc; omega
    · simp at hc
  · simp at hc; omega

end Go.Proofs.Qxb6617066a
