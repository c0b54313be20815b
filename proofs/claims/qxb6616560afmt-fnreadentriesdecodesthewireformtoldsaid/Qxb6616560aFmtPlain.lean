/-
  The plain mathematics of this seat: minimal unsigned varints and the entries that readEntries reads. No Go in sight.
-/
import Derived.Lib.VarintDec
import Derived.Lib.BitFns
namespace Go.Proofs.Qxb6616560aFmt.Pl

/-- uvarintLen. -/
def ulen (n : Nat) : Nat := max 1 ((Lib.bitLen n + 6) / 7)

/-- The value and the size that binary.Uvarint gives, taken where the size is the least. -/
def fit (d : Nat × Int) : Option (Nat × Nat) := if d.2 = (ulen d.1 : Int) then some (d.1, ulen d.1) else none

/-- The minimal unsigned varint at the start of l: its value, its size. -/
def uv (l : List UInt8) : Option (Nat × Nat) := fit (Lib.uvarintDec l)

theorem fit_nonpos (m : Int) (h : m ≤ 0) : fit (0, m) = none := by
  have e : ulen 0 = 1 := by decide
  unfold fit
  rw [if_neg]
  rw [e]
  show ¬ (m = ((1 : Nat) : Int))
  omega

theorem bitLen_zero : Lib.bitLen 0 = 0 := by decide

theorem ulen_le (acc k : Nat) (hk1 : 1 ≤ k) (hk : k ≤ 9) (h : acc < 2 ^ (7 * k)) : ulen acc ≤ k := by
  have := Lib.bitLen_le acc (7 * k) (by omega) h
  unfold ulen
  omega

theorem fit_padded (acc k : Nat) (hk1 : 1 ≤ k) (hk : k ≤ 9) (h : acc < 2 ^ (7 * k)) : fit (acc, (k : Int) + 1) = none := by
  have := ulen_le acc k hk1 hk h
  unfold fit
  rw [if_neg]
  show ¬ ((k : Int) + 1 = (ulen acc : Int))
  omega

theorem bitLen_small (b : Nat) (h1 : 1 ≤ b) (h : b < 128) : 1 ≤ Lib.bitLen b ∧ Lib.bitLen b ≤ 7 := by
  have h2 := Lib.bitLen_le b 7 (by omega) (by omega)
  have h3 := Lib.bitLen_half b (by omega) (by omega)
  omega

theorem ulen_eq (acc b k : Nat) (hk : k ≤ 9) (h : acc < 2 ^ (7 * k)) (hb : b < 128) (hlt : acc + b * 2 ^ (7 * k) < 2 ^ 64) (h0 : k = 0 ∨ 1 ≤ b) : ulen (acc + b * 2 ^ (7 * k)) = k + 1 := by
  by_cases hk0 : k = 0
  · subst hk0
    have ha : acc = 0 := by simpa using h
    subst ha
    have e : 0 + b * 2 ^ (7 * 0) = b := by simp
    rw [e]
    have := Lib.bitLen_le b 7 (by omega) (by omega)
    unfold ulen
    omega
  · have hb1 : 1 ≤ b := by omega
    have hp : 0 < 2 ^ (7 * k) := Nat.two_pow_pos _
    have hge : 2 ^ (7 * k) ≤ acc + b * 2 ^ (7 * k) := by
      have := Nat.le_mul_of_pos_left (2 ^ (7 * k)) hb1
      omega
    have e := Lib.bitLen_shift (7 * k) (acc + b * 2 ^ (7 * k)) hge hlt
    have ed : (acc + b * 2 ^ (7 * k)) / 2 ^ (7 * k) = b := by
      rw [Nat.add_mul_div_right _ _ hp, Nat.div_eq_of_lt h, Nat.zero_add]
    rw [ed] at e
    have hs := bitLen_small b hb1 hb
    unfold ulen
    rw [e]
    omega

theorem fit_good (acc b k : Nat) (hk : k ≤ 9) (h : acc < 2 ^ (7 * k)) (hb : b < 128) (hlt : acc + b * 2 ^ (7 * k) < 2 ^ 64) (h0 : k = 0 ∨ 1 ≤ b) : fit (acc + b * 2 ^ (7 * k), (k : Int) + 1) = some (acc + b * 2 ^ (7 * k), k + 1) := by
  have e := ulen_eq acc b k hk h hb hlt h0
  unfold fit
  rw [if_pos]
  · rw [e]
  · show (k : Int) + 1 = (ulen (acc + b * 2 ^ (7 * k)) : Int)
    rw [e]; rfl

theorem from_le : ∀ (l : List UInt8) (i acc : Nat), (Lib.uvarintFrom i acc l).2 ≤ i + l.length
  | [], i, acc => by simp [Lib.uvarintFrom]
  | b :: r, i, acc => by
    simp only [Lib.uvarintFrom]
    split
    · simp only [List.length_cons]; omega
    · split
      · split
        · simp only [List.length_cons]; omega
        · simp only [List.length_cons]; omega
      · have := from_le r (i + 1) (acc + b.toNat % 128 * 2 ^ (7 * i))
        simp only [List.length_cons] at *
        omega

theorem uv_some {l : List UInt8} {n k : Nat} (h : uv l = some (n, k)) : Lib.uvarintDec l = (n, (k : Int)) ∧ k = ulen n ∧ 1 ≤ k ∧ k ≤ l.length ∧ n < 18446744073709551616 := by
  unfold uv fit at h
  split at h
  · rename_i hd
    simp only [Option.some.injEq, Prod.mk.injEq] at h
    obtain ⟨h1, h2⟩ := h
    have hl := from_le l 0 0
    have hlt := Lib.uvarintDec_lt l
    have hd' : (Lib.uvarintDec l).2 = (k : Int) := by rw [hd, h2]
    refine ⟨?_, ?_, ?_, ?_, ?_⟩
    · rw [← h1, ← hd']
    · rw [← h1]; exact h2.symm
    · rw [← h2]; unfold ulen; omega
    · have : (Lib.uvarintFrom 0 0 l).2 = (k : Int) := hd'
      omega
    · rw [← h1]; exact hlt
  · cases h

theorem uv_none {l : List UInt8} (h : uv l = none) : (Lib.uvarintDec l).2 ≠ (ulen (Lib.uvarintDec l).1 : Int) := by
  unfold uv fit at h
  split at h
  · cases h
  · assumption

theorem ulen_small (n : Nat) (h : n < 18446744073709551616) : 1 ≤ ulen n ∧ ulen n ≤ 10 := by
  have := Lib.bitLen_le n 64 (by omega) (by omega)
  unfold ulen
  omega

/-- One entry at the start of l: the process, its count, the bytes that it takes. -/
def step (l : List UInt8) (lim next : Nat) : Option (Nat × Nat × Nat) :=
  match uv l with
  | none => none
  | some (g, n1) => if lim - next ≤ g then none else
    match uv (l.drop n1) with
    | none => none
    | some (c, n2) => some (next + g, c, n1 + n2)

/-- k entries from the start of l: those read, and what is left with the process after the last one read (none: an error). -/
def run (lim : Nat) : Nat → List UInt8 → Nat → List (Nat × Nat) × Option (List UInt8 × Nat)
  | 0, l, next => ([], some (l, next))
  | k + 1, l, next => match step l lim next with
    | none => ([], none)
    | some (p, c, n) => ((p, c) :: (run lim k (l.drop n) (p + 1)).1, (run lim k (l.drop n) (p + 1)).2)

theorem run_none_step {lim k : Nat} {l : List UInt8} {next : Nat} (h : step l lim next = none) : run lim (k + 1) l next = ([], none) := by
  simp only [run, h]
theorem run_some_step {lim k : Nat} {l : List UInt8} {next p c n : Nat} (h : step l lim next = some (p, c, n)) :
    run lim (k + 1) l next = ((p, c) :: (run lim k (l.drop n) (p + 1)).1, (run lim k (l.drop n) (p + 1)).2) := by
  simp only [run, h]

theorem run_add (lim : Nat) : ∀ (a b : Nat) (l : List UInt8) (next : Nat), run lim (a + b) l next =
    match (run lim a l next).2 with
    | none => ((run lim a l next).1, none)
    | some (l', next') => ((run lim a l next).1 ++ (run lim b l' next').1, (run lim b l' next').2)
  | 0, b, l, next => by simp [run]
  | a + 1, b, l, next => by
    have e : a + 1 + b = (a + b) + 1 := by omega
    rw [e]
    cases hs : step l lim next with
    | none => rw [run_none_step hs, run_none_step hs]
    | some t =>
      obtain ⟨p, c, n⟩ := t
      rw [run_some_step hs, run_some_step hs, run_add lim a b]
      simp only
      cases hr : (run lim a (l.drop n) (p + 1)).2 with
      | none => simp
      | some t => simp

/-- The loop's own step: one round more. -/
theorem run_snoc_some {lim i : Nat} {l l' : List UInt8} {next nx p c n : Nat} {ps : List (Nat × Nat)} (h : run lim i l next = (ps, some (l', nx))) (hs : step l' lim nx = some (p, c, n)) :
    run lim (i + 1) l next = (ps ++ [(p, c)], some (l'.drop n, p + 1)) := by
  rw [run_add, h]
  simp [run, hs]
theorem run_snoc_none {lim i j : Nat} {l l' : List UInt8} {next nx : Nat} {ps : List (Nat × Nat)} (h : run lim i l next = (ps, some (l', nx))) (hs : step l' lim nx = none) (hj : i < j) :
    run lim j l next = (ps, none) := by
  obtain ⟨d, rfl⟩ : ∃ d, j = i + (d + 1) := ⟨j - i - 1, by omega⟩
  rw [run_add, h]
  simp [run, hs]

theorem step_some {l : List UInt8} {lim next p c n : Nat} (h : step l lim next = some (p, c, n)) (hn : next ≤ lim) : next ≤ p ∧ p < lim ∧ c < 18446744073709551616 ∧ 2 ≤ n ∧ n ≤ l.length := by
  unfold step at h
  cases h1 : uv l with
  | none => rw [h1] at h; cases h
  | some t =>
    obtain ⟨g, n1⟩ := t
    rw [h1] at h
    simp only at h
    split at h
    · cases h
    · cases h2 : uv (l.drop n1) with
      | none => rw [h2] at h; cases h
      | some t =>
        obtain ⟨c', n2⟩ := t
        rw [h2] at h
        simp only [Option.some.injEq, Prod.mk.injEq] at h
        obtain ⟨rfl, rfl, rfl⟩ := h
        obtain ⟨_, _, a1, a2, a3⟩ := uv_some h1
        obtain ⟨_, _, b1, b2, b3⟩ := uv_some h2
        rw [List.length_drop] at b2
        omega

/-- What holds of a reading without an error. -/
theorem run_some (lim : Nat) : ∀ (k : Nat) (l : List UInt8) (next : Nat) (ps : List (Nat × Nat)) (l' : List UInt8) (nx : Nat), next ≤ lim → run lim k l next = (ps, some (l', nx)) →
    ps.length = k ∧ nx ≤ lim ∧ next ≤ nx ∧ (∃ m, l' = l.drop m ∧ 2 * k ≤ m ∧ m ≤ l.length)
  | 0, l, next, ps, l', nx, hn, h => by
    simp only [run, Prod.mk.injEq, Option.some.injEq] at h
    obtain ⟨rfl, rfl, rfl⟩ := h
    exact ⟨rfl, hn, Nat.le_refl _, 0, rfl, by omega, by omega⟩
  | k + 1, l, next, ps, l', nx, hn, h => by
    cases hs : step l lim next with
    | none => rw [run_none_step hs] at h; simp at h
    | some t =>
      obtain ⟨p, c, n⟩ := t
      rw [run_some_step hs] at h
      simp only [Prod.mk.injEq] at h
      obtain ⟨h1, h2⟩ := h
      obtain ⟨a1, a2, a3, a4, a5⟩ := step_some hs hn
      obtain ⟨b1, b2, b3, m, b4, b5, b6⟩ := run_some lim k (l.drop n) (p + 1) _ l' nx (by omega) (Prod.ext rfl h2)
      rw [List.length_drop] at b6
      refine ⟨by rw [← h1]; simp [b1], b2, by omega, n + m, ?_, by omega, by omega⟩
      rw [b4, List.drop_drop]

/-- The processes that were read: each at least next, below the limit, and (where there is one) the last one is just ahead of nx. -/
theorem run_procs (lim : Nat) : ∀ (k : Nat) (l : List UInt8) (next : Nat), next ≤ lim →
    (∀ i, i < (run lim k l next).1.length → next ≤ ((run lim k l next).1.getD i (0, 0)).1 ∧ ((run lim k l next).1.getD i (0, 0)).1 < lim ∧ ((run lim k l next).1.getD i (0, 0)).2 < 18446744073709551616) ∧
    (∀ i, i + 1 < (run lim k l next).1.length → ((run lim k l next).1.getD i (0, 0)).1 < ((run lim k l next).1.getD (i + 1) (0, 0)).1)
  | 0, l, next, hn => by simp [run]
  | k + 1, l, next, hn => by
    cases hs : step l lim next with
    | none => rw [run_none_step hs]; simp
    | some t =>
      obtain ⟨p, c, n⟩ := t
      obtain ⟨a1, a2, a3, a4, a5⟩ := step_some hs hn
      obtain ⟨b1, b2⟩ := run_procs lim k (l.drop n) (p + 1) (by omega)
      rw [run_some_step hs]
      simp only [List.length_cons]
      refine ⟨fun i hi => ?_, fun i hi => ?_⟩
      · cases i with
        | zero => simp only [List.getD_cons_zero]; omega
        | succ i =>
          have := b1 i (by omega)
          simp only [List.getD_cons_succ]; omega
      · cases i with
        | zero =>
          have := b1 0 (by omega)
          simp only [List.getD_cons_zero, List.getD_cons_succ]; omega
        | succ i =>
          have := b2 i (by omega)
          simpa only [List.getD_cons_succ] using this

/-- Where the reading stands behind k entries: one past the last of them, or where it began. -/
theorem run_last (lim : Nat) : ∀ (k : Nat) (l : List UInt8) (next : Nat) (ps : List (Nat × Nat)) (l' : List UInt8) (nx : Nat), run lim k l next = (ps, some (l', nx)) →
    nx = if ps.length = 0 then next else (ps.getD (ps.length - 1) (0, 0)).1 + 1
  | 0, l, next, ps, l', nx, h => by
    simp only [run, Prod.mk.injEq, Option.some.injEq] at h
    obtain ⟨rfl, rfl, rfl⟩ := h
    simp
  | k + 1, l, next, ps, l', nx, h => by
    cases hs : step l lim next with
    | none => rw [run_none_step hs] at h; simp at h
    | some t =>
      obtain ⟨p, c, n⟩ := t
      rw [run_some_step hs] at h
      simp only [Prod.mk.injEq] at h
      obtain ⟨h1, h2⟩ := h
      have ih := run_last lim k (l.drop n) (p + 1) _ l' nx (Prod.ext rfl h2)
      subst h1
      rw [ih]
      simp only [List.length_cons]
      rw [if_neg (by omega : ¬ ((run lim k (l.drop n) (p + 1)).1.length + 1 = 0))]
      by_cases hz : (run lim k (l.drop n) (p + 1)).1.length = 0
      · rw [if_pos hz, hz]; simp
      · rw [if_neg hz]
        obtain ⟨j, hj⟩ : ∃ j, (run lim k (l.drop n) (p + 1)).1.length = j + 1 := ⟨_, (Nat.succ_pred_eq_of_ne_zero hz).symm⟩
        rw [hj]
        simp

/-- The same bytes under a limit that is off less. -/
theorem step_shift (l : List UInt8) (lim next off : Nat) : step l lim (next + off) = (step l (lim - off) next).map fun t => (t.1 + off, t.2) := by
  unfold step
  cases uv l with
  | none => rfl
  | some t =>
    obtain ⟨g, n1⟩ := t
    simp only
    rw [show lim - (next + off) = lim - off - next by omega]
    split
    · rfl
    · cases uv (l.drop n1) with
      | none => rfl
      | some t =>
        obtain ⟨c, n2⟩ := t
        simp only [Option.map_some, Option.some.injEq, Prod.mk.injEq, and_true]
        omega

theorem run_shift (lim off : Nat) : ∀ (k : Nat) (l : List UInt8) (next : Nat), run lim k l (next + off) =
    ((run (lim - off) k l next).1.map (fun t => (t.1 + off, t.2)), (run (lim - off) k l next).2.map fun t => (t.1, t.2 + off))
  | 0, l, next => by simp [run]
  | k + 1, l, next => by
    have hs := step_shift l lim next off
    cases h : step l (lim - off) next with
    | none =>
      rw [h] at hs
      rw [run_none_step h, run_none_step hs]; rfl
    | some t =>
      obtain ⟨p, c, n⟩ := t
      rw [h] at hs
      have hs' : step l lim (next + off) = some (p + off, c, n) := hs
      rw [run_some_step h, run_some_step hs']
      have ih := run_shift lim off k (l.drop n) (p + 1)
      rw [show p + off + 1 = p + 1 + off by omega, ih]
      simp

/-- Fewer entries than asked for: an error. -/
theorem run_len (lim : Nat) : ∀ (k : Nat) (l : List UInt8) (next : Nat), (run lim k l next).1.length ≤ k
  | 0, l, next => by simp [run]
  | k + 1, l, next => by
    cases hs : step l lim next with
    | none => rw [run_none_step hs]; simp
    | some t =>
      obtain ⟨p, c, n⟩ := t
      rw [run_some_step hs]
      have := run_len lim k (l.drop n) (p + 1)
      simp only [List.length_cons]; omega

end Go.Proofs.Qxb6616560aFmt.Pl
