/-
  Counting bits: no Go in sight.
-/
import Derived.Lib.BitFns
namespace Go.Proofs.Qxb6617086a.Pl
set_option linter.unusedVariables false

/-- How many of the lowest r bits of x are set. -/
def pop : Nat → Nat → Nat
  | 0, _ => 0
  | r + 1, x => x % 2 + pop r (x / 2)

theorem pop_succ : ∀ (r x : Nat), pop (r + 1) x = pop r x + x / 2 ^ r % 2
  | 0, x => by simp [pop]
  | r + 1, x => by
    have h := pop_succ r (x / 2)
    show x % 2 + pop (r + 1) (x / 2) = (x % 2 + pop r (x / 2)) + x / 2 ^ (r + 1) % 2
    rw [h, Nat.div_div_eq_div_mul, Nat.pow_succ, Nat.mul_comm 2]
    omega

theorem pop_add : ∀ (a b x : Nat), pop (a + b) x = pop a x + pop b (x / 2 ^ a)
  | 0, b, x => by simp [pop]
  | a + 1, b, x => by
    have e : a + 1 + b = (a + b) + 1 := by omega
    rw [e]
    show x % 2 + pop (a + b) (x / 2) = (x % 2 + pop a (x / 2)) + pop b (x / 2 ^ (a + 1))
    rw [pop_add a b (x / 2), Nat.div_div_eq_div_mul, Nat.pow_succ, Nat.mul_comm 2]
    omega

/-- Only the lowest r bits count. -/
theorem pop_mod : ∀ (r x : Nat), pop r (x % 2 ^ r) = pop r x
  | 0, _ => rfl
  | r + 1, x => by
    show x % 2 ^ (r + 1) % 2 + pop r (x % 2 ^ (r + 1) / 2) = x % 2 + pop r (x / 2)
    have e1 : x % 2 ^ (r + 1) % 2 = x % 2 := Nat.mod_mod_of_dvd x ⟨2 ^ r, by rw [Nat.pow_succ, Nat.mul_comm]⟩
    have e2 : x % 2 ^ (r + 1) / 2 = x / 2 % 2 ^ r := by
      rw [Nat.pow_succ, Nat.mul_comm, Nat.mod_mul_right_div_self]
    rw [e1, e2, pop_mod r]

theorem pop_zero : ∀ r, pop r 0 = 0
  | 0 => rfl
  | r + 1 => by show 0 % 2 + pop r (0 / 2) = 0; rw [Nat.zero_div, pop_zero r]

/-- Bits beyond the number's own are not set. -/
theorem pop_low (r s x : Nat) (h : r ≤ s) : pop s (x % 2 ^ r) = pop r x := by
  obtain ⟨d, rfl⟩ : ∃ d, s = r + d := ⟨s - r, by omega⟩
  rw [pop_add, pop_mod, Nat.div_eq_of_lt (Nat.mod_lt _ (Nat.two_pow_pos r)), pop_zero]
  rfl

theorem pop_le : ∀ (r x : Nat), pop r x ≤ r
  | 0, _ => Nat.le_refl _
  | r + 1, x => by
    have := pop_le r (x / 2)
    show x % 2 + pop r (x / 2) ≤ r + 1
    omega

/-- A number and its complement. -/
theorem pop_compl : ∀ (r n x : Nat), r ≤ n → x < 2 ^ n → pop r x + pop r (2 ^ n - 1 - x) = r
  | 0, _, _, _, _ => rfl
  | r + 1, n, x, h, hx => by
    obtain ⟨m, rfl⟩ : ∃ m, n = m + 1 := ⟨n - 1, by omega⟩
    rw [Nat.pow_succ] at hx
    have ih := pop_compl r m (x / 2) (by omega) (by omega)
    show (x % 2 + pop r (x / 2)) + ((2 ^ (m + 1) - 1 - x) % 2 + pop r ((2 ^ (m + 1) - 1 - x) / 2)) = r + 1
    have e1 : (2 ^ (m + 1) - 1 - x) / 2 = 2 ^ m - 1 - x / 2 := by rw [Nat.pow_succ]; omega
    have e2 : (2 ^ (m + 1) - 1 - x) % 2 = 1 - x % 2 := by rw [Nat.pow_succ]; omega
    rw [e1, e2]
    omega

/-! ### bits.OnesCount64's text over bytes -/

theorem and_split (A M B m : Nat) (hB : B < 256) (hm : m < 256) : (A * 256 + B) &&& (M * 256 + m) = (A &&& M) * 256 + (B &&& m) := by
  have e : ∀ X Y : Nat, Y < 256 → X * 256 + Y = X <<< 8 ||| Y := by
    intro X Y hY
    rw [Nat.shiftLeft_eq, show (256 : Nat) = 2 ^ 8 from rfl, Nat.mul_comm]
    exact Nat.two_pow_add_eq_or_of_lt (by simpa using hY) X
  have hBm : B &&& m < 256 := Nat.lt_of_le_of_lt Nat.and_le_left hB
  rw [e A B hB, e M m hm, e (A &&& M) (B &&& m) hBm]
  apply Nat.eq_of_testBit_eq
  intro i
  simp only [Nat.testBit_and, Nat.testBit_or, Nat.testBit_shiftLeft]
  by_cases h : 8 ≤ i
  · have h1 : B.testBit i = false := Nat.testBit_lt_two_pow (Nat.lt_of_lt_of_le hB (by rw [show (256 : Nat) = 2 ^ 8 from rfl]; exact Nat.pow_le_pow_right (by omega) h))
    have h2 : m.testBit i = false := Nat.testBit_lt_two_pow (Nat.lt_of_lt_of_le hm (by rw [show (256 : Nat) = 2 ^ 8 from rfl]; exact Nat.pow_le_pow_right (by omega) h))
    simp [h, h1, h2]
  · simp [h]

def val : List Nat → Nat
  | [] => 0
  | l :: hs => val hs * 256 + l

/-- n bytes of m. -/
def rep (m : Nat) : Nat → Nat
  | 0 => 0
  | n + 1 => rep m n * 256 + m

def t1 (l : Nat) : Nat := (l / 2 &&& 85) + (l &&& 85)
def t2 (l : Nat) : Nat := (l / 4 &&& 51) + (l &&& 51)
def t3 (l : Nat) : Nat := (l / 16 + l) &&& 15

theorem fin1 : ∀ (b : Fin 2) (l : Fin 256), (b.val * 128 + l.val / 2) &&& 85 = (l.val / 2) &&& 85 := by decide +kernel
theorem fin2 : ∀ (b : Fin 4) (l : Fin 256), (b.val * 64 + l.val / 4) &&& 51 = (l.val / 4) &&& 51 := by decide +kernel
theorem fin3 : ∀ (b : Fin 5) (l : Fin 69), (b.val * 16 + (l.val / 16 + l.val)) &&& 15 = (l.val / 16 + l.val) &&& 15 := by decide +kernel
theorem finAll : ∀ l : Fin 256, t3 (t2 (t1 l.val)) = pop 8 l.val := by decide +kernel
theorem fin1lt : ∀ l : Fin 256, t1 l.val < 256 := by decide +kernel
theorem fin2lt : ∀ l : Fin 256, t2 (t1 l.val) < 69 ∧ t2 (t1 l.val) % 16 ≤ 4 := by decide +kernel

theorem T1 : ∀ (bs : List Nat), (∀ l ∈ bs, l < 256) → (val bs / 2 &&& rep 85 bs.length) + (val bs &&& rep 85 bs.length) = val (bs.map t1)
  | [], _ => rfl
  | l :: hs, h => by
    have hl := h l List.mem_cons_self
    have ih := T1 hs fun x hx => h x (List.mem_cons_of_mem _ hx)
    show ((val hs * 256 + l) / 2 &&& rep 85 hs.length * 256 + 85) + ((val hs * 256 + l) &&& rep 85 hs.length * 256 + 85) = val (hs.map t1) * 256 + t1 l
    have e : (val hs * 256 + l) / 2 = (val hs / 2) * 256 + (val hs % 2 * 128 + l / 2) := by omega
    have f := fin1 ⟨val hs % 2, by omega⟩ ⟨l, hl⟩
    simp only at f
    rw [e, and_split _ _ _ _ (by omega) (by omega), and_split _ _ _ _ hl (by omega), f, ← ih]
    unfold t1
    omega

theorem T2 : ∀ (bs : List Nat), (∀ l ∈ bs, l < 256) → (val bs / 4 &&& rep 51 bs.length) + (val bs &&& rep 51 bs.length) = val (bs.map t2)
  | [], _ => rfl
  | l :: hs, h => by
    have hl := h l List.mem_cons_self
    have ih := T2 hs fun x hx => h x (List.mem_cons_of_mem _ hx)
    show ((val hs * 256 + l) / 4 &&& rep 51 hs.length * 256 + 51) + ((val hs * 256 + l) &&& rep 51 hs.length * 256 + 51) = val (hs.map t2) * 256 + t2 l
    have e : (val hs * 256 + l) / 4 = (val hs / 4) * 256 + (val hs % 4 * 64 + l / 4) := by omega
    have f := fin2 ⟨val hs % 4, by omega⟩ ⟨l, hl⟩
    simp only at f
    rw [e, and_split _ _ _ _ (by omega) (by omega), and_split _ _ _ _ hl (by omega), f, ← ih]
    unfold t2
    omega

theorem T3 : ∀ (bs : List Nat), (∀ l ∈ bs, l < 69 ∧ l % 16 ≤ 4) → (val bs / 16 + val bs) &&& rep 15 bs.length = val (bs.map t3)
  | [], _ => rfl
  | l :: hs, h => by
    have hl := h l List.mem_cons_self
    have ih := T3 hs fun x hx => h x (List.mem_cons_of_mem _ hx)
    show ((val hs * 256 + l) / 16 + (val hs * 256 + l)) &&& rep 15 hs.length * 256 + 15 = val (hs.map t3) * 256 + t3 l
    have hlow : val hs % 16 ≤ 4 := by
      cases hs with
      | nil => simp [val]
      | cons x xs =>
        have := (h x (List.mem_cons_of_mem _ List.mem_cons_self)).2
        show (val xs * 256 + x) % 16 ≤ 4
        omega
    have e : (val hs * 256 + l) / 16 + (val hs * 256 + l) = (val hs / 16 + val hs) * 256 + (val hs % 16 * 16 + (l / 16 + l)) := by omega
    have f := fin3 ⟨val hs % 16, by omega⟩ ⟨l, hl.1⟩
    simp only at f
    rw [e, and_split _ _ _ _ (by omega) (by omega), f, ih]
    rfl

/-- The last steps: the eight counts added up. -/
theorem sum8 (a b c d e f g h : Nat) (ha : a ≤ 8) (hb : b ≤ 8) (hc : c ≤ 8) (hd : d ≤ 8) (he : e ≤ 8) (hf : f ≤ 8) (hg : g ≤ 8) (hh : h ≤ 8) (x y z u : Nat) (hx : x = val [a, b, c, d, e, f, g, h])
    (hy : y = x + x / 256) (hz : z = y + y / 65536) (hu : u = z + z / 4294967296) : u % 128 = a + b + c + d + e + f + g + h ∧ u < 9223372036854775808 := by
  simp only [val] at hx
  have q1 : x / 256 = b + 256 * c + 65536 * d + 16777216 * e + 4294967296 * f + 1099511627776 * g + 281474976710656 * h := by omega
  have y1 : y = (a + b) + 256 * (b + c) + 65536 * ((c + d) + 256 * (d + e) + 65536 * (e + f) + 16777216 * (f + g) + 4294967296 * (g + h) + 1099511627776 * h) := by rw [hy, q1, hx]; omega
  clear hx hy q1
  have q2 : y / 65536 = (c + d) + 256 * (d + e) + 65536 * (e + f) + 16777216 * (f + g) + 4294967296 * (g + h) + 1099511627776 * h := by
    generalize (c + d) + 256 * (d + e) + 65536 * (e + f) + 16777216 * (f + g) + 4294967296 * (g + h) + 1099511627776 * h = Y at *
    omega
  have z1 : z = (a + b + c + d) + 256 * (b + c + d + e) + 65536 * (c + d + e + f) + 16777216 * (d + e + f + g) + 4294967296 * ((e + f + g + h) + 256 * (f + g + h) + 65536 * (g + h) + 16777216 * h) := by rw [hz, q2, y1]; omega
  clear hz y1 q2
  have q3 : z / 4294967296 = (e + f + g + h) + 256 * (f + g + h) + 65536 * (g + h) + 16777216 * h := by
    generalize (e + f + g + h) + 256 * (f + g + h) + 65536 * (g + h) + 16777216 * h = Z at *
    omega
  have u1 : u = (a + b + c + d + e + f + g + h) + 256 * ((b + c + d + e) + (f + g + h) + 256 * ((c + d + e + f) + (g + h)) + 65536 * ((d + e + f + g) + h) + 16777216 * ((e + f + g + h) + 256 * (f + g + h) + 65536 * (g + h) + 16777216 * h)) := by rw [hu, q3, z1]; omega
  clear hu z1 q3
  constructor
  · generalize (b + c + d + e) + (f + g + h) + 256 * ((c + d + e + f) + (g + h)) + 65536 * ((d + e + f + g) + h) + 16777216 * ((e + f + g + h) + 256 * (f + g + h) + 65536 * (g + h) + 16777216 * h) = U at *
    omega
  · omega

theorem pop_val : ∀ (bs : List Nat), (∀ l ∈ bs, l < 256) → pop (8 * bs.length) (val bs) = (bs.map (pop 8)).sum
  | [], _ => rfl
  | l :: hs, h => by
    have hl := h l List.mem_cons_self
    have ih := pop_val hs fun x hx => h x (List.mem_cons_of_mem _ hx)
    show pop (8 * (hs.length + 1)) (val hs * 256 + l) = pop 8 l + (hs.map (pop 8)).sum
    rw [show 8 * (hs.length + 1) = 8 + 8 * hs.length by omega, pop_add]
    have e1 : (val hs * 256 + l) / 2 ^ 8 = val hs := by omega
    have e2 : pop 8 (val hs * 256 + l) = pop 8 l := by
      rw [← pop_mod 8 (val hs * 256 + l)]
      congr 1
      omega
    rw [e1, e2, ih]

theorem bytes8 (x : Nat) (hx : x < 18446744073709551616) : ∃ bs : List Nat, bs.length = 8 ∧ (∀ l ∈ bs, l < 256) ∧ val bs = x := by
  refine ⟨[x % 256, x / 256 % 256, x / 65536 % 256, x / 16777216 % 256, x / 4294967296 % 256, x / 1099511627776 % 256, x / 281474976710656 % 256, x / 72057594037927936 % 256], rfl, ?_, ?_⟩
  · intro l hl
    simp only [List.mem_cons, List.not_mem_nil, or_false] at hl
    omega
  · simp only [val]
    omega

theorem val_lt : ∀ (bs : List Nat), (∀ l ∈ bs, l < 256) → val bs < 256 ^ bs.length
  | [], _ => by simp [val]
  | l :: hs, h => by
    have hl := h l List.mem_cons_self
    have ih := val_lt hs fun x hx => h x (List.mem_cons_of_mem _ hx)
    show val hs * 256 + l < 256 ^ (hs.length + 1)
    rw [Nat.pow_succ]
    omega

theorem arith69 (V P l : Nat) (h : V * 255 ≤ 68 * (P - 1)) (hp : 0 < P) (hl : l < 69) : (V * 256 + l) * 255 ≤ 68 * (P * 256 - 1) := by
  obtain ⟨Q, rfl⟩ : ∃ Q, P = Q + 1 := ⟨P - 1, by omega⟩
  have e : (Q + 1) * 256 - 1 = Q * 256 + 255 := by omega
  rw [Nat.add_sub_cancel] at h
  rw [e]
  have h1 : V * 255 * 256 ≤ 68 * Q * 256 := Nat.mul_le_mul_right 256 h
  have h2 : (V * 256 + l) * 255 = V * 255 * 256 + l * 255 := by rw [Nat.add_mul, Nat.mul_assoc, Nat.mul_assoc, Nat.mul_comm 256 255]
  have h3 : 68 * (Q * 256 + 255) = 68 * Q * 256 + 68 * 255 := by rw [Nat.mul_add, Nat.mul_assoc]
  rw [h2, h3]
  exact Nat.add_le_add h1 (Nat.mul_le_mul_right 255 (by omega))

theorem val_lt69 : ∀ (bs : List Nat), (∀ l ∈ bs, l < 69 ∧ l % 16 ≤ 4) → val bs * 255 ≤ 68 * (256 ^ bs.length - 1)
  | [], _ => by simp [val]
  | l :: hs, h => by
    have hl := (h l List.mem_cons_self).1
    have ih := val_lt69 hs fun x hx => h x (List.mem_cons_of_mem _ hx)
    show (val hs * 256 + l) * 255 ≤ 68 * (256 ^ (hs.length + 1) - 1)
    have hp : 0 < 256 ^ hs.length := Nat.pow_pos (by omega)
    rw [Nat.pow_succ]
    exact arith69 _ _ _ ih hp hl

theorem list8 (bs : List Nat) (hl : bs.length = 8) : ∃ p q r s t u v w, bs = [p, q, r, s, t, u, v, w] := by
  match bs, hl with
  | [p, q, r, s, t, u, v, w], _ => exact ⟨p, q, r, s, t, u, v, w, rfl⟩

theorem rep85 : rep 85 8 = 6148914691236517205 := by decide
theorem rep51 : rep 51 8 = 3689348814741910323 := by decide
theorem rep15 : rep 15 8 = 1085102592571150095 := by decide

theorem swar_bytes (bs : List Nat) (hl : bs.length = 8) (hlt : ∀ l ∈ bs, l < 256) (a b c M1 M2 M4 : Nat) (h1 : M1 = rep 85 8) (h2 : M2 = rep 51 8) (h4 : M4 = rep 15 8)
    (ha : a = (val bs / 2 &&& M1) + (val bs &&& M1)) (hb : b = (a / 4 &&& M2) + (a &&& M2)) (hc : c = (b / 16 + b) &&& M4) :
    c = val (bs.map (pop 8)) ∧ a < 256 ^ 8 ∧ b * 255 ≤ 68 * (256 ^ 8 - 1) := by
  have e1 := T1 bs hlt
  rw [hl, ← h1, ← ha] at e1
  have hlt1 : ∀ l ∈ bs.map t1, l < 256 := by
    intro l hl
    rw [List.mem_map] at hl
    obtain ⟨z, hz, rfl⟩ := hl
    exact fin1lt ⟨z, hlt z hz⟩
  have e2 := T2 (bs.map t1) hlt1
  rw [← e1, List.length_map, hl, ← h2, ← hb] at e2
  have hlt2 : ∀ l ∈ (bs.map t1).map t2, l < 69 ∧ l % 16 ≤ 4 := by
    intro l hl
    rw [List.map_map, List.mem_map] at hl
    obtain ⟨z, hz, rfl⟩ := hl
    exact fin2lt ⟨z, hlt z hz⟩
  have e3 := T3 ((bs.map t1).map t2) hlt2
  rw [← e2, List.length_map, List.length_map, hl, ← h4, ← hc] at e3
  have e4 : ((bs.map t1).map t2).map t3 = bs.map (pop 8) := by
    rw [List.map_map, List.map_map]
    exact List.map_congr_left fun z hz => finAll ⟨z, hlt z hz⟩
  have hv1 := val_lt _ hlt1
  have hv2 := val_lt69 _ hlt2
  rw [List.length_map, hl, ← e1] at hv1
  rw [List.length_map, List.length_map, hl, ← e2] at hv2
  exact ⟨e3.trans (congrArg val e4), hv1, hv2⟩

theorem sum_bytes (bs : List Nat) (hl : bs.length = 8) (hlt : ∀ l ∈ bs, l < 256) (c d e f : Nat) (hc : c = val (bs.map (pop 8))) (hd : d = c + c / 256) (he : e = d + d / 65536) (hf : f = e + e / 4294967296) :
    f % 128 = pop 64 (val bs) ∧ f < 9223372036854775808 := by
  have hp := pop_val bs hlt
  rw [hl] at hp
  obtain ⟨p, q, r, s, t, u, v, w, hbs⟩ := list8 bs hl
  have hc' : c = val [pop 8 p, pop 8 q, pop 8 r, pop 8 s, pop 8 t, pop 8 u, pop 8 v, pop 8 w] := by rw [hc, hbs]; simp only [List.map_cons, List.map_nil]
  have hs : (bs.map (pop 8)).sum = pop 8 p + pop 8 q + pop 8 r + pop 8 s + pop 8 t + pop 8 u + pop 8 v + pop 8 w := by
    rw [hbs]; simp only [List.map_cons, List.map_nil, List.sum_cons, List.sum_nil]; omega
  obtain ⟨s1, s2⟩ := sum8 _ _ _ _ _ _ _ _ (pop_le 8 p) (pop_le 8 q) (pop_le 8 r) (pop_le 8 s) (pop_le 8 t) (pop_le 8 u) (pop_le 8 v) (pop_le 8 w) c d e f hc' hd he hf
  exact ⟨s1.trans (hs.symm.trans hp.symm), s2⟩

theorem pow8 : (256 : Nat) ^ 8 = 18446744073709551616 := by decide

/-- The Go text's reckoning. -/
theorem swar (x a b c d e f : Nat) (hx : x < 18446744073709551616) (ha : a = (x / 2 &&& 6148914691236517205) + (x &&& 6148914691236517205)) (hb : b = (a / 4 &&& 3689348814741910323) + (a &&& 3689348814741910323))
    (hc : c = (b / 16 + b) &&& 1085102592571150095) (hd : d = c + c / 256) (he : e = d + d / 65536) (hf : f = e + e / 4294967296) :
    f % 128 = pop 64 x ∧ a < 18446744073709551616 ∧ b < 18446744073709551616 ∧ b / 16 + b < 18446744073709551616 ∧ d < 18446744073709551616 ∧ e < 18446744073709551616 ∧ f < 9223372036854775808 := by
  obtain ⟨bs, hl, hlt, hv⟩ := bytes8 x hx
  rw [← hv] at ha
  obtain ⟨s1, s2, s3⟩ := swar_bytes bs hl hlt a b c _ _ _ rep85.symm rep51.symm rep15.symm ha hb hc
  obtain ⟨u1, u2⟩ := sum_bytes bs hl hlt c d e f s1 hd he hf
  rw [hv] at u1
  rw [pow8] at s2 s3
  clear ha hb hc s1
  refine ⟨u1, s2, ?_, ?_, ?_, ?_, u2⟩
  · omega
  · omega
  · omega
  · omega

end Go.Proofs.Qxb6617086a.Pl
