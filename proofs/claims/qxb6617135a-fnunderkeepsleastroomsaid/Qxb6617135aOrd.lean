/-
  The order of the float64 words, said of whole numbers.
-/
import Derived.Test.Qxb6617135aRows
import Derived.WalkKit
import Derived.WalkSpells
import Derived.WalkLawsBesides
import Derived.Below
namespace Go.Proofs.Qxb6617135a
open Go.RowKit
set_option linter.unusedVariables false

theorem hide {p : Prop} (h : p) : Hid p := h

/-- The order of two words. -/
abbrev od (x y : Nat) : Option Ordering := FloatKind.f64.format.order x y

def pw (k : Nat) : Nat := 2 ^ k
theorem pw_pos (k : Nat) : 0 < pw k := Nat.two_pow_pos k
theorem pw_le (k n : Nat) (h : k ≤ n) : 2 ^ k ≤ pw n := Nat.pow_le_pow_right (by omega) h
def bigN : Nat := 2 ^ 53 * pw 2048
theorem bigN_pos : 0 < bigN := Nat.mul_pos (by decide) (pw_pos 2048)
def big : Int := (bigN : Int)
theorem big_pos : 0 < big := Int.natCast_pos.2 bigN_pos

/-- What a datum is worth, in units of the least place. -/
def worth : Ieee.Datum → Option Int
  | .number s m i => some (Ieee.signed s m (i - Ieee.double.leastPlace).toNat)
  | .infinity s => some (if s then -big else big)
  | .nan .. => none

/-- What a word is worth. -/
def val (x : Nat) : Option Int := worth (Ieee.double.read x)

theorem least : Ieee.double.leastPlace = -1074 := by decide
theorem binade52 : Ieee.double.binade = 2 ^ 52 := rfl

theorem signed_bound (s : Bool) (m k : Nat) (hm : m < 2 ^ 53) (hk : k < 2048) : -big < Ieee.signed s m k ∧ Ieee.signed s m k < big := by
  have h : m <<< k < bigN := by
    rw [Nat.shiftLeft_eq]
    have h1 : (2 : Nat) ^ k ≤ pw 2048 := pw_le k 2048 (by omega)
    exact Nat.lt_of_lt_of_le (Nat.mul_lt_mul_of_pos_right hm (Nat.two_pow_pos k)) (Nat.mul_le_mul_left _ h1)
  unfold Ieee.signed big
  generalize m <<< k = a at *
  generalize bigN = B at *
  split <;> omega

/-- What a word reads as. -/
theorem read_cases (x : Nat) : (∃ s m i, Ieee.double.read x = .number s m i ∧ m < 2 ^ 53 ∧ -1074 ≤ i ∧ i < 974) ∨ (∃ s, Ieee.double.read x = .infinity s) ∨ (∃ s t, Ieee.double.read x = .nan s t) := by
  unfold Ieee.Format.read
  dsimp only
  have hb : Ieee.double.binade = 4503599627370496 := by decide
  have hi : Ieee.double.infRung = 9218868437227405312 := by decide
  rw [hb, hi, least]
  generalize (x / Ieee.double.signWeight % 2 == 1) = s
  generalize x % Ieee.double.signWeight = g
  by_cases h1 : g < 4503599627370496
  · rw [if_pos h1]
    exact .inl ⟨_, _, _, rfl, by omega, by omega, by omega⟩
  · rw [if_neg h1]
    by_cases h2 : g < 9218868437227405312
    · rw [if_pos h2]
      refine .inl ⟨_, _, _, rfl, by omega, by omega, ?_⟩
      have : g / 4503599627370496 < 2048 := by omega
      omega
    · rw [if_neg h2]
      by_cases h3 : g = 9218868437227405312
      · rw [if_pos h3]; exact .inr (.inl ⟨_, rfl⟩)
      · rw [if_neg h3]; exact .inr (.inr ⟨_, _, rfl⟩)

theorem signed_shift (s : Bool) (m k c : Nat) : Ieee.signed s m (k + c) = Ieee.signed s m k * 2 ^ c := by
  unfold Ieee.signed
  have e : ((m <<< (k + c) : Nat) : Int) = ((m <<< k : Nat) : Int) * 2 ^ c := by
    rw [Nat.shiftLeft_eq, Nat.shiftLeft_eq, Nat.pow_add, ← Nat.mul_assoc]
    push_cast
    rfl
  split
  · rw [e, Int.neg_mul]
  · exact e

theorem compare_scale (a b c : Int) (hc : 0 < c) : compare (a * c) (b * c) = compare a b := by
  rcases Int.lt_trichotomy a b with h | h | h
  · rw [Int.compare_eq_lt.2 h, Int.compare_eq_lt.2 (Int.mul_lt_mul_of_pos_right h hc)]
  · rw [h]; simp
  · rw [Int.compare_eq_gt.2 h, Int.compare_eq_gt.2 (Int.mul_lt_mul_of_pos_right h hc)]

theorem order_numbers (s t : Bool) (m n : Nat) (i j : Int) (hi : -1074 ≤ i) (hj : -1074 ≤ j) :
    Ieee.Datum.order (.number s m i) (.number t n j) = some (compare (Ieee.signed s m (i + 1074).toNat) (Ieee.signed t n (j + 1074).toNat)) := by
  show some (compare (Ieee.signed s m (i - min i j).toNat) (Ieee.signed t n (j - min i j).toNat)) = _
  obtain ⟨c, hc⟩ : ∃ c : Nat, min i j + 1074 = c := ⟨(min i j + 1074).toNat, by omega⟩
  rw [show (i + 1074).toNat = (i - min i j).toNat + c by omega, show (j + 1074).toNat = (j - min i j).toNat + c by omega, signed_shift, signed_shift, compare_scale _ _ _ (Int.pow_pos (by decide))]

theorem od_val {x y : Nat} {u v : Int} (hx : val x = some u) (hy : val y = some v) : od x y = some (compare u v) := by
  have e : od x y = Ieee.Datum.order (Ieee.double.read x) (Ieee.double.read y) := rfl
  rw [e]
  unfold val at hx hy
  have hbig := big_pos
  rcases read_cases x with ⟨s, m, i, hr, hm, hi0, hi1⟩ | ⟨s, hr⟩ | ⟨s, t, hr⟩ <;> rcases read_cases y with ⟨s', m', j, hr', hm', hj0, hj1⟩ | ⟨s', hr'⟩ | ⟨s', t', hr'⟩
  all_goals (rw [hr] at hx; rw [hr'] at hy; rw [hr, hr'])
  all_goals simp only [worth, least, Option.some.injEq, reduceCtorEq] at hx hy
  · rw [order_numbers s s' m m' i j hi0 hj0]
    rw [← hx, ← hy, show i - -1074 = i + 1074 by omega, show j - -1074 = j + 1074 by omega]
  · have hb := signed_bound s m (i - -1074).toNat hm (by omega)
    rw [hx] at hb
    subst hy
    show some (if s' then Ordering.gt else Ordering.lt) = _
    cases s'
    · simp only [Bool.false_eq_true, if_false]; rw [Int.compare_eq_lt.2 hb.2]
    · simp only [if_true]; rw [Int.compare_eq_gt.2 hb.1]
  · have hb := signed_bound s' m' (j - -1074).toNat hm' (by omega)
    rw [hy] at hb
    subst hx
    show some (if s then Ordering.lt else Ordering.gt) = _
    cases s
    · simp only [Bool.false_eq_true, if_false]; rw [Int.compare_eq_gt.2 hb.2]
    · simp only [if_true]; rw [Int.compare_eq_lt.2 hb.1]
  · subst hx hy
    show some (compare s'.toNat s.toNat) = _
    have h2 : -big < big := by omega
    cases s <;> cases s' <;> simp [Int.compare_eq_lt.2 h2, Int.compare_eq_gt.2 h2] <;> rfl

theorem od_nan {x : Nat} (y : Nat) (hx : val x = none) : od x y = none ∧ od y x = none := by
  have e : od x y = Ieee.Datum.order (Ieee.double.read x) (Ieee.double.read y) := rfl
  have e' : od y x = Ieee.Datum.order (Ieee.double.read y) (Ieee.double.read x) := rfl
  rw [e, e']
  unfold val at hx
  rcases read_cases x with ⟨s, m, i, hr, hm, hi0, hi1⟩ | ⟨s, hr⟩ | ⟨s, t, hr⟩
  · rw [hr] at hx; simp [worth] at hx
  · rw [hr] at hx; simp [worth] at hx
  · rw [hr]
    constructor
    · cases Ieee.double.read y <;> rfl
    · cases Ieee.double.read y <;> rfl

theorem val_zero : val 0 = some 0 := by
  unfold val
  rw [show Ieee.double.read 0 = .number false 0 (-1074) by decide]
  simp [worth, least, Ieee.signed]

theorem lt_of {x y : Nat} {u v : Int} (hx : val x = some u) (hy : val y = some v) (h : u < v) : od x y = some .lt := by rw [od_val hx hy, Int.compare_eq_lt.2 h]
theorem gt_of {x y : Nat} {u v : Int} (hx : val x = some u) (hy : val y = some v) (h : v < u) : od x y = some .gt := by rw [od_val hx hy, Int.compare_eq_gt.2 h]
theorem eq_of {x y : Nat} {u v : Int} (hx : val x = some u) (hy : val y = some v) (h : u = v) : od x y = some .eq := by rw [od_val hx hy, Int.compare_eq_eq.2 h]

/-- max(x, 0). -/
def mx (x : Nat) : Nat := match od x 0 with
  | some .gt => x
  | some .eq => if (FloatKind.f64.decode x).neg then 0 else x
  | _ => 0

theorem val_mx {x : Nat} {u : Int} (hx : val x = some u) : val (mx x) = some (if u < 0 then 0 else u) := by
  rcases Int.lt_trichotomy u 0 with h | h | h
  · have e : mx x = 0 := by unfold mx; rw [lt_of hx val_zero h]
    rw [e, if_pos h]
    exact val_zero
  · have e : mx x = 0 ∨ mx x = x := by
      unfold mx
      rw [eq_of hx val_zero h]
      dsimp only
      split
      · exact .inl rfl
      · exact .inr rfl
    subst h
    rw [if_neg (by decide)]
    rcases e with e | e
    · rw [e]; exact val_zero
    · rw [e]; exact hx
  · have e : mx x = x := by unfold mx; rw [gt_of hx val_zero h]
    rw [e, if_neg (by omega)]
    exact hx

theorem run_max_zero (P : Program) (w : World) (ts : Array TypeId) (t : TypeId) {x : Nat} {u : Int} (hx : val x = some u) :
    (Builtin.max_ ts t #[.float .f64 x, .float .f64 0]).run P w = .ok (.float .f64 (mx x)) w := by
  unfold mx
  have e : ∀ o, od x 0 = o → FloatKind.f64.format.order x 0 = o := fun _ h => h
  rcases Int.lt_trichotomy u 0 with h | h | h
  · have h1 := lt_of hx val_zero h
    simp [Builtin.max_, Builtin.max2, e _ h1]
  · have h1 := eq_of hx val_zero h
    simp [Builtin.max_, Builtin.max2, e _ h1]
  · have h1 := gt_of hx val_zero h
    simp [Builtin.max_, Builtin.max2, e _ h1]
end Go.Proofs.Qxb6617135a
