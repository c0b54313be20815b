/-
  The inputs at which FnStepReadsAChunkSizeLine answers at once; all inputs together.
-/
import Derived.Test.Qxb6617066aLaw
namespace Go.Proofs.Qxb6617066a
open Go.RowKit
set_option linter.unusedVariables false

set_option maxRecDepth 100000 in
set_option maxHeartbeats 2000000 in
theorem short_len (n wd u : Int) (a b c : Option Addr) (la lb lc ca cb cc : Nat) (x y : Bool) (w : World) (hm : la ≤ 9223372036854775807) (h : 262144 < la ∨ 262144 < lb ∨ 262144 < lc) :
    Calls Try.prog 5 #[.int .u64 n, .int .i64 wd, .int .u16 u, .slice a la ca, .slice b lb cb, .bool x, .slice c lc cc, .bool y] w fun e w' => e = .returned (.bool true) ∧ Below w.heap.size w w' := by
  by_cases hs : la + lb + lc ≤ 1048576
  · by_cases h1 : 262144 < la
    · have d1 : decide ((262144 : Int) < la) = true := by simp; omega
      go_enter Try.func5, Try.ntmps5
      go_wp2_with (go_at_call 11; refine (bytes_yes _ _ _ _ _ _ _ _ _ _ _ _ _ _ _ hs).mono ?_; rintro e w' ⟨rfl, rfl⟩)
      go_ret
      exact ⟨rfl, Below.refl _ _⟩
    have d1 : decide ((262144 : Int) < la) = false := by simp; omega
    by_cases h2 : 262144 < lb
    · have d2 : decide ((262144 : Int) < lb) = true := by simp; omega
      go_enter Try.func5, Try.ntmps5
      go_wp2_with (go_at_call 11; refine (bytes_yes _ _ _ _ _ _ _ _ _ _ _ _ _ _ _ hs).mono ?_; rintro e w' ⟨rfl, rfl⟩)
      go_ret
      exact ⟨rfl, Below.refl _ _⟩
    have d2 : decide ((262144 : Int) < lb) = false := by simp; omega
    have d3 : decide ((262144 : Int) < lc) = true := by simp; omega
    clear h h1 h2
    go_enter Try.func5, Try.ntmps5
    go_wp2_with (go_at_call 11; refine (bytes_yes _ _ _ _ _ _ _ _ _ _ _ _ _ _ _ hs).mono ?_; rintro e w' ⟨rfl, rfl⟩)
    go_ret
    exact ⟨rfl, Below.refl _ _⟩
  · clear h
    go_enter Try.func5, Try.ntmps5
    go_wp2_with (go_at_call 11; refine (bytes_no _ _ _ _ _ _ _ _ _ _ _ _ _ _ _ (by omega) hm).mono ?_; rintro e w' ⟨rfl, rfl⟩)
    go_ret
    exact ⟨rfl, Below.refl _ _⟩

set_option maxRecDepth 100000 in
set_option maxHeartbeats 2000000 in
theorem short_wd (n wd u : Int) (a b c : Option Addr) (la lb lc ca cb cc : Nat) (x y : Bool) (w : World) (h1 : la ≤ 262144) (h2 : lb ≤ 262144) (h3 : lc ≤ 262144) (h : wd < 1 ∨ 16 < wd) :
    Calls Try.prog 5 #[.int .u64 n, .int .i64 wd, .int .u16 u, .slice a la ca, .slice b lb cb, .bool x, .slice c lc cc, .bool y] w fun e w' => e = .returned (.bool true) ∧ Below w.heap.size w w' := by
  rcases h with h | h
  all_goals
    go_enter Try.func5, Try.ntmps5
    go_wp2_with (go_at_call 11; refine (bytes_yes _ _ _ _ _ _ _ _ _ _ _ _ _ _ _ (by omega)).mono ?_; rintro e w' ⟨rfl, rfl⟩)
    go_ret
    exact ⟨rfl, Below.refl _ _⟩

set_option maxRecDepth 100000 in
set_option maxHeartbeats 2000000 in
theorem short_n (n wd : Nat) (u : Int) (a b c : Option Addr) (la lb lc ca cb cc : Nat) (x y : Bool) (w : World) (h1 : la ≤ 262144) (h2 : lb ≤ 262144) (h3 : lc ≤ 262144) (hn64 : n < 18446744073709551616) (hw1 : 1 ≤ wd) (hw2 : wd < 16) (h : ¬ n < 16 ^ wd) :
    Calls Try.prog 5 #[.int .u64 n, .int .i64 wd, .int .u16 u, .slice a la ca, .slice b lb cb, .bool x, .slice c lc cc, .bool y] w fun e w' => e = .returned (.bool true) ∧ Below w.heap.size w w' := by
  have hd : decide ((wd : Int) < 16) = true := by simp; omega
  have hz : ((n : Int) / 2 ^ (4 * wd) != 0) = true := by
    have e : (16 : Nat) ^ wd = 2 ^ (4 * wd) := by rw [show (16 : Nat) = 2 ^ 4 from rfl, ← Nat.pow_mul]
    have h3 : (n : Int) / 2 ^ (4 * wd) = ((n / 2 ^ (4 * wd) : Nat) : Int) := by push_cast; rfl
    have h4 : 0 < n / 2 ^ (4 * wd) := Nat.div_pos (by omega) (Nat.two_pow_pos _)
    rw [h3, bne_iff_ne]
    omega
  clear h
  go_enter Try.func5, Try.ntmps5
  go_wp2_with (go_at_call 11; refine (bytes_yes _ _ _ _ _ _ _ _ _ _ _ _ _ _ _ (by omega)).mono ?_; rintro e w' ⟨rfl, rfl⟩)
  go_ret
  exact ⟨rfl, Below.refl _ _⟩

set_option maxRecDepth 100000 in
set_option maxHeartbeats 4000000 in
theorem short_bytes (n wd : Nat) (u : Int) (v3 v4 v6 : Value) (ld tr ex : List Nat) (x y : Bool) (w : World) (h3 : In w v3 ld) (h4 : In w v4 tr) (h6 : In w v6 ex) (l3 : ld.length ≤ 262144) (l4 : tr.length ≤ 262144) (l6 : ex.length ≤ 262144)
    (hw1 : 1 ≤ wd) (hw2 : wd ≤ 16) (hn : n < 16 ^ wd) (hn64 : n < 18446744073709551616) (h : blankB ld = false ∨ (blankB ld = true ∧ blankB tr = false) ∨ (blankB ld = true ∧ blankB tr = true ∧ lfB ex = true)) :
    Calls Try.prog 5 #[.int .u64 n, .int .i64 wd, .int .u16 u, v3, v4, .bool x, v6, .bool y] w fun e w' => e = .returned (.bool true) ∧ Below w.heap.size w w' := by
  obtain ⟨a3, c3, rfl⟩ := h3.shape
  obtain ⟨a4, c4, rfl⟩ := h4.shape
  obtain ⟨a6, c6, rfl⟩ := h6.shape
  have H3 := hide h3
  have H4 := hide h4
  have H6 := hide h6
  have Hn := hide hn
  have Hh := hide h
  clear h3 h4 h6 hn h
  go_enter Try.func5, Try.ntmps5
  go_upto_region 7 with (go_at_call 11; refine (bytes_yes _ _ _ _ _ _ _ _ _ _ _ _ _ _ _ (by omega)).mono ?_; rintro e w' ⟨rfl, rfl⟩)
  go_cut [61] (fun o wx => w' = wx ∧ o = .bool false)
  case first =>
    by_cases h16 : wd < 16
    · have hd : decide ((wd : Int) < 16) = true := by simp; omega
      have hz := shift_zero n wd Hn.out
      go_wp2
      go_meet
      exact ⟨rfl, rfl⟩
    · have hd : decide ((wd : Int) < 16) = false := by simp; omega
      go_wp2_with fail
      go_meet
      exact ⟨rfl, rfl⟩
  case rest =>
    obtain ⟨hwx, rfl⟩ := hcut
    subst hwx
    go_wp2_with fail
    refine (allBlank_any _ ld _ H3.out (by omega)).mono ?_
    rintro e1 wa ⟨rfl, hwa⟩
    subst hwa
    rcases Hh.out with hh | ⟨hh, hh2⟩ | ⟨hh, hh2, hh3⟩
    · rw [hh]
      clear hh
      go_wp2
      go_ret
      exact ⟨rfl, Below.refl _ _⟩
    · rw [hh]
      clear hh
      go_wp2_with fail
      refine (allBlank_any _ tr _ H4.out (by omega)).mono ?_
      rintro e2 wb ⟨rfl, hwb⟩
      subst hwb
      rw [hh2]
      clear hh2
      go_wp2
      go_ret
      exact ⟨rfl, Below.refl _ _⟩
    · rw [hh]
      clear hh
      go_wp2_with fail
      refine (allBlank_any _ tr _ H4.out (by omega)).mono ?_
      rintro e2 wb ⟨rfl, hwb⟩
      subst hwb
      rw [hh2]
      clear hh2
      go_wp2_with fail
      refine (hasByte_any _ ex _ H6.out (by omega)).mono ?_
      rintro e3 wZ ⟨rfl, hwZ⟩
      subst hwZ
      rw [hh3]
      clear hh3
      go_wp2
      go_ret
      exact ⟨rfl, Below.refl _ _⟩

theorem law_any (n u : Nat) (wd : Int) (a b c : Option Addr) (la lb lc ca cb cc : Nat) (ld tr ex : List Nat) (x y : Bool) (w : World) (h3 : In w (.slice a la ca) ld) (h4 : In w (.slice b lb cb) tr) (h6 : In w (.slice c lc cc) ex)
    (e3 : ld.length = la) (e4 : tr.length = lb) (e6 : ex.length = lc) (hm : la ≤ 9223372036854775807) (hn64 : n < 18446744073709551616) (hu : u < 65536) (hex : ∀ z ∈ ex, z < 256) :
    Calls Try.prog 5 #[.int .u64 n, .int .i64 wd, .int .u16 u, .slice a la ca, .slice b lb cb, .bool x, .slice c lc cc, .bool y] w fun e w' => e = .returned (.bool true) ∧ Below w.heap.size w w' := by
  by_cases hl : 262144 < la ∨ 262144 < lb ∨ 262144 < lc
  · exact short_len n wd u a b c la lb lc ca cb cc x y w hm hl
  by_cases hw : wd < 1 ∨ 16 < wd
  · exact short_wd n wd u a b c la lb lc ca cb cc x y w (by omega) (by omega) (by omega) hw
  obtain ⟨wd, rfl⟩ := Int.eq_ofNat_of_zero_le (show 0 ≤ wd by omega)
  by_cases hn : n < 16 ^ wd
  · by_cases hb : blankB ld = false ∨ (blankB ld = true ∧ blankB tr = false) ∨ (blankB ld = true ∧ blankB tr = true ∧ lfB ex = true)
    · exact short_bytes n wd u _ _ _ ld tr ex x y w h3 h4 h6 (by omega) (by omega) (by omega) (by omega) (by omega) hn hn64 hb
    · have h1 : blankB ld = true := by cases h : blankB ld <;> simp_all
      have h2 : blankB tr = true := by cases h : blankB tr <;> simp_all
      have h5 : lfB ex = false := by cases h : lfB ex <;> simp_all
      exact law_main n wd u _ _ _ ld tr ex x y w h3 h4 h6 (by omega) (by omega) (by omega) (by omega) (by omega) hn hn64 hu h1 h2 h5 hex
  · have hw16 : wd < 16 := by
      rcases Nat.lt_or_ge wd 16 with h | h
      · exact h
      · obtain rfl : wd = 16 := by omega
        exact absurd (show n < 16 ^ 16 by omega) hn
    exact short_n n wd u a b c la lb lc ca cb cc x y w (by omega) (by omega) (by omega) hn64 (by omega) hw16 hn
end Go.Proofs.Qxb6617066a
