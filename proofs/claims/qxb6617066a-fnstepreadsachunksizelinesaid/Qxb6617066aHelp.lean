/-
  allBlank, hasByte, hexDigit, ZZMakeDelimiter, the bound on the lengths.
-/
import Derived.Test.Qxb6617066aAll
namespace Go.Proofs.Qxb6617066a
open Go.RowKit
set_option linter.unusedVariables false

/-- A slice of bytes that came in. -/
def In (w : World) (v : Value) (bs : List Nat) : Prop :=
  (v = .slice none 0 0 ∧ bs = []) ∨ ∃ x c, v = .slice (some x) bs.length c ∧ ∀ j (hj : j < bs.length), w.cell? (x.add j) = some (.int .u8 (bs[j] : Nat))

def blankB (bs : List Nat) : Bool := bs.all fun c => c == 32 || c == 9

theorem blank_no {bs : List Nat} {k : Nat} (hk : k < bs.length) (h : ¬ (bs[k] = 32 ∨ bs[k] = 9)) : blankB bs = false := by
  unfold blankB
  rw [List.all_eq_false]
  exact ⟨bs[k], List.getElem_mem hk, by simpa using h⟩

theorem blank_yes {bs : List Nat} (h : ∀ j (hj : j < bs.length), bs[j] = 32 ∨ bs[j] = 9) : blankB bs = true := by
  unfold blankB
  rw [List.all_eq_true]
  intro c hc
  obtain ⟨j, hj, rfl⟩ := List.getElem_of_mem hc
  simpa using h j hj

set_option maxHeartbeats 800000 in
theorem allBlank_any (v : Value) (bs : List Nat) (w : World) (h : In w v bs) (hlen : bs.length ≤ 1048576) :
    Calls Try.prog 12 #[v] w fun e w' => e = .returned (.bool (blankB bs)) ∧ w' = w := by
  rcases h with ⟨rfl, rfl⟩ | ⟨x, c, rfl, hcell⟩
  · go_enter Try.func12, Try.ntmps12
    go_wp2_with fail
    refine wp_loop_rounds 1 ?_
    rw [rounds_succ]
    go_wp2
    go_ret
    exact ⟨rfl, rfl⟩
  · have HC := hide hcell
    clear hcell
    go_enter Try.func12, Try.ntmps12
    go_wp2_with fail
    go_loop [3] (fun i => ∃ k : Nat, i = .int .i64 k ∧ k ≤ bs.length ∧ ∀ j (hj : j < bs.length), j < k → bs[j] = 32 ∨ bs[j] = 9) (fun i => bs.length - (intOf i).toNat)
    case atStart => exact ⟨0, rfl, Nat.zero_le _, fun j _ h => absurd h (by omega)⟩
    case round =>
      obtain ⟨k, rfl, hk, hall⟩ := hrel
      have HA := hide hall
      clear hall
      by_cases hlt : k < bs.length
      · have hc := HC.out k hlt
        obtain ⟨z, hz⟩ : ∃ z, bs[k] = z := ⟨_, rfl⟩
        rw [hz] at hc
        have HZ := hide hz
        clear hz
        by_cases h1 : z = 32
        · subst h1
          go_wp2
          go_round
          case rel => exact ⟨k + 1, by go_num, by omega, fun j hj h => (Nat.lt_or_ge j k).elim (HA.out j hj) (fun h' => by obtain rfl : j = k := (by omega); exact .inl HZ.out)⟩
          case measure => simp [intOf]; omega
        · have e1 : ((z : Int) != 32) = true := by simp; omega
          by_cases h2 : z = 9
          · subst h2
            clear h1
            go_wp2
            go_round
            case rel => exact ⟨k + 1, by go_num, by omega, fun j hj h => (Nat.lt_or_ge j k).elim (HA.out j hj) (fun h' => by obtain rfl : j = k := (by omega); exact .inr HZ.out)⟩
            case measure => simp [intOf]; omega
          · have e2 : ((z : Int) != 9) = true := by simp; omega
            have hb : blankB bs = false := blank_no hlt (by rw [HZ.out]; omega)
            have HB := hide hb
            clear hb h1 h2
            go_wp2
            go_ret
            exact ⟨by rw [HB.out]; rfl, rfl⟩
      · have hb : blankB bs = true := blank_yes fun j hj => HA.out j hj (by omega)
        have HB := hide hb
        clear hb
        go_wp2
        go_ret
        exact ⟨by rw [HB.out]; rfl, rfl⟩

def lfB (bs : List Nat) : Bool := bs.any fun c => c == 10

theorem lf_yes {bs : List Nat} {k : Nat} (hk : k < bs.length) (h : bs[k] = 10) : lfB bs = true := by
  unfold lfB
  rw [List.any_eq_true]
  exact ⟨bs[k], List.getElem_mem hk, by simpa using h⟩

theorem lf_no {bs : List Nat} (h : ∀ j (hj : j < bs.length), bs[j] ≠ 10) : lfB bs = false := by
  unfold lfB
  rw [List.any_eq_false]
  intro c hc
  obtain ⟨j, hj, rfl⟩ := List.getElem_of_mem hc
  simpa using h j hj

set_option maxHeartbeats 800000 in
theorem hasByte_any (v : Value) (bs : List Nat) (w : World) (h : In w v bs) (hlen : bs.length ≤ 1048576) :
    Calls Try.prog 13 #[v, .int .u8 10] w fun e w' => e = .returned (.bool (lfB bs)) ∧ w' = w := by
  rcases h with ⟨rfl, rfl⟩ | ⟨x, c, rfl, hcell⟩
  · go_enter Try.func13, Try.ntmps13
    go_wp2_with fail
    refine wp_loop_rounds 1 ?_
    rw [rounds_succ]
    go_wp2
    go_ret
    exact ⟨rfl, rfl⟩
  · have HC := hide hcell
    clear hcell
    go_enter Try.func13, Try.ntmps13
    go_wp2_with fail
    go_loop [5] (fun i => ∃ k : Nat, i = .int .i64 k ∧ k ≤ bs.length ∧ ∀ j (hj : j < bs.length), j < k → bs[j] ≠ 10) (fun i => bs.length - (intOf i).toNat)
    case atStart => exact ⟨0, rfl, Nat.zero_le _, fun j _ h => absurd h (by omega)⟩
    case round =>
      obtain ⟨k, rfl, hk, hall⟩ := hrel
      have HA := hide hall
      clear hall
      by_cases hlt : k < bs.length
      · have hc := HC.out k hlt
        obtain ⟨z, hz⟩ : ∃ z, bs[k] = z := ⟨_, rfl⟩
        rw [hz] at hc
        have HZ := hide hz
        clear hz
        by_cases h1 : z = 10
        · subst h1
          have hb : lfB bs = true := lf_yes hlt HZ.out
          have HB := hide hb
          clear hb
          go_wp2
          go_ret
          exact ⟨by rw [HB.out]; rfl, rfl⟩
        · have e1 : ((z : Int) == 10) = false := by simp; omega
          have HN := hide h1
          clear h1
          go_wp2
          go_round
          case rel => exact ⟨k + 1, by go_num, by omega, fun j hj h => (Nat.lt_or_ge j k).elim (HA.out j hj) (fun h' => by obtain rfl : j = k := (by omega); rw [HZ.out]; exact HN.out)⟩
          case measure => simp [intOf]; omega
      · have hb : lfB bs = false := lf_no fun j hj => HA.out j hj (by omega)
        have HB := hide hb
        clear hb
        go_wp2
        go_ret
        exact ⟨by rw [HB.out]; rfl, rfl⟩

/-- The byte of a hex digit. -/
def hexd (v : Nat) (up : Bool) : Nat := if v < 10 then 48 + v else if up then 65 + v - 10 else 97 + v - 10

theorem ret_int {k : IntKind} {a b : Int} (h : a = b) : Ending.returned (.int k a) = .returned (.int k b) := by rw [h]

set_option maxHeartbeats 800000 in
theorem hexDigit_any (v : Nat) (up : Bool) (hv : v < 16) (w : World) :
    Calls Try.prog 14 #[.int .u8 v, .bool up] w fun e w' => e = .returned (.int .u8 (hexd v up)) ∧ w' = w := by
  by_cases h : v < 10
  · have eh : hexd v up = 48 + v := if_pos h
    have HE := hide eh
    clear eh
    go_enter Try.func14, Try.ntmps14
    go_wp2
    go_ret
    exact ⟨ret_int (by rw [HE.out]; omega), rfl⟩
  · cases up
    · have eh : hexd v false = 97 + v - 10 := by unfold hexd; rw [if_neg h]; rfl
      have HE := hide eh
      clear eh
      go_enter Try.func14, Try.ntmps14
      go_wp2
      go_ret
      exact ⟨ret_int (by rw [HE.out]; omega), rfl⟩
    · have eh : hexd v true = 65 + v - 10 := by unfold hexd; rw [if_neg h]; rfl
      have HE := hide eh
      clear eh
      go_enter Try.func14, Try.ntmps14
      go_wp2
      go_ret
      exact ⟨ret_int (by rw [HE.out]; omega), rfl⟩

theorem hexv_hexd : ∀ v : Fin 16, ∀ up : Bool, hexv (hexd v.val up) = some v.val := by decide

set_option maxHeartbeats 800000 in
theorem makeDelim (w : World) :
    Calls Try.prog 15 #[.bool true, .int .i64 0, .bool false, .int .i64 0, .int .u8 0, .int .i64 0, .int .i64 0] w fun e w' =>
      e = .returned (.pointer (some ⟨w.heap.size, 0, none⟩)) ∧ Dl w' w.heap.size 0 0 0 0 ∧ Below w.heap.size w w' := by
  go_enter Try.func15, Try.ntmps15
  go_wp2
  go_ret
  exact ⟨rfl, heap_alloc_new _ _, (Below.refl _ _).alloc (Nat.le_refl _) _⟩

set_option maxRecDepth 100000 in
set_option maxHeartbeats 800000 in
theorem bytes_yes (n wd u : Int) (a b c : Option Addr) (la lb lc ca cb cc : Nat) (x y : Bool) (w : World) (h : la + lb + lc ≤ 1048576) :
    Calls Try.prog 11 #[.int .u64 n, .int .i64 wd, .int .u16 u, .slice a la ca, .slice b lb cb, .bool x, .slice c lc cc, .bool y] w fun e w' => e = .returned (.bool true) ∧ w' = w := by
  go_enter Try.func11, Try.ntmps11
  go_wp2
  go_ret
  exact ⟨rfl, rfl⟩

set_option maxRecDepth 100000 in
set_option maxHeartbeats 800000 in
theorem bytes_no (n wd u : Int) (a b c : Option Addr) (la lb lc ca cb cc : Nat) (x y : Bool) (w : World) (h : 1048576 < la + lb + lc) (hm : la ≤ 9223372036854775807) :
    Calls Try.prog 11 #[.int .u64 n, .int .i64 wd, .int .u16 u, .slice a la ca, .slice b lb cb, .bool x, .slice c lc cc, .bool y] w fun e w' => e = .returned (.bool false) ∧ w' = w := by
  by_cases h1 : 1048576 < la
  · go_enter Try.func11, Try.ntmps11
    go_wp2
    go_ret
    exact ⟨rfl, rfl⟩
  by_cases h2 : 1048576 < lb
  · go_enter Try.func11, Try.ntmps11
    go_wp2
    go_ret
    exact ⟨rfl, rfl⟩
  by_cases h3 : 1048576 < la + lb
  · go_enter Try.func11, Try.ntmps11
    go_wp2
    go_ret
    exact ⟨rfl, rfl⟩
  by_cases h4 : 1048576 < lc
  · go_enter Try.func11, Try.ntmps11
    go_wp2
    go_ret
    exact ⟨rfl, rfl⟩
  go_enter Try.func11, Try.ntmps11
  go_wp2
  go_ret
  exact ⟨rfl, rfl⟩
end Go.Proofs.Qxb6617066a
