import Derived.Test.Qxb6616560aFmtZz
namespace Go.Proofs.Qxb6616560aFmt
open Go.RowKit Go.Extern.Stop Go.Stop Go.Extern
set_option linter.unusedVariables false

set_option maxHeartbeats 800000 in
theorem intsEq_same (a b : Value) (xs : List Nat) (w : World) (ha : Row .i64 w a xs) (hb : Row .i64 w b xs) :
    Calls Tryf.prog 8 #[a, b] w fun e w' => e = .returned (.bool true) ∧ ∃ n, w' = w.drewN n := by
  obtain ⟨ao, c, rfl, hc, hc', h⟩ := ha
  obtain ⟨ao2, c2, rfl, hc2, hc2', h2⟩ := hb
  have hcells : xs ≠ [] → ∃ g g2, ao = some ⟨g, 0, none⟩ ∧ ao2 = some ⟨g2, 0, none⟩ ∧ ∀ j (hj : j < xs.length), w.cell? ⟨g, j, none⟩ = some (.int .i64 (xs[j] : Nat)) ∧ w.cell? ⟨g2, j, none⟩ = some (.int .i64 (xs[j] : Nat)) := by
    intro hne
    rcases h with h | ⟨g, rfl, _, hg⟩
    · exact absurd h hne
    rcases h2 with h2 | ⟨g2, rfl, _, hg2⟩
    · exact absurd h2 hne
    exact ⟨g, g2, rfl, rfl, fun j hj => ⟨hg j hj, hg2 j hj⟩⟩
  have HC := hide hcells
  clear h h2 hcells
  obtain ⟨n, hn⟩ : ∃ n, xs.length = n := ⟨_, rfl⟩
  have HN := hide hn
  rw [hn] at hc hc2
  rw [hn]
  clear hn
  have hnn : ((n : Int) != n) = false := by simp
  go_enter Tryf.func8, Tryf.ntmps8
  go_wp2_with fail
  go_loopw [5] (fun i wr => ∃ k : Nat, i = .int .i64 k ∧ k ≤ n ∧ ∃ m, wr = w.drewN m) (fun i _ => n - (intOf i).toNat)
  case atStart => exact ⟨0, rfl, Nat.zero_le _, 0, rfl⟩
  case round =>
    obtain ⟨k, rfl, hk, m, rfl⟩ := hrel
    by_cases hlt : k < n
    · obtain ⟨g, g2, rfl, rfl, hcell⟩ := HC.out (by rintro rfl; have := HN.out; simp at this; omega)
      obtain ⟨c1, c2⟩ := hcell k (by rw [HN.out]; exact hlt)
      generalize xs[k]'(by rw [HN.out]; exact hlt) = z at c1 c2
      clear hcell HC
      have hzz : ((z : Int) != z) = false := by simp
      go_wp2
      go_quiet (fail)
      go_wp2
      go_roundw
      case rel => exact ⟨k + 1, by go_num, by omega, _, rfl⟩
      case measure => simp [intOf]; omega
    · go_wp2
      go_ret
      exact ⟨rfl, _, rfl⟩
set_option maxHeartbeats 800000 in
theorem u64sEq_same (a b : Value) (xs : List Nat) (w : World) (ha : Row .u64 w a xs) (hb : Row .u64 w b xs) :
    Calls Tryf.prog 9 #[a, b] w fun e w' => e = .returned (.bool true) ∧ ∃ n, w' = w.drewN n := by
  obtain ⟨ao, c, rfl, hc, hc', h⟩ := ha
  obtain ⟨ao2, c2, rfl, hc2, hc2', h2⟩ := hb
  have hcells : xs ≠ [] → ∃ g g2, ao = some ⟨g, 0, none⟩ ∧ ao2 = some ⟨g2, 0, none⟩ ∧ ∀ j (hj : j < xs.length), w.cell? ⟨g, j, none⟩ = some (.int .u64 (xs[j] : Nat)) ∧ w.cell? ⟨g2, j, none⟩ = some (.int .u64 (xs[j] : Nat)) := by
    intro hne
    rcases h with h | ⟨g, rfl, _, hg⟩
    · exact absurd h hne
    rcases h2 with h2 | ⟨g2, rfl, _, hg2⟩
    · exact absurd h2 hne
    exact ⟨g, g2, rfl, rfl, fun j hj => ⟨hg j hj, hg2 j hj⟩⟩
  have HC := hide hcells
  clear h h2 hcells
  obtain ⟨n, hn⟩ : ∃ n, xs.length = n := ⟨_, rfl⟩
  have HN := hide hn
  rw [hn] at hc hc2
  rw [hn]
  clear hn
  have hnn : ((n : Int) != n) = false := by simp
  go_enter Tryf.func9, Tryf.ntmps9
  go_wp2_with fail
  go_loopw [5] (fun i wr => ∃ k : Nat, i = .int .i64 k ∧ k ≤ n ∧ ∃ m, wr = w.drewN m) (fun i _ => n - (intOf i).toNat)
  case atStart => exact ⟨0, rfl, Nat.zero_le _, 0, rfl⟩
  case round =>
    obtain ⟨k, rfl, hk, m, rfl⟩ := hrel
    by_cases hlt : k < n
    · obtain ⟨g, g2, rfl, rfl, hcell⟩ := HC.out (by rintro rfl; have := HN.out; simp at this; omega)
      obtain ⟨c1, c2⟩ := hcell k (by rw [HN.out]; exact hlt)
      generalize xs[k]'(by rw [HN.out]; exact hlt) = z at c1 c2
      clear hcell HC
      have hzz : ((z : Int) != z) = false := by simp
      go_wp2
      go_quiet (fail)
      go_wp2
      go_roundw
      case rel => exact ⟨k + 1, by go_num, by omega, _, rfl⟩
      case measure => simp [intOf]; omega
    · go_wp2
      go_ret
      exact ⟨rfl, _, rfl⟩
set_option maxHeartbeats 800000 in
theorem bytesEq_same (B B2 : Nat) (a b : Value) (xs : List UInt8) (w : World) (ha : Sl B w a xs) (hb : Sl B2 w b xs) :
    Calls Tryf.prog 10 #[a, b] w fun e w' => e = .returned (.bool true) ∧ ∃ n, w' = w.drewN n := by
  obtain ⟨ao, c, rfl, hc, hc', h⟩ := ha
  obtain ⟨ao2, c2, rfl, hc2, hc2', h2⟩ := hb
  have hcells : xs ≠ [] → ∃ g o g2 o2, ao = some ⟨g, o, none⟩ ∧ ao2 = some ⟨g2, o2, none⟩ ∧ ∀ j (hj : j < xs.length), w.cell? ⟨g, o + j, none⟩ = some (.int .u8 (xs[j]).toNat) ∧ w.cell? ⟨g2, o2 + j, none⟩ = some (.int .u8 (xs[j]).toNat) := by
    intro hne
    rcases h with h | ⟨g, o, rfl, _, hg⟩
    · exact absurd h hne
    rcases h2 with h2 | ⟨g2, o2, rfl, _, hg2⟩
    · exact absurd h2 hne
    exact ⟨g, o, g2, o2, rfl, rfl, fun j hj => ⟨hg j hj, hg2 j hj⟩⟩
  have HC := hide hcells
  clear h h2 hcells
  obtain ⟨n, hn⟩ : ∃ n, xs.length = n := ⟨_, rfl⟩
  have HN := hide hn
  rw [hn] at hc hc2
  rw [hn]
  clear hn
  have hnn : ((n : Int) != n) = false := by simp
  go_enter Tryf.func10, Tryf.ntmps10
  go_wp2_with fail
  go_loopw [5] (fun i wr => ∃ k : Nat, i = .int .i64 k ∧ k ≤ n ∧ ∃ m, wr = w.drewN m) (fun i _ => n - (intOf i).toNat)
  case atStart => exact ⟨0, rfl, Nat.zero_le _, 0, rfl⟩
  case round =>
    obtain ⟨k, rfl, hk, m, rfl⟩ := hrel
    by_cases hlt : k < n
    · obtain ⟨g, o, g2, o2, rfl, rfl, hcell⟩ := HC.out (by rintro rfl; have := HN.out; simp at this; omega)
      obtain ⟨c1, c2⟩ := hcell k (by rw [HN.out]; exact hlt)
      generalize (xs[k]'(by rw [HN.out]; exact hlt)).toNat = z at c1 c2
      clear hcell HC
      have hzz : ((z : Int) != z) = false := by simp
      go_wp2
      go_quiet (fail)
      go_wp2
      go_roundw
      case rel => exact ⟨k + 1, by go_num, by omega, _, rfl⟩
      case measure => simp [intOf]; omega
    · go_wp2
      go_ret
      exact ⟨rfl, _, rfl⟩
end Go.Proofs.Qxb6616560aFmt
