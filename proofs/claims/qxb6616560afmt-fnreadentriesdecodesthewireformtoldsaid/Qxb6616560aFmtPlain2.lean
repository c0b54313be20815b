/-
  The plain law of the cut: what the three readings have to do with one another. No Go in sight.
-/
import Derived.Test.Qxb6616560aFmtPlain
namespace Go.Proofs.Qxb6616560aFmt.Pl

theorem getD_map_fst (l : List (Nat × Nat)) (i : Nat) : (l.map (·.1)).getD i 0 = (l.getD i (0, 0)).1 := by
  rw [List.getD_eq_getElem?_getD, List.getD_eq_getElem?_getD, List.getElem?_map]
  cases l[i]? <;> rfl
theorem getD_map_snd (l : List (Nat × Nat)) (i : Nat) : (l.map (·.2)).getD i 0 = (l.getD i (0, 0)).2 := by
  rw [List.getD_eq_getElem?_getD, List.getD_eq_getElem?_getD, List.getElem?_map]
  cases l[i]? <;> rfl

structure CutFacts (x y z n1 : Nat) (l l1 : List UInt8) (a c b d : List Nat) : Prop where
  hP : (run z x l 0).1.map (·.1) = a ++ b.map (· + n1)
  hC : (run z x l 0).1.map (·.2) = c ++ d
  hP1 : (run z y l 0).1.map (·.1) = a
  hC1 : (run z y l 0).1.map (·.2) = c
  hP2 : (run (z - n1) (x - y) l1 0).1.map (·.1) = b
  hC2 : (run (z - n1) (x - y) l1 0).1.map (·.2) = d
  hR : (run z x l 0).2 = (run (z - n1) (x - y) l1 0).2.map fun t => (t.1, t.2 + n1)
  la : a.length = y
  lc : c.length = y
  ld : d.length = b.length
  hn : n1 ≤ z
  last : n1 = if y = 0 then 0 else a.getD (y - 1) 0 + 1
  hb : ∀ i, i < b.length → b.getD i 0 < z - n1
  ha : ∀ i, i < y → a.getD i 0 < z

theorem cut_facts (x y z : Nat) (l l1 : List UInt8) (n1 : Nat) (hy : y ≤ x) (h1 : (run z y l 0).2 = some (l1, n1)) : ∃ a c b d, CutFacts x y z n1 l l1 a c b d := by
  have hadd := run_add z y (x - y) l 0
  rw [show y + (x - y) = x by omega, h1] at hadd
  simp only at hadd
  have hsh := run_shift z n1 (x - y) l1 0
  rw [Nat.zero_add] at hsh
  rw [hsh] at hadd
  obtain ⟨s1, s2, _, _⟩ := run_some z y l 0 (run z y l 0).1 l1 n1 (Nat.zero_le _) (Prod.ext rfl h1)
  have hl := run_last z y l 0 (run z y l 0).1 l1 n1 (Prod.ext rfl h1)
  obtain ⟨p1, _⟩ := run_procs z y l 0 (Nat.zero_le _)
  obtain ⟨q1, _⟩ := run_procs (z - n1) (x - y) l1 0 (Nat.zero_le _)
  refine ⟨_, _, _, _, ⟨?_, ?_, rfl, rfl, rfl, rfl, ?_, ?_, ?_, ?_, s2, ?_, ?_, ?_⟩⟩
  · rw [hadd]; simp
  · rw [hadd]; simp
  · rw [hadd]
  · simp [s1]
  · simp [s1]
  · simp
  · rw [s1] at hl
    rw [getD_map_fst]
    exact hl
  · intro i hi
    rw [getD_map_fst]
    exact (q1 i (by simpa using hi)).2.1
  · intro i hi
    rw [getD_map_fst]
    exact (p1 i (by omega)).2.1

theorem full_facts (x z : Nat) (l l2 : List UInt8) (n2 : Nat) (h : (run z x l 0).2 = some (l2, n2)) :
    ((run z x l 0).1.map (·.1)).length = x ∧ ((run z x l 0).1.map (·.2)).length = x ∧ (∀ i, i < x → ((run z x l 0).1.map (·.1)).getD i 0 < z) ∧
    (∀ i, i + 1 < x → ((run z x l 0).1.map (·.1)).getD i 0 < ((run z x l 0).1.map (·.1)).getD (i + 1) 0) ∧ 2 * x + l2.length ≤ l.length := by
  obtain ⟨s1, s2, _, m, s3, s4, s5⟩ := run_some z x l 0 (run z x l 0).1 l2 n2 (Nat.zero_le _) (Prod.ext rfl h)
  obtain ⟨p1, p2⟩ := run_procs z x l 0 (Nat.zero_le _)
  refine ⟨by simpa using s1, by simpa using s1, fun i hi => ?_, fun i hi => ?_, ?_⟩
  · rw [getD_map_fst]; exact (p1 i (by omega)).2.1
  · rw [getD_map_fst, getD_map_fst]; exact p2 i (by omega)
  · rw [s3, List.length_drop]; omega

end Go.Proofs.Qxb6616560aFmt.Pl
