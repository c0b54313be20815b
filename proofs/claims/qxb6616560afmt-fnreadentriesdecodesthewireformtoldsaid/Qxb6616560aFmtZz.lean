import Derived.Test.Qxb6616560aFmtRead
namespace Go.Proofs.Qxb6616560aFmt
open Go.RowKit Go.Extern.Stop Go.Stop Go.Extern
set_option linter.unusedVariables false

/-- A slice of numbers in memory. -/
def Row (k : IntKind) (w : World) (v : Value) (xs : List Nat) : Prop :=
  ∃ ao c, v = .slice ao xs.length c ∧ xs.length ≤ c ∧ c ≤ 9223372036854775807 ∧ (xs = [] ∨ ∃ g, ao = some ⟨g, 0, none⟩ ∧ g < w.heap.size ∧ ∀ j (hj : j < xs.length), w.cell? ⟨g, j, none⟩ = some (.int k (xs[j] : Nat)))

theorem Row.below {k : IntKind} {w w' : World} {v : Value} {l : List Nat} (h : Row k w v l) (hb : Below w.heap.size w w') : Row k w' v l := by
  obtain ⟨ao, c, rfl, h1, h2, h3⟩ := h
  refine ⟨ao, c, rfl, h1, h2, ?_⟩
  rcases h3 with h3 | ⟨g, rfl, hg, hc⟩
  · exact .inl h3
  · exact .inr ⟨g, rfl, Nat.lt_of_lt_of_le hg hb.size, fun j hj => by rw [hb.cell (p := ⟨g, j, none⟩) hg, hc j hj]⟩

theorem row_of_own {w : World} {B : Nat} {e : TypeId} {k : IntKind} {v : Value} {xs : List Nat} (h : w.ownsRow B e 1 v xs.length (xs.map fun (t : Nat) => Value.int k t)) : Row k w v xs := by
  have h' := h
  rcases h.2 with ⟨rfl, h0⟩ | ⟨g, cap, cur, rfl, _, hg, hc, hm, _⟩
  · refine ⟨none, 0, by rw [h0], by omega, by omega, .inl (List.eq_nil_of_length_eq_zero h0)⟩
  · refine ⟨_, cap, rfl, hc, by simpa [maxLen] using hm, .inr ⟨g, rfl, lt_of_block hg, fun j hj => ?_⟩⟩
    rw [h'.cellAt j (by omega)]
    simp [hj]

set_option maxHeartbeats 800000 in
theorem zz_any (F : Interp) (v : Value) (l : List UInt8) (e : Int) (lim : Nat) (w : World) (hF : F.answers w.tape) (hv : Sl w.heap.size w v l) (hlim : lim ≤ 9223372036854775807) (he : e ≤ 65536) :
    Calls Tryf.prog 6 #[v, .int .i64 e, .int .i64 lim] w fun e' w' => ∃ vP vC vR vE, e' = .returned (.tuple #[vP, vC, vR, vE]) ∧
      Row .i64 w' vP ((Pl.run lim e.toNat l 0).1.map (·.1)) ∧ Row .u64 w' vC ((Pl.run lim e.toNat l 0).1.map (·.2)) ∧ Below w.heap.size w w' ∧
      (((Pl.run lim e.toNat l 0).2 = none ∧ vR = .slice none 0 0 ∧ ∃ p, vE = .iface 52 (.pointer (some p))) ∨
        ∃ l' nx, (Pl.run lim e.toNat l 0).2 = some (l', nx) ∧ vE = .nilIface ∧ Sl w.heap.size w' vR l') := by
  have hb0 : Below w.heap.size w ((w.alloc (.cells #[.slice none 0 0] 24)).alloc (.cells #[.slice none 0 0] 25)) := ((Below.refl _ _).alloc (Nat.le_refl _) _).alloc (by simp) _
  have H : Rec ((w.alloc (.cells #[.slice none 0 0] 24)).alloc (.cells #[.slice none 0 0] 25)) w.heap.size w.heap.size (w.heap.size + 1) (.slice none 0 0) (.slice none 0 0) [] [] := by
    refine ⟨by simp; omega, Nat.le_refl _, by omega, heap_alloc2_old _ _ _, ?_, World.ownsRow_nil _ _ _ _, World.ownsRow_nil _ _ _ _⟩
    have := heap_alloc_new (w.alloc (.cells #[.slice none 0 0] 24)) (.cells #[.slice none 0 0] 25)
    simpa using this
  have hv0 := hv.below hb0
  have hF0 := answers_below hF hb0
  have HC := hide (readEntries_any F w.heap.size w.heap.size (w.heap.size + 1) v _ _ l e lim _ hF0 hv0 H hlim he)
  have Hb0 := hide hb0
  clear hb0 H hv0 hF0 hv
  generalize Pl.run lim e.toNat l 0 = r at *
  go_enter Tryf.func6, Tryf.ntmps6
  go_wp2_with fail
  refine HC.out.mono ?_
  rintro e1 w1 ⟨⟨vP, vC, HR⟩, hb1, hout⟩
  have cp := cell_of_one HR.cP
  have cc := cell_of_one HR.cC
  have HR' := hide HR
  clear HC HR
  rcases hout with ⟨hr, p, rfl⟩ | ⟨l', nx, vR, hr, rfl, hS⟩
  · have Hr := hide hr
    clear hr
    go_wp2
    go_quiet (fail)
    go_wp2
    have hbq := below_drewN (Below.refl w1.heap.size w1) nq
    refine bodyPost_ret (v := .tuple #[vP, vC, .slice none 0 0, .iface 52 (.pointer (some p))]) (by simp [results, Tryf.results6, go_sem]) rfl ?_
    exact ⟨_, _, _, _, rfl, (row_of_own HR'.out.oP).below hbq, (row_of_own HR'.out.oC).below hbq, (Hb0.out.trans hb1).trans (hbq.mono HR'.out.hB), .inl ⟨Hr.out, rfl, _, rfl⟩⟩
  · have Hr := hide hr
    have HS := hide hS
    clear hr hS
    go_wp2
    go_quiet (fail)
    go_wp2
    have hbq := below_drewN (Below.refl w1.heap.size w1) nq
    refine bodyPost_ret (v := .tuple #[vP, vC, vR, .nilIface]) (by simp [results, Tryf.results6, go_sem]) rfl ?_
    exact ⟨_, _, _, _, rfl, (row_of_own HR'.out.oP).below hbq, (row_of_own HR'.out.oC).below hbq, (Hb0.out.trans hb1).trans (hbq.mono HR'.out.hB), .inr ⟨_, _, Hr.out, rfl, HS.out.below (hbq.mono HR'.out.hB)⟩⟩

end Go.Proofs.Qxb6616560aFmt
