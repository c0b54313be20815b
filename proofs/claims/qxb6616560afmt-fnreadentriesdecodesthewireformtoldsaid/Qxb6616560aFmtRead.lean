import Derived.Test.Qxb6616560aFmtRec
namespace Go.Proofs.Qxb6616560aFmt
open Go.RowKit Go.Extern.Stop Go.Stop Go.Extern
set_option linter.unusedVariables false

/-- What readEntries hands back, by what the plain reading comes to. -/
def Out (B : Nat) (w : World) (e : Ending) (r : Option (List UInt8 × Nat)) : Prop :=
  (r = none ∧ ∃ p, e = .returned (.tuple #[.slice none 0 0, .iface 52 (.pointer (some p))])) ∨
  ∃ l nx v, r = some (l, nx) ∧ e = .returned (.tuple #[v, .nilIface]) ∧ Sl B w v l

theorem answers_below {F : Interp} {B : Nat} {w w' : World} (hF : F.answers w.tape) (hb : Below B w w') : F.answers w'.tape := by rw [hb.tape]; exact hF

theorem Rec.below {w w' : World} {B bP bC : Nat} {vP vC : Value} {ps cs : List Nat} (H : Rec w B bP bC vP vC ps cs) (hb : Below w.heap.size w w') : Rec w' B bP bC vP vC ps cs := by
  have hg : w.grownBy w' none := ⟨hb.os, hb.tape, hb.output, hb.size, fun k hk _ => hb.block k hk⟩
  refine ⟨Nat.le_trans H.hB hb.size, H.hP, H.hC, ?_, ?_, ?_, ?_⟩
  · rw [hb.block _ (lt_of_block H.cP), H.cP]
  · rw [hb.block _ (lt_of_block H.cC), H.cC]
  · exact H.oP.kept hg (by cases vP.ownBlock <;> simp)
  · exact H.oC.kept hg (by cases vC.ownBlock <;> simp)

set_option maxHeartbeats 2000000 in
theorem readEntries_any (F : Interp) (B bP bC : Nat) (v vP vC : Value) (l : List UInt8) (e : Int) (lim : Nat) (w : World) (hF : F.answers w.tape) (hv : Sl B w v l)
    (H : Rec w B bP bC vP vC [] []) (hlim : lim ≤ 9223372036854775807) (he : e ≤ 65536) :
    Calls Tryf.prog 15 #[v, .func (.func 12) #[] #[], .int .i64 e, .int .i64 lim, .func (.func 14) #[] #[.pointer (some ⟨bP, 0, none⟩), .pointer (some ⟨bC, 0, none⟩)]] w fun e' w' =>
      (∃ vP' vC', Rec w' B bP bC vP' vC' ((Pl.run lim e.toNat l 0).1.map (·.1)) ((Pl.run lim e.toNat l 0).1.map (·.2))) ∧ Below B w w' ∧ Out B w' e' (Pl.run lim e.toNat l 0).2 := by
  go_enter Tryf.func15, Tryf.ntmps15
  go_wp2_with fail
  go_loopw [0, 12, 19] (fun d nx i wr => ∃ (k n : Nat) (l' : List UInt8) (ps : List (Nat × Nat)) (vP' vC' : Value), i = .int .i64 k ∧ k ≤ e.toNat ∧ nx = .int .i64 n ∧ n ≤ lim ∧ Sl B wr d l' ∧
      Pl.run lim k l 0 = (ps, some (l', n)) ∧ Rec wr B bP bC vP' vC' (ps.map (·.1)) (ps.map (·.2)) ∧ Below B w wr) (fun _ _ i _ => e.toNat - (intOf i).toNat)
  case atStart => exact ⟨0, 0, l, [], vP, vC, rfl, Nat.zero_le _, rfl, Nat.zero_le _, hv, rfl, H, Below.refl _ _⟩
  case round =>
    obtain ⟨k, n, l', ps, vP', vC', rfl, hk, rfl, hn, hS, hrun, HR, hbR⟩ := hrel
    have HS := hide hS
    have Hrun := hide hrun
    have hFr := answers_below hF hbR
    have hlen : ps.length = k := (Pl.run_some lim k l 0 ps l' n (by omega) hrun).1
    have Hlen := hide hlen
    clear hS hrun hlen H hv
    by_cases hlt : k < e.toNat
    · have hlt' : (k : Int) < e := by omega
      cases hu : Pl.uv l' with
      | none =>
        have HU := hide hu
        clear hu
        have hstep : Pl.step l' lim n = none := by unfold Pl.step; rw [HU.out]
        have hfin := Pl.run_snoc_none (j := e.toNat) Hrun.out hstep hlt
        have Hfin := hide hfin
        clear hstep hfin
        go_wp2_with fail
        refine (gap_no F B u0 _ l' wr hFr HS.out HU.out).mono ?_
        rintro e1 w1 ⟨⟨p, rfl⟩, hb1⟩
        go_wp2
        go_ret2
        rw [Hfin.out]
        exact ⟨⟨_, _, HR.below hb1⟩, hbR.trans (hb1.mono HR.hB), .inl ⟨rfl, _, rfl⟩⟩
      | some t =>
        obtain ⟨g, n1⟩ := t
        obtain ⟨_, _, hn1, hn1l, hg64⟩ := Pl.uv_some hu
        have HU := hide hu
        clear hu
        go_wp2_with fail
        refine (gap_yes B u0 _ l' g n1 wr HS.out HU.out).mono ?_
        rintro e1 w1 ⟨⟨v1, rfl, hS1⟩, hb1⟩
        have HS1 := hide hS1
        clear hS1
        have hF1 := answers_below hFr hb1
        have HR1 := HR.below hb1
        have hbR1 := hbR.trans (hb1.mono HR.hB)
        by_cases hg : lim - n ≤ g
        · have hg' : (lim : Int) - n ≤ g := by omega
          have hstep : Pl.step l' lim n = none := by unfold Pl.step; rw [HU.out]; simp only; rw [if_pos hg]
          have hfin := Pl.run_snoc_none (j := e.toNat) Hrun.out hstep hlt
          have Hfin := hide hfin
          clear hstep hfin
          go_wp2_with fail
          refine (errorf_limit F _ n g lim _ (by exact hF1) (by simp [go_sem]) (by simp [go_sem]) (by simp [go_sem])).mono ?_
          rintro e2 w2 ⟨⟨p, rfl⟩, hb2⟩
          have hb2' : Below w1.heap.size w1 w2 := ((Below.refl _ _).alloc (Nat.le_refl _) _).trans (hb2.mono (by simp))
          go_wp2
          go_ret2
          rw [Hfin.out]
          exact ⟨⟨_, _, HR1.below hb2'⟩, hbR1.trans (hb2'.mono HR1.hB), .inl ⟨rfl, _, rfl⟩⟩
        · have hg' : (g : Int) < (lim : Int) - n := by omega
          cases hu2 : Pl.uv (l'.drop n1) with
          | none =>
            have HU2 := hide hu2
            clear hu2
            have hstep : Pl.step l' lim n = none := by unfold Pl.step; rw [HU.out]; simp only; rw [if_neg hg, HU2.out]
            have hfin := Pl.run_snoc_none (j := e.toNat) Hrun.out hstep hlt
            have Hfin := hide hfin
            clear hstep hfin
            go_wp2_with fail
            refine (readUvarint_no F B v1 _ _ w1 hF1 HS1.out HU2.out).mono ?_
            rintro e2 w2 ⟨⟨p, rfl⟩, hb2⟩
            go_wp2
            go_ret2
            rw [Hfin.out]
            exact ⟨⟨_, _, HR1.below hb2⟩, hbR1.trans (hb2.mono HR1.hB), .inl ⟨rfl, _, rfl⟩⟩
          | some t =>
            obtain ⟨c, n2⟩ := t
            obtain ⟨_, _, hn2, hn2l, hc64⟩ := Pl.uv_some hu2
            have HU2 := hide hu2
            clear hu2
            have hstep : Pl.step l' lim n = some (n + g, c, n1 + n2) := by unfold Pl.step; rw [HU.out]; simp only; rw [if_neg hg, HU2.out]
            have hnew := Pl.run_snoc_some Hrun.out hstep
            have Hnew := hide hnew
            clear hstep hnew
            go_wp2_with fail
            refine (readUvarint_yes B v1 _ _ c n2 w1 HS1.out HU2.out).mono ?_
            rintro e2 w2 ⟨⟨v2, rfl, hS2⟩, hb2⟩
            have HS2 := hide hS2
            clear hS2
            have HR2 := HR1.below hb2
            have hbR2 := hbR1.trans (hb2.mono HR1.hB)
            go_wp2_with fail
            rw [show (n : Int) + g = ((n + g : Nat) : Int) from by omega]
            refine (record_any B bP bC vP' vC' _ _ (n + g) c w2 HR2 (by have := Hlen.out; simp; omega) (by have := Hlen.out; simp; omega)).mono ?_
            rintro e3 w3 ⟨rfl, ⟨vP3, vC3, HR3⟩, hb3⟩
            go_wp2
            go_roundw
            case rel =>
              refine ⟨k + 1, n + g + 1, l'.drop (n1 + n2), ps ++ [(n + g, c)], vP3, vC3, by go_num, by omega, by go_num, by omega, ?_, Hnew.out, ?_, hbR2.trans hb3⟩
              · have e := HS2.out.below hb3
                rwa [List.drop_drop] at e
              · simpa using HR3
            case measure => simp [intOf]; omega
    · have hge : e ≤ (k : Int) := by omega
      have hke : e.toNat = k := by omega
      have HE := hide hke
      clear hke
      go_wp2
      go_ret2
      rw [HE.out, Hrun.out]
      exact ⟨⟨_, _, HR⟩, hbR, .inr ⟨_, _, _, rfl, rfl, HS.out⟩⟩
end Go.Proofs.Qxb6616560aFmt
