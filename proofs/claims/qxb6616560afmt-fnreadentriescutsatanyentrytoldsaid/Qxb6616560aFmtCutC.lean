import Derived.Test.Qxb6616560aFmtHead
namespace Go.Proofs.Qxb6616560aFmt
open Go.RowKit Go.Extern.Stop Go.Stop Go.Extern
set_option linter.unusedVariables false

set_option maxRecDepth 100000 in
set_option maxHeartbeats 2000000 in
theorem cut_C (F : Interp) (v : Value) (l : List UInt8) (x y z : Nat) (w : World) (hF : F.answers w.tape) (hv : In w v l) (hl : l.length ≤ 1048576) (hx : x ≤ 65536) (hy : y ≤ x) (hz : z ≤ 9223372036854775807) (hcase2 : (Pl.run z x l 0).2 ≠ none) :
    Calls Tryf.prog 4 #[v, .int .i64 x, .int .i64 y, .int .i64 z] w fun e w' => e = .returned (.bool true) ∧ Below w.heap.size w w' := by
  obtain ⟨ao, c, hvv⟩ : ∃ ao c, v = .slice ao l.length c := by
    rcases hv with ⟨rfl, rfl⟩ | ⟨x, c, rfl, _⟩
    · exact ⟨none, 0, rfl⟩
    · exact ⟨_, _, rfl⟩
  subst hvv
  have hgd : (decide ((y : Int) < 0)) = false := by simp
  have hgd2 : (decide ((x : Int) < y)) = false := by simp; omega
  have HV := hide hv
  clear hv
  have Hhcase2 := hide hcase2
  clear hcase2
  go_enter Tryf.func4, Tryf.ntmps4
  go_upto_if 47 with (go_at_call 11; refine (bytes11_yes _ _ _ _ _ _ _ hl).mono ?_; rintro e w' ⟨rfl, rfl⟩)
  go_cut [0] (fun v wr => Sl wr.heap.size wr v l ∧ Below w'.heap.size w' wr)
  case first =>
    rcases HV.out with ⟨hnil, hl0⟩ | ⟨ad, c', hsome, hcell⟩
    · obtain ⟨rfl, _, rfl⟩ : ao = none ∧ l.length = 0 ∧ c = 0 := by simpa using hnil
      go_wp2_with fail
      go_meet
      exact ⟨⟨none, 0, by rw [hl0], by rw [hl0]; simp, by omega, .inl hl0⟩, Below.refl _ _⟩
    · obtain ⟨rfl, rfl⟩ : ao = some ad ∧ c = c' := by simpa using hsome
      have HCell := hide hcell
      clear hcell hsome HV
      obtain ⟨i0, hi, hz0, hz1, hz2⟩ := info_parts info5
      go_wp2_with (at_make; refine wpList_make_full _ rfl _ _ 22 rfl w'.heap.size 5 i0 (.int .u8 0) 1 Tryf.underlying22 hi hz0 hz1 _ _ _ _ l.length rfl rfl rfl rfl ?m1 ?m2 ?m3 ?_)
      case m1 => rw [hz2]; omega
      case m2 => unfold maxLen; omega
      case m3 => exact Nat.le_refl _
      intro w1 hown1 hg1
      obtain ⟨L, hL, hLn⟩ := own_block hown1
      have HL := hide hL
      have hb1 : Below w'.heap.size w' w1 := (Below.refl _ _).grown hg1 (Nat.le_refl _) (fun _ h => by cases h)
      obtain ⟨cs, hcs⟩ : ∃ cs : List Value, cs = l.map (fun (b : UInt8) => Value.int .u8 b.toNat) := ⟨_, rfl⟩
      have Hcs := hide hcs
      have hcl : cs.length = l.length := by rw [hcs]; simp
      have Hcl := hide hcl
      clear hown1 hL hcs hcl
      have hsrc : ∀ j u, cs[j]? = some u → w1.cell? (ad.add j) = some u := by
        intro j u hj
        rw [Hcs.out] at hj
        have hjl : j < l.length := by
          have := (List.getElem?_eq_some_iff.1 hj).1
          simpa using this
        have e : u = .int .u8 (l[j]).toNat := by simpa [hjl] using hj.symm
        rw [e]
        exact hg1.cell (HCell.out j hjl) (by simp)
      have hone : ∀ u ∈ cs, u.oneCell' = true := by intro u hu; rw [Hcs.out] at hu; simp at hu; obtain ⟨_, _, rfl⟩ := hu; rfl
      obtain ⟨w2, hrun, hw2, hb2⟩ : ∃ w2, (Builtin.copy_ #[22, 22] 3 #[.slice (some ⟨w'.heap.size, 0, none⟩) l.length l.length, .slice (some ad) l.length c]).run Tryf.prog w1 = .ok (goInt cs.length) w2 ∧
          Hid (w2.heap[w'.heap.size]? = some (.cells (splice L 0 cs).toArray 5 (0, 0))) ∧ Below w'.heap.size w' w2 :=
        ⟨_, run_copy_row (P := Tryf.prog) w1 22 22 3 5 w'.heap.size 0 l.length l.length ad l.length c L.toArray 5 cs Tryf.underlying22 (by kernel_rfl) HL.out (by rw [Hcl.out]; simp) hsrc (by have := Hcl.out; simp; omega) hone,
          show _ = _ from setRow_heap w1 _ _ _ 5 _ HL.out, below_setRow hb1 (Nat.le_refl _) _⟩
      clear hsrc hone
      go_wp2_with fail
      go_meet
      refine ⟨⟨_, l.length, rfl, Nat.le_refl _, hl, .inr ⟨w'.heap.size, 0, rfl, lt_of_block hw2.out, fun j hj => ?_⟩⟩, hb2⟩
      have e : splice L 0 cs = cs := by
        have h1 := Hcl.out
        simp [splice, List.drop_eq_nil_of_le (show L.length ≤ cs.length by omega)]
      have h2 := hw2.out
      rw [e] at h2
      simp only [World.cell?, h2, Hcs.out]
      simp [hj]
  case rest =>
    obtain ⟨hS, hbc⟩ := hcut
    have HS := hide hS
    have hFc := answers_below hF hbc
    clear hS HV
    go_wp2_with fail
    refine (zz_any F u0 l x z wc hFc HS.out hz (by omega)).mono ?_
    rintro e1 w1 ⟨vP, vC, vR, vE, rfl, hP, hC, hb1, hout⟩
    rw [Int.toNat_natCast] at hP hC hout
    have HP := hide hP
    have HC := hide hC
    have Hout := hide hout
    have hF1 := answers_below hFc hb1
    have HS1 := hide ((HS.out.below hb1).mono hb1.size)
    have hbc1 := hbc.trans (hb1.mono hbc.size)
    clear hP hC hout HS
    go_wp2_with fail
    refine (zz_any F u0 l y z w1 hF1 HS1.out hz (by omega)).mono ?_
    rintro e2 w2 ⟨vP1, vC1, vR1, vE1, rfl, hP1, hC1, hb2, hout1⟩
    rw [Int.toNat_natCast] at hP1 hC1 hout1
    have HP1 := hide hP1
    have HC1 := hide hC1
    have hF2 := answers_below hF1 hb2
    have HP' := hide (HP.out.below hb2)
    have HC' := hide (HC.out.below hb2)
    have hbc2 := hbc1.trans (hb2.mono hbc1.size)
    clear hP1 hC1 HP HC
    rcases hout1 with ⟨hr1, rfl, p1, rfl⟩ | ⟨l1, n1, hr1, rfl, hSR1⟩
    · have hrun := Pl.run_add z y (x - y) l 0
      rw [show y + (x - y) = x by omega, hr1] at hrun
      have hcase2 := Hhcase2.out
      rw [hrun] at hcase2
      exact absurd rfl hcase2
    · obtain ⟨a, c1, b, d, CF⟩ := Pl.cut_facts x y z l l1 n1 hy hr1
      have hPP := HP'.out
      have hCC := HC'.out
      have hPP1 := HP1.out
      have hCC1 := HC1.out
      rw [CF.hP] at hPP
      rw [CF.hC] at hCC
      rw [CF.hP1] at hPP1
      rw [CF.hC1] at hCC1
      obtain ⟨m, hm⟩ : ∃ m, b.length = m := ⟨_, rfl⟩
      have hmx : m ≤ x - y := by
        have h := Pl.run_len (z - n1) (x - y) l1 0
        have h2 := CF.hP2
        rw [← hm, ← h2, List.length_map]; exact h
      have hSR := hide (hSR1.mono hb2.size)
      obtain ⟨aoP1, kP1, rfl, hkP1, hkP1', cP1⟩ := hPP1.open y CF.la
      obtain ⟨aoC1, kC1, rfl, hkC1, hkC1', cC1⟩ := hCC1.open y CF.lc
      have CP1 := hide cP1
      have CC1 := hide cC1
      have hn1z : n1 ≤ z := CF.hn
      have hE := Hout.out
      have HM := hide hm
      rw [CF.hR] at hE
      have HR2 := hide hSR1
      have HPP := hide hPP
      have HCC := hide hCC
      clear hPP hCC hPP1 hCC1 HP' HC' HP1 HC1 cP1 cC1 Hout hm
      rcases hE with ⟨hr, rfl, p, rfl⟩ | ⟨lR, nR, hr, rfl, hSRR⟩
      · exact absurd (CF.hR.trans hr) Hhcase2.out
      · obtain ⟨n2, hr2⟩ : ∃ n2, (Pl.run (z - n1) (x - y) l1 0).2 = some (lR, n2) := by
          cases h : (Pl.run (z - n1) (x - y) l1 0).2 with
          | none => rw [h] at hr; simp at hr
          | some t =>
            rw [h] at hr
            simp at hr
            exact ⟨t.2, by rw [← hr.1]⟩
        have Hr2 := hide hr2
        have Hr := hide hr
        obtain ⟨f1, f2, f3, f4, f5⟩ := Pl.full_facts x z l lR _ (by rw [CF.hR]; exact hr)
        rw [CF.hP] at f1 f3 f4
        have hxe : y + m = x := by rw [← f1, List.length_append, List.length_map, CF.la, HM.out]
        have hx1 : y + m ≤ x := by omega
        have hx2 : x ≤ y + m := by omega
        clear hr hr2 hr1 f1 f2 hxe
        obtain ⟨aoP, kP, rfl, hkP, hkP', cP⟩ := HPP.out.open x (by rw [List.length_append, List.length_map, CF.la, HM.out]; omega)
        obtain ⟨aoC, kC, rfl, hkC, hkC', cC⟩ := HCC.out.open x (by rw [List.length_append, CF.lc, CF.ld, HM.out]; omega)
        obtain ⟨aoD, kD, rfl⟩ : ∃ ao k, u0 = .slice ao l.length k := by obtain ⟨ao, k, h, _⟩ := HS1.out; exact ⟨ao, k, h⟩
        obtain ⟨aoR, kR, rfl⟩ : ∃ ao k, vR = .slice ao lR.length k := by obtain ⟨ao, k, h, _⟩ := hSRR; exact ⟨ao, k, h⟩
        have CP := hide cP
        have CC := hide cC
        have HSRR := hide hSRR
        have F3 := hide f3
        have F4 := hide f4
        clear cP cC HPP HCC f3 f4 hSRR HS1
        have hl1 : ((x : Int) != x) = false := by simp
        go_wp2_with fail
        go_loopw [18] (fun i wr => ∃ k : Nat, i = .int .i64 k ∧ k ≤ x ∧ ∃ q, wr = w2.drewN q) (fun i _ => x - (intOf i).toNat)
        case atStart => exact ⟨0, rfl, Nat.zero_le _, 0, rfl⟩
        case round =>
          obtain ⟨k, rfl, hk, q, rfl⟩ := hrel
          by_cases hlt : k < x
          · obtain ⟨gP, rfl, _, dP⟩ := CP.out (by omega)
            have tP := dP k hlt
            have hρ := F3.out k hlt
            by_cases hk0 : k = 0
            · generalize (a ++ List.map (fun x => x + n1) b).getD k 0 = ρ at tP hρ
              have e1 : decide ((ρ : Int) < 0) = false := by simp
              have e2 : decide (z ≤ ρ) = false := by simp; omega
              have e3 : decide (0 < k) = false := by simp; omega
              clear dP CP CC CP1 CC1 CF F3 F4 HSRR hk0
              go_wp2
              go_quiet (fail)
              go_wp2
              go_roundw
              case rel => exact ⟨k + 1, by go_num, by omega, _, rfl⟩
              case measure => simp [intOf]; omega
            · have tQ := dP (k - 1) (by omega)
              have hlt' := F4.out (k - 1) (by omega)
              rw [show k - 1 + 1 = k from by omega] at hlt'
              generalize (a ++ List.map (fun x => x + n1) b).getD k 0 = ρ at tP hρ hlt'
              generalize (a ++ List.map (fun x => x + n1) b).getD (k - 1) 0 = σ at tQ hlt'
              have e1 : decide ((ρ : Int) < 0) = false := by simp
              have e2 : decide (z ≤ ρ) = false := by simp; omega
              have e3 : decide (0 < k) = true := by simp; omega
              have e4 : decide (ρ ≤ σ) = false := by simp; omega
              clear dP CP CC CP1 CC1 CF F3 F4 HSRR
              go_wp2
              go_quiet (fail)
              go_wp2
              go_roundw
              case rel => exact ⟨k + 1, by go_num, by omega, _, rfl⟩
              case measure => simp [intOf]; omega
          · have e5 : decide ((l.length : Int) - lR.length < 2 * x) = false := by simp; omega
            go_upto_if 142 with fail
            go_cut [19] (fun o wr => o = .int .i64 n1 ∧ w2.drewN q = wr)
            case first =>
              by_cases hy0 : y = 0
              · have hn0 : n1 = 0 := by have := CF.last; rw [if_pos hy0] at this; exact this
                have HN := hide hn0
                have hdd : decide ((0 : Int) < y) = false := by simp; omega
                clear hn0
                go_wp2_with fail
                go_meet
                exact ⟨by rw [HN.out]; rfl, rfl⟩
              · obtain ⟨g, rfl, hg, hcell⟩ := CP1.out (by omega)
                have hc := hcell (y - 1) (by omega)
                have hlast := CF.last
                rw [if_neg hy0] at hlast
                have hlt := CF.ha (y - 1) (by omega)
                generalize a.getD (y - 1) 0 = α at *
                have HL := hide hlast
                clear hlast hcell CF
                go_wp2_with fail
                go_meet
                exact ⟨by rw [HL.out]; go_num, rfl⟩
            case rest =>
              obtain ⟨h19, hwc⟩ := hcut
              subst h19
              subst hwc
              go_wp2_with fail
              rw [show (z : Int) - n1 = ((z - n1 : Nat) : Int) from by omega]
              refine (zz_any F vR1 l1 ((x : Int) - y) (z - n1) (w2.drewN q) (by exact hF2) (by exact hSR.out.below (below_drewN (Below.refl _ _) q)) (by omega) (by omega)).mono ?_
              rintro e3 w3 ⟨vP2, vC2, vR2, vE2, rfl, hP2, hC2, hb3', hout2⟩
              rw [show ((x : Int) - y).toNat = x - y from by omega] at hP2 hC2 hout2
              rw [CF.hP2] at hP2
              rw [CF.hC2] at hC2
              rw [Hr2.out] at hout2
              have hb3 : Below w2.heap.size w2 w3 := (below_drewN (Below.refl w2.heap.size w2) q).trans hb3'
              rcases hout2 with ⟨h, _⟩ | ⟨l3, n3, h3, rfl, hS3⟩
              case inl => cases h
              obtain ⟨rfl, rfl⟩ : lR = l3 ∧ n2 = n3 := by simpa using h3
              have HS3 := hide hS3
              have HSR3 := hide ((HSRR.out.below (hb2.mono hb1.size)).below (hb3.mono (Nat.le_trans hb1.size hb2.size)))
              clear hS3 h3 HSRR
              obtain ⟨aoP2, kP2, rfl, hkP2, hkP2', cP2⟩ := hP2.open m HM.out
              obtain ⟨aoC2, kC2, rfl, hkC2, hkC2', cC2⟩ := hC2.open m (by rw [CF.ld]; exact HM.out)
              have CP2 := hide cP2
              have CC2 := hide cC2
              have hbc3 := hbc2.trans (hb3.mono hbc2.size)
              have CP3 := hide (rowCells hb3 CP.out)
              have CC3 := hide (rowCells hb3 CC.out)
              have CP13 := hide (rowCells hb3 CP1.out)
              have CC13 := hide (rowCells hb3 CC1.out)
              have HCF := hide CF
              have hl2 : ((x : Int) != y + m) = false := by simp; omega
              clear hP2 hC2 cP2 cC2 CP CC CP1 CC1 hSR Hr2 CF HR2 hSR1 F3 F4
              go_wp2
              go_quiet (fail)
              go_wp2
              go_loopw [24] (fun i wr => ∃ k : Nat, i = .int .i64 k ∧ k ≤ y ∧ ∃ q', wr = w3.drewN q') (fun i _ => y - (intOf i).toNat)
              case atStart => exact ⟨0, rfl, Nat.zero_le _, _, rfl⟩
              case round =>
                obtain ⟨k3, rfl, hk3, q3, rfl⟩ := hrel
                by_cases hlt3 : k3 < y
                · obtain ⟨gP, rfl, _, dP⟩ := CP3.out (by omega)
                  obtain ⟨gC, rfl, _, dC⟩ := CC3.out (by omega)
                  obtain ⟨gP1, rfl, _, dP1⟩ := CP13.out (by omega)
                  obtain ⟨gC1, rfl, _, dC1⟩ := CC13.out (by omega)
                  have tP := dP k3 (by omega)
                  have tC := dC k3 (by omega)
                  have tP1 := dP1 k3 hlt3
                  have tC1 := dC1 k3 hlt3
                  rw [getD_app_left _ _ _ (by rw [HCF.out.la]; exact hlt3)] at tP
                  rw [getD_app_left _ _ _ (by rw [HCF.out.lc]; exact hlt3)] at tC
                  generalize a.getD k3 0 = α at tP tP1
                  generalize c1.getD k3 0 = γ at tC tC1
                  clear dP dC dP1 dC1 CP3 CC3 CP13 CC13 CP2 CC2 HCF
                  have e1 : ((α : Int) != α) = false := by simp
                  have e2 : ((γ : Int) != γ) = false := by simp
                  go_wp2
                  go_quiet (fail)
                  go_wp2
                  go_roundw
                  case rel => exact ⟨k3 + 1, by go_num, by omega, _, rfl⟩
                  case measure => simp [intOf]; omega
                · go_wp2_with fail
                  go_loopw [25] (fun i wr => ∃ k : Nat, i = .int .i64 k ∧ k ≤ m ∧ ∃ q', wr = w3.drewN q') (fun i _ => m - (intOf i).toNat)
                  case atStart => exact ⟨0, rfl, Nat.zero_le _, _, rfl⟩
                  case round =>
                    obtain ⟨k2, rfl, hk2, q2, rfl⟩ := hrel
                    by_cases hlt2 : k2 < m
                    · obtain ⟨gP, rfl, _, dP⟩ := CP3.out (by omega)
                      obtain ⟨gC, rfl, _, dC⟩ := CC3.out (by omega)
                      obtain ⟨gP2, rfl, _, dP2⟩ := CP2.out (by omega)
                      obtain ⟨gC2, rfl, _, dC2⟩ := CC2.out (by omega)
                      have tP := dP (y + k2) (by omega)
                      have tC := dC (y + k2) (by omega)
                      have tP2 := dP2 k2 hlt2
                      have tC2 := dC2 k2 hlt2
                      rw [getD_app_right _ _ _ _ HCF.out.la, getD_map_add _ _ _ (by rw [HM.out]; exact hlt2)] at tP
                      rw [getD_app_right _ _ _ _ HCF.out.lc] at tC
                      have hβ := HCF.out.hb k2 (by rw [HM.out]; exact hlt2)
                      generalize b.getD k2 0 = β at tP tP2 hβ
                      generalize d.getD k2 0 = δ at tC tC2
                      clear dP dC dP2 dC2 CP3 CC3 CP13 CC13 CP2 CC2 HCF
                      have e1 : ((β : Int) + n1 != β + n1) = false := by simp
                      have e2 : ((δ : Int) != δ) = false := by simp
                      go_wp2
                      go_quiet (fail)
                      go_wp2
                      go_roundw
                      case rel => exact ⟨k2 + 1, by go_num, by omega, _, rfl⟩
                      case measure => simp [intOf]; omega
                    · go_wp2_with (go_at_call 10; refine (bytesEq_same _ _ _ _ lR _ (HSR3.out.below (below_drewN (Below.refl _ _) _)) (HS3.out.below (below_drewN (Below.refl _ _) _))).mono ?_; rintro e9 w9 ⟨rfl, q9, rfl⟩)
                      go_ret
                      exact ⟨rfl, below_drewN hbc3 _⟩

end Go.Proofs.Qxb6616560aFmt
