import Derived.Test.Qxb6616560aFmtHead
namespace Go.Proofs.Qxb6616560aFmt
open Go.RowKit Go.Extern.Stop Go.Stop Go.Extern
set_option linter.unusedVariables false

set_option maxRecDepth 100000 in
set_option maxHeartbeats 2000000 in
theorem cut_A (F : Interp) (v : Value) (l : List UInt8) (x y z : Nat) (w : World) (hF : F.answers w.tape) (hv : In w v l) (hl : l.length ≤ 1048576) (hx : x ≤ 65536) (hy : y ≤ x) (hz : z ≤ 9223372036854775807) (hcase : (Pl.run z y l 0).2 = none) :
    Calls Tryf.prog 4 #[v, .int .i64 x, .int .i64 y, .int .i64 z] w fun e w' => e = .returned (.bool true) ∧ Below w.heap.size w w' := by
  obtain ⟨ao, c, hvv⟩ : ∃ ao c, v = .slice ao l.length c := by
    rcases hv with ⟨rfl, rfl⟩ | ⟨x, c, rfl, _⟩
    · exact ⟨none, 0, rfl⟩
    · exact ⟨_, _, rfl⟩
  subst hvv
  have hgd : (decide ((y : Int) < 0)) = false := by simp
  have hgd2 : (decide ((x : Int) < y)) = false := by simp; omega
  have HV := hide hv
  clear hv
  have Hhcase := hide hcase
  clear hcase
  go_enter Tryf.func4, Tryf.ntmps4
  go_upto_if 47 with (go_at_call 11; refine (bytes11_yes _ _ _ _ _ _ _ hl).mono ?_; rintro e w' ⟨rfl, rfl⟩)
  go_cut [0] (fun v wr => Sl wr.heap.size wr v l ∧ Below w'.heap.size w' wr)
  case first =>
    rcases HV.out with ⟨hnil, hl0⟩ | ⟨ad, c', hsome, hcell⟩
    · obtain ⟨rfl, _, rfl⟩ : ao = none ∧ l.length = 0 ∧ c = 0 := by simpa using hnil
      go_wp2_with fail
      go_meet
      exact ⟨⟨none, 0, by rw [hl0], by rw [hl0]; simp, by omega, .inl hl0⟩, Below.refl _ _⟩
    · obtain ⟨rfl, rfl⟩ : ao = some ad ∧ c = c' := by simpa using hsome
      have HCell := hide hcell
      clear hcell hsome HV
      obtain ⟨i0, hi, hz0, hz1, hz2⟩ := info_parts info5
      go_wp2_with (at_make; refine wpList_make_full _ rfl _ _ 22 rfl w'.heap.size 5 i0 (.int .u8 0) 1 Tryf.underlying22 hi hz0 hz1 _ _ _ _ l.length rfl rfl rfl rfl ?m1 ?m2 ?m3 ?_)
      case m1 => rw [hz2]; omega
      case m2 => unfold maxLen; omega
      case m3 => exact Nat.le_refl _
      intro w1 hown1 hg1
      obtain ⟨L, hL, hLn⟩ := own_block hown1
      have HL := hide hL
      have hb1 : Below w'.heap.size w' w1 := (Below.refl _ _).grown hg1 (Nat.le_refl _) (fun _ h => by cases h)
      obtain ⟨cs, hcs⟩ : ∃ cs : List Value, cs = l.map (fun (b : UInt8) => Value.int .u8 b.toNat) := ⟨_, rfl⟩
      have Hcs := hide hcs
      have hcl : cs.length = l.length := by rw [hcs]; simp
      have Hcl := hide hcl
      clear hown1 hL hcs hcl
      have hsrc : ∀ j u, cs[j]? = some u → w1.cell? (ad.add j) = some u := by
        intro j u hj
        rw [Hcs.out] at hj
        have hjl : j < l.length := by
          have := (List.getElem?_eq_some_iff.1 hj).1
          simpa using this
        have e : u = .int .u8 (l[j]).toNat := by simpa [hjl] using hj.symm
        rw [e]
        exact hg1.cell (HCell.out j hjl) (by simp)
      have hone : ∀ u ∈ cs, u.oneCell' = true := by intro u hu; rw [Hcs.out] at hu; simp at hu; obtain ⟨_, _, rfl⟩ := hu; rfl
      obtain ⟨w2, hrun, hw2, hb2⟩ : ∃ w2, (Builtin.copy_ #[22, 22] 3 #[.slice (some ⟨w'.heap.size, 0, none⟩) l.length l.length, .slice (some ad) l.length c]).run Tryf.prog w1 = .ok (goInt cs.length) w2 ∧
          Hid (w2.heap[w'.heap.size]? = some (.cells (splice L 0 cs).toArray 5 (0, 0))) ∧ Below w'.heap.size w' w2 :=
        ⟨_, run_copy_row (P := Tryf.prog) w1 22 22 3 5 w'.heap.size 0 l.length l.length ad l.length c L.toArray 5 cs Tryf.underlying22 (by kernel_rfl) HL.out (by rw [Hcl.out]; simp) hsrc (by have := Hcl.out; simp; omega) hone,
          show _ = _ from setRow_heap w1 _ _ _ 5 _ HL.out, below_setRow hb1 (Nat.le_refl _) _⟩
      clear hsrc hone
      go_wp2_with fail
      go_meet
      refine ⟨⟨_, l.length, rfl, Nat.le_refl _, hl, .inr ⟨w'.heap.size, 0, rfl, lt_of_block hw2.out, fun j hj => ?_⟩⟩, hb2⟩
      have e : splice L 0 cs = cs := by
        have h1 := Hcl.out
        simp [splice, List.drop_eq_nil_of_le (show L.length ≤ cs.length by omega)]
      have h2 := hw2.out
      rw [e] at h2
      simp only [World.cell?, h2, Hcs.out]
      simp [hj]
  case rest =>
    obtain ⟨hS, hbc⟩ := hcut
    have HS := hide hS
    have hFc := answers_below hF hbc
    clear hS HV
    go_wp2_with fail
    refine (zz_any F u0 l x z wc hFc HS.out hz (by omega)).mono ?_
    rintro e1 w1 ⟨vP, vC, vR, vE, rfl, hP, hC, hb1, hout⟩
    rw [Int.toNat_natCast] at hP hC hout
    have HP := hide hP
    have HC := hide hC
    have Hout := hide hout
    have hF1 := answers_below hFc hb1
    have HS1 := hide ((HS.out.below hb1).mono hb1.size)
    have hbc1 := hbc.trans (hb1.mono hbc.size)
    clear hP hC hout HS
    go_wp2_with fail
    refine (zz_any F u0 l y z w1 hF1 HS1.out hz (by omega)).mono ?_
    rintro e2 w2 ⟨vP1, vC1, vR1, vE1, rfl, hP1, hC1, hb2, hout1⟩
    rw [Int.toNat_natCast] at hP1 hC1 hout1
    have HP1 := hide hP1
    have HC1 := hide hC1
    have hF2 := answers_below hF1 hb2
    have HP' := hide (HP.out.below hb2)
    have HC' := hide (HC.out.below hb2)
    have hbc2 := hbc1.trans (hb2.mono hbc1.size)
    clear hP1 hC1 HP HC
    rcases hout1 with ⟨hr1, rfl, p1, rfl⟩ | ⟨l1, n1, hr1, rfl, hSR1⟩
    · have hrun := Pl.run_add z y (x - y) l 0
      rw [show y + (x - y) = x by omega, hr1] at hrun
      simp only at hrun
      have hE := Hout.out
      rw [hrun] at hE
      rcases hE with ⟨_, rfl, p, rfl⟩ | ⟨_, _, h, _⟩
      · have hPP := HP'.out
        have hCC := HC'.out
        rw [hrun] at hPP hCC
        have HPP := hide hPP
        have HCC := hide hCC
        clear hPP hCC hrun HP' HC' Hout hr1 HS1
        go_wp2_with (first | (go_at_call 8; refine (intsEq_same vP vP1 _ _ HPP.out HP1.out).mono ?_; rintro e3 w3 ⟨rfl, q3, rfl⟩) | (go_at_call 9; refine (u64sEq_same vC vC1 _ _ (HCC.out.below (below_drewN (Below.refl _ _) _)) (HC1.out.below (below_drewN (Below.refl _ _) _))).mono ?_; rintro e4 w4 ⟨rfl, q4, rfl⟩))
        go_ret
        exact ⟨rfl, below_drewN hbc2 _⟩
      · cases h
    · rw [Hhcase.out] at hr1; cases hr1
end Go.Proofs.Qxb6616560aFmt
