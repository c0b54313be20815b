/-
  The walk over FnReadEntriesDecodesTheWireForm.
-/
import Derived.Test.Qxb6616560aFmtUv
import Derived.Deep.CutBlock
namespace Go.Proofs.Qxb6616560aFmt
open Go.RowKit Go.Extern.Stop Go.Stop Go.Extern
set_option linter.unusedVariables false

set_option maxHeartbeats 400000 in
theorem bytes5_yes (a : Option Addr) (n c : Nat) (x y : Int) (w : World) (hn : n ≤ 1048576) :
    Calls Tryf.prog 5 #[.slice a n c, .int .i64 x, .int .i64 y] w fun e w' => e = .returned (.bool true) ∧ w' = w := by
  go_enter Tryf.func5, Tryf.ntmps5
  go_wp2
  go_ret
  exact ⟨rfl, rfl⟩

set_option maxHeartbeats 400000 in
theorem bytes5_no (a : Option Addr) (n c : Nat) (x y : Int) (w : World) (hn : 1048576 < n) :
    Calls Tryf.prog 5 #[.slice a n c, .int .i64 x, .int .i64 y] w fun e w' => e = .returned (.bool false) ∧ w' = w := by
  go_enter Tryf.func5, Tryf.ntmps5
  go_wp2
  go_ret
  exact ⟨rfl, rfl⟩

set_option maxRecDepth 100000 in
set_option maxHeartbeats 800000 in
theorem dec_long (a : Option Addr) (n c : Nat) (x z : Int) (w : World) (hn : 1048576 < n) :
    Calls Tryf.prog 3 #[.slice a n c, .int .i64 x, .int .i64 z] w fun e w' => e = .returned (.bool true) ∧ Below w.heap.size w w' := by
  go_enter Tryf.func3, Tryf.ntmps3
  go_wp2_with (go_at_call 5; refine (bytes5_no a n c x z _ hn).mono ?_; rintro e w' ⟨rfl, rfl⟩)
  go_ret
  exact ⟨rfl, Below.refl _ _⟩

set_option maxRecDepth 100000 in
set_option maxHeartbeats 800000 in
theorem dec_short (a : Option Addr) (n c : Nat) (x z : Int) (w : World) (hn : n ≤ 1048576) (h : 65536 < x ∨ z < 0) :
    Calls Tryf.prog 3 #[.slice a n c, .int .i64 x, .int .i64 z] w fun e w' => e = .returned (.bool true) ∧ Below w.heap.size w w' := by
  by_cases h1 : 65536 < x
  · clear h
    go_enter Tryf.func3, Tryf.ntmps3
    go_wp2_with (go_at_call 5; refine (bytes5_yes a n c x z _ hn).mono ?_; rintro e w' ⟨rfl, rfl⟩)
    go_ret
    exact ⟨rfl, Below.refl _ _⟩
  have h2 : z < 0 := by omega
  clear h
  go_enter Tryf.func3, Tryf.ntmps3
  go_wp2_with (go_at_call 5; refine (bytes5_yes a n c x z _ hn).mono ?_; rintro e w' ⟨rfl, rfl⟩)
  go_ret
  exact ⟨rfl, Below.refl _ _⟩

theorem row_of_own' {w : World} {B : Nat} {e : TypeId} {k : IntKind} {v : Value} {xs : List Nat} {n : Nat} (h : w.ownsRow B e 1 v n (xs.map fun (t : Nat) => Value.int k t)) : Row k w v xs := by
  have h1 := h.1
  rw [List.length_map, Nat.mul_one] at h1
  subst h1
  exact row_of_own h

theorem Sl.sliced {B : Nat} {w : World} {ao : Option Addr} {c q : Nat} {l : List UInt8} (h : Sl B w (.slice ao l.length c) l) (hq : q ≤ l.length) : Sl B w (.slice (if c = q then ao else Option.map (fun x => x.add q) ao) (l.length - q) (c - q)) (l.drop q) := by
  obtain ⟨ao', c', he, hlc, hc, h3⟩ := h
  obtain ⟨rfl, rfl⟩ : ao = ao' ∧ c = c' := by simpa using he
  by_cases hcq : c = q
  · rw [if_pos hcq, hcq, Nat.sub_self]
    exact Sl.cut0 _ hq hlc hcq
  · rw [if_neg hcq]
    rcases h3 with rfl | ⟨g, o, rfl, hg, hcell⟩
    · exact ⟨Option.map (fun x => x.add q) ao, c - q, by simp, by simp, by omega, .inl (by simp)⟩
    · have e : (Option.map (fun x : Addr => x.add q) (some ⟨g, o, none⟩)) = some ⟨g, o + q, none⟩ := by simp [Addr.add]
      rw [e]
      exact Sl.cut hq hlc hc hg hcell

set_option maxRecDepth 100000 in
set_option maxHeartbeats 4000000 in
theorem dec_main (F : Interp) (v : Value) (l : List UInt8) (x : Int) (z : Nat) (w : World) (hF : F.answers w.tape) (hv : In w v l) (hl : l.length ≤ 1048576) (hx : x ≤ 65536) (hz : z ≤ 9223372036854775807) :
    Calls Tryf.prog 3 #[v, .int .i64 x, .int .i64 z] w fun e w' => e = .returned (.bool true) ∧ Below w.heap.size w w' := by
  obtain ⟨ao, c, hvv⟩ : ∃ ao c, v = .slice ao l.length c := by
    rcases hv with ⟨rfl, rfl⟩ | ⟨x, c, rfl, _⟩
    · exact ⟨none, 0, rfl⟩
    · exact ⟨_, _, rfl⟩
  subst hvv
  have HV := hide hv
  clear hv
  go_enter Tryf.func3, Tryf.ntmps3
  go_upto_if 38 with (go_at_call 5; refine (bytes5_yes _ _ _ _ _ _ hl).mono ?_; rintro e w' ⟨rfl, rfl⟩)
  go_cut [0] (fun v wr => Sl wr.heap.size wr v l ∧ Below w'.heap.size w' wr)
  case first =>
    rcases HV.out with ⟨hnil, hl0⟩ | ⟨ad, c', hsome, hcell⟩
    · obtain ⟨rfl, _, rfl⟩ : ao = none ∧ l.length = 0 ∧ c = 0 := by simpa using hnil
      go_wp2_with fail
      go_meet
      exact ⟨⟨none, 0, by rw [hl0], by rw [hl0]; simp, by omega, .inl hl0⟩, Below.refl _ _⟩
    · obtain ⟨rfl, rfl⟩ : ao = some ad ∧ c = c' := by simpa using hsome
      have HCell := hide hcell
      clear hcell hsome HV
      obtain ⟨i0, hi, hz0, hz1, hz2⟩ := info_parts info5
      go_wp2_with (at_make; refine wpList_make_full _ rfl _ _ 22 rfl w'.heap.size 5 i0 (.int .u8 0) 1 Tryf.underlying22 hi hz0 hz1 _ _ _ _ l.length rfl rfl rfl rfl ?m1 ?m2 ?m3 ?_)
      case m1 => rw [hz2]; omega
      case m2 => unfold maxLen; omega
      case m3 => exact Nat.le_refl _
      intro w1 hown1 hg1
      obtain ⟨L, hL, hLn⟩ := own_block hown1
      have HL := hide hL
      have hb1 : Below w'.heap.size w' w1 := (Below.refl _ _).grown hg1 (Nat.le_refl _) (fun _ h => by cases h)
      obtain ⟨cs, hcs⟩ : ∃ cs : List Value, cs = l.map (fun (b : UInt8) => Value.int .u8 b.toNat) := ⟨_, rfl⟩
      have Hcs := hide hcs
      have hcl : cs.length = l.length := by rw [hcs]; simp
      have Hcl := hide hcl
      clear hown1 hL hcs hcl
      have hsrc : ∀ j u, cs[j]? = some u → w1.cell? (ad.add j) = some u := by
        intro j u hj
        rw [Hcs.out] at hj
        have hjl : j < l.length := by
          have := (List.getElem?_eq_some_iff.1 hj).1
          simpa using this
        have e : u = .int .u8 (l[j]).toNat := by simpa [hjl] using hj.symm
        rw [e]
        exact hg1.cell (HCell.out j hjl) (by simp)
      have hone : ∀ u ∈ cs, u.oneCell' = true := by intro u hu; rw [Hcs.out] at hu; simp at hu; obtain ⟨_, _, rfl⟩ := hu; rfl
      obtain ⟨w2, hrun, hw2, hb2⟩ : ∃ w2, (Builtin.copy_ #[22, 22] 3 #[.slice (some ⟨w'.heap.size, 0, none⟩) l.length l.length, .slice (some ad) l.length c]).run Tryf.prog w1 = .ok (goInt cs.length) w2 ∧
          Hid (w2.heap[w'.heap.size]? = some (.cells (splice L 0 cs).toArray 5 (0, 0))) ∧ Below w'.heap.size w' w2 :=
        ⟨_, run_copy_row (P := Tryf.prog) w1 22 22 3 5 w'.heap.size 0 l.length l.length ad l.length c L.toArray 5 cs Tryf.underlying22 (by kernel_rfl) HL.out (by rw [Hcl.out]; simp) hsrc (by have := Hcl.out; simp; omega) hone,
          show _ = _ from setRow_heap w1 _ _ _ 5 _ HL.out, below_setRow hb1 (Nat.le_refl _) _⟩
      clear hsrc hone
      go_wp2_with fail
      go_meet
      refine ⟨⟨_, l.length, rfl, Nat.le_refl _, hl, .inr ⟨w'.heap.size, 0, rfl, lt_of_block hw2.out, fun j hj => ?_⟩⟩, hb2⟩
      have e : splice L 0 cs = cs := by
        have h1 := Hcl.out
        simp [splice, List.drop_eq_nil_of_le (show L.length ≤ cs.length by omega)]
      have h2 := hw2.out
      rw [e] at h2
      simp only [World.cell?, h2, Hcs.out]
      simp [hj]
  case rest =>
    obtain ⟨hS, hbc⟩ := hcut
    have HS := hide hS
    have hFc := answers_below hF hbc
    clear hS HV
    go_wp2_with fail
    refine (zz_any F u0 l x z wc hFc HS.out hz (by omega)).mono ?_
    rintro e1 w1 ⟨vP, vC, vR, vE, rfl, hP, hC, hb1, hout⟩
    have HP := hide hP
    have HC := hide hC
    have Hout := hide hout
    have HS1 := hide ((HS.out.below hb1).mono hb1.size)
    have hbc1 := hbc.trans (hb1.mono hbc.size)
    obtain ⟨aoD, kD, rfl⟩ : ∃ ao k, u0 = .slice ao l.length k := by obtain ⟨ao, k, h, _⟩ := HS.out; exact ⟨ao, k, h⟩
    clear hP hC hout HS
    go_upto_block 0 with fail
    go_cut [12, 13, 14, 16] (fun a c p o wr => ∃ q : Nat, Row .i64 wr a ((Pl.run z x.toNat l 0).1.map (·.1)) ∧ Row .u64 wr c ((Pl.run z x.toNat l 0).1.map (·.2)) ∧ Below w1.heap.size w1 wr ∧ p = .int .i64 q ∧ q ≤ l.length ∧
      (((Pl.run z x.toNat l 0).2 = none ∧ o = .bool false) ∨ ∃ nx, (Pl.run z x.toNat l 0).2 = some (l.drop q, nx) ∧ o = .bool true))
    case first =>
      go_wp2_with fail
      go_loopw [12, 13, 14, 15, 16, 17] (fun a c p n o i wr => ∃ (k q nx : Nat) (ps : List (Nat × Nat)), i = .int .i64 k ∧ k ≤ x.toNat ∧ n = .int .i64 nx ∧ nx ≤ z ∧ p = .int .i64 q ∧ q ≤ l.length ∧ o = .bool true ∧
          Pl.run z k l 0 = (ps, some (l.drop q, nx)) ∧ wr.ownsRow w1.heap.size 3 1 a ps.length ((ps.map (·.1)).map fun (t : Nat) => Value.int .i64 t) ∧
          wr.ownsRow w1.heap.size 30 1 c ps.length ((ps.map (·.2)).map fun (t : Nat) => Value.int .u64 t) ∧ Below w1.heap.size w1 wr) (fun _ _ _ _ _ i _ => x.toNat - (intOf i).toNat)
      case atStart => exact ⟨0, 0, 0, [], rfl, Nat.zero_le _, rfl, Nat.zero_le _, rfl, Nat.zero_le _, rfl, rfl, World.ownsRow_nil _ _ _ _, World.ownsRow_nil _ _ _ _, Below.refl _ _⟩
      case round =>
        obtain ⟨k, q, nx, ps, rfl, hk, rfl, hnx, rfl, hq, rfl, hrun, hoP, hoC, hbR⟩ := hrel
        have Hrun := hide hrun
        have HoP := hide hoP
        have HoC := hide hoC
        have hlen : ps.length = k := (Pl.run_some z k l 0 ps _ nx (by omega) hrun).1
        have Hlen := hide hlen
        have HSR := hide (HS1.out.below hbR)
        clear hrun hoP hoC hlen
        by_cases hlt : k < x.toNat
        · have hlt' : (k : Int) < x := by omega
          go_upto_region 22 with fail
          go_cut [18, 19, 20] (fun a b o wx => wr = wx ∧ ((Pl.uv (l.drop q) = none ∧ o = .bool false) ∨ ∃ g n1 : Nat, Pl.uv (l.drop q) = some (g, n1) ∧ a = .int .u64 g ∧ b = .int .i64 n1 ∧ o = .bool true))
          case first =>
            go_wp2_with (go_at_call 7; have hSx := HSR.out.sliced hq; revert hSx; generalize (Value.slice (if kD = q then aoD else Option.map (fun x => x.add q) aoD) (l.length - q) (kD - q)) = vd; intro hSx; refine (zzUv_any _ vd _ wr hSx).mono ?_; clear hSx; rintro e2 w2 ⟨hz2, hw2⟩; subst hw2; rcases hz2 with ⟨hu, rfl⟩ | ⟨g, n1, hu, rfl⟩ <;> (have HU := hide hu; clear hu))
            · go_meet
              exact ⟨rfl, .inl ⟨HU.out, rfl⟩⟩
            · go_meet
              exact ⟨rfl, .inr ⟨_, _, HU.out, rfl, rfl, rfl⟩⟩
          case rest =>
            obtain ⟨hwx, hcut⟩ := hcut
            subst hwx
            rcases hcut with ⟨hu, rfl⟩ | ⟨g, n1, hu, rfl, rfl, rfl⟩
            · have hstep : Pl.step (l.drop q) z nx = none := by unfold Pl.step; rw [hu]
              have hfin := Pl.run_snoc_none (j := x.toNat) Hrun.out hstep hlt
              have Hfin := hide hfin
              clear hu hstep hfin
              go_wp2_with fail
              go_meet
              exact ⟨q, by rw [Hfin.out]; exact row_of_own' HoP.out, by rw [Hfin.out]; exact row_of_own' HoC.out, hbR, rfl, hq, .inl ⟨by rw [Hfin.out], rfl⟩⟩
            · obtain ⟨hn1, hn1l, hg64⟩ := (Pl.uv_some hu).2.2
              rw [List.length_drop] at hn1l
              have HU := hide hu
              clear hu
              by_cases hg : z - nx ≤ g
              · have hg' : (z : Int) - nx ≤ g := by omega
                have hstep : Pl.step (l.drop q) z nx = none := by unfold Pl.step; rw [HU.out]; simp only; rw [if_pos hg]
                have hfin := Pl.run_snoc_none (j := x.toNat) Hrun.out hstep hlt
                have Hfin := hide hfin
                clear hstep hfin
                go_wp2_with fail
                go_meet
                exact ⟨q, by rw [Hfin.out]; exact row_of_own' HoP.out, by rw [Hfin.out]; exact row_of_own' HoC.out, hbR, rfl, hq, .inl ⟨by rw [Hfin.out], rfl⟩⟩
              · have hg' : (g : Int) < (z : Int) - nx := by omega
                go_upto_region 28 with fail
                go_cut [22, 23, 24] (fun a b o wx => wr = wx ∧ ((Pl.uv (l.drop (q + n1)) = none ∧ o = .bool false) ∨ ∃ c n2 : Nat, Pl.uv (l.drop (q + n1)) = some (c, n2) ∧ a = .int .u64 c ∧ b = .int .i64 n2 ∧ o = .bool true))
                case first =>
                  go_wp2_with (go_at_call 7; have hSx := HSR.out.sliced (q := q + n1) (by omega); revert hSx; generalize (Value.slice (if kD = q + n1 then aoD else Option.map (fun x => x.add (q + n1)) aoD) (l.length - (q + n1)) (kD - (q + n1))) = vd; intro hSx; refine (zzUv_any _ vd _ wr hSx).mono ?_; clear hSx; rintro e2 w2 ⟨hz2, hw2⟩; subst hw2; rcases hz2 with ⟨hu, rfl⟩ | ⟨c, n2, hu, rfl⟩ <;> (have HU2 := hide hu; clear hu))
                  · go_meet
                    exact ⟨rfl, .inl ⟨HU2.out, rfl⟩⟩
                  · go_meet
                    exact ⟨rfl, .inr ⟨_, _, HU2.out, rfl, rfl, rfl⟩⟩
                case rest =>
                  obtain ⟨hwx, hcut⟩ := hcut
                  subst hwx
                  rcases hcut with ⟨hu, rfl⟩ | ⟨c, n2, hu, rfl, rfl, rfl⟩
                  · have hstep : Pl.step (l.drop q) z nx = none := by unfold Pl.step; rw [HU.out]; simp only; rw [if_neg hg, List.drop_drop, hu]
                    have hfin := Pl.run_snoc_none (j := x.toNat) Hrun.out hstep hlt
                    have Hfin := hide hfin
                    clear hstep hfin hu
                    go_wp2_with fail
                    go_meet
                    exact ⟨q, by rw [Hfin.out]; exact row_of_own' HoP.out, by rw [Hfin.out]; exact row_of_own' HoC.out, hbR, rfl, hq, .inl ⟨by rw [Hfin.out], rfl⟩⟩
                  · obtain ⟨hn2, hn2l, hc64⟩ := (Pl.uv_some hu).2.2
                    rw [List.length_drop] at hn2l
                    have hstep : Pl.step (l.drop q) z nx = some (nx + g, c, n1 + n2) := by unfold Pl.step; rw [HU.out]; simp only; rw [if_neg hg, List.drop_drop, hu]
                    have hnew := Pl.run_snoc_some Hrun.out hstep
                    rw [List.drop_drop] at hnew
                    have Hnew := hide hnew
                    clear hstep hnew hu
                    obtain ⟨i0, hi, hz0, hz1, hz2⟩ := info_parts info3
                    obtain ⟨i1, ki, kz0, kz1, kz2⟩ := info_parts info30
                    have hpl : ps.length ≤ 65536 := by have := Hlen.out; omega
                    have hbs := hbR.size
                    go_wp2_with (at_builtin; refine wpList_append_own _ rfl _ _ 24 rfl w1.heap.size 3 i0 (.int .i64 0) 1 8 Tryf.underlying24 hi hz0 hz1 hz2 rfl (by decide) _ _ _ rfl (HoP.out.alloc _) ⟨wr.heap.size, 0, none⟩ 1 1 [.int .i64 ((nx : Int) + g)] rfl rfl ?c1 ?c2 ?c3 ?c4 ?c5 ?_)
                    case c1 => exact cell_one_new _ _ _
                    case c2 => intro u hu; simp at hu; subst hu; rfl
                    case c3 => unfold maxLen; omega
                    case c4 => omega
                    case c5 => simp; omega
                    intro v1 w3 hown1 hgrow1 _
                    have hoC3 : w3.ownsRow w1.heap.size 30 1 u13 ps.length ((ps.map (·.2)).map fun (t : Nat) => Value.int .u64 t) := (HoC.out.alloc _).kept hgrow1 (own_ne_own HoC.out HoP.out (by decide))
                    have hb3 : Below w1.heap.size w1 w3 := (hbR.alloc hbs _).grown hgrow1 (by simp; omega) (fun k hk => (HoP.out.lt k hk).1)
                    have Hown1 := hide hown1
                    have HoC3 := hide hoC3
                    have hbs3 := hb3.size
                    clear hown1 hgrow1 hoC3 HoP HoC
                    go_wp2_with (at_builtin; refine wpList_append_own _ rfl _ _ 25 rfl w1.heap.size 30 i1 (.int .u64 0) 1 8 Tryf.underlying25 ki kz0 kz1 kz2 rfl (by decide) _ _ _ rfl (HoC3.out.alloc _) ⟨w3.heap.size, 0, none⟩ 1 1 [.int .u64 c] rfl rfl ?d1 ?d2 ?d3 ?d4 ?d5 ?_)
                    case d1 => exact cell_one_new _ _ _
                    case d2 => intro u hu; simp at hu; subst hu; rfl
                    case d3 => unfold maxLen; omega
                    case d4 => omega
                    case d5 => simp; omega
                    intro v2 w4 hown2 hgrow2 _
                    have hoP4 := (Hown1.out.alloc _).kept hgrow2 (own_ne_own Hown1.out HoC3.out (by decide))
                    have hb4 : Below w1.heap.size w1 w4 := (hb3.alloc hbs3 _).grown hgrow2 (by simp; omega) (fun k hk => (HoC3.out.lt k hk).1)
                    have HoP4 := hide hoP4
                    have HoC4 := hide hown2
                    clear hown2 hgrow2 hoP4 Hown1 HoC3
                    go_wp2
                    go_roundw
                    case rel =>
                      refine ⟨k + 1, q + (n1 + n2), nx + g + 1, ps ++ [(nx + g, c)], by go_num, by omega, by go_num, by omega, by go_num, by omega, rfl, Hnew.out, ?_, ?_, hb4⟩
                      · simpa using HoP4.out
                      · simpa using HoC4.out
                    case measure => simp [intOf]; omega
        · have hge : x ≤ (k : Int) := by omega
          have hke : x.toNat = k := by omega
          have HE := hide hke
          clear hke
          go_wp2_with fail
          go_meet
          refine ⟨q, ?_, ?_, hbR, rfl, hq, .inr ⟨nx, ?_, rfl⟩⟩
          · rw [HE.out, Hrun.out]; exact row_of_own' HoP.out
          · rw [HE.out, Hrun.out]; exact row_of_own' HoC.out
          · rw [HE.out, Hrun.out]
    case rest =>
      obtain ⟨q, hP2, hC2, hbR, rfl, hq, hor⟩ := hcut
      have HP2 := hide hP2
      have HC2 := hide hC2
      have HPR := hide (HP.out.below hbR)
      have HCR := hide (HC.out.below hbR)
      have HSR := hide (HS1.out.below hbR)
      have hbcR := hbc1.trans (hbR.mono hbc1.size)
      have hout := Hout.out
      rcases hor with ⟨hr, rfl⟩ | ⟨nx, hr, rfl⟩
      · rw [hr] at hout
        rcases hout with ⟨_, rfl, p, rfl⟩ | ⟨_, _, h, _⟩
        case inr => cases h
        have hnn : ∀ w, (binOp .eql 22 (.slice none 0 0) (.slice none 0 0)).run Tryf.prog w = .ok (.bool true) w := fun w => run_eql_nil_slice w 22 5 none 0 0 0 0 Tryf.underlying22
        clear hP2 hC2 HP HC HS1 Hout hr
        go_wp2_with (first | (go_at_call 8; refine (intsEq_same _ _ _ _ HPR.out HP2.out).mono ?_; rintro e3 w3 ⟨rfl, q3, rfl⟩) | (go_at_call 9; refine (u64sEq_same _ _ _ _ (HCR.out.below (below_drewN (Below.refl _ _) _)) (HC2.out.below (below_drewN (Below.refl _ _) _))).mono ?_; rintro e4 w4 ⟨rfl, q4, rfl⟩))
        go_ret
        exact ⟨rfl, below_drewN hbcR _⟩
      · rw [hr] at hout
        rcases hout with ⟨h, _⟩ | ⟨l', nx', h, rfl, hSR⟩
        case inl => cases h
        obtain ⟨rfl, rfl⟩ : l.drop q = l' ∧ nx = nx' := by simpa using h
        have HRR := hide (hSR.below (hbR.mono hb1.size))
        clear hP2 hC2 HP HC HS1 Hout hr h hSR
        go_wp2_with (first | (go_at_call 8; refine (intsEq_same _ _ _ _ HPR.out HP2.out).mono ?_; rintro e3 w3 ⟨rfl, q3, rfl⟩) | (go_at_call 9; refine (u64sEq_same _ _ _ _ (HCR.out.below (below_drewN (Below.refl _ _) _)) (HC2.out.below (below_drewN (Below.refl _ _) _))).mono ?_; rintro e4 w4 ⟨rfl, q4, rfl⟩) | (go_at_call 10; refine (bytesEq_same _ _ _ _ (l.drop q) _ (HRR.out.below (below_drewN (Below.refl _ _) _)) ((HSR.out.below (below_drewN (Below.refl _ _) _)).sliced hq)).mono ?_; rintro e5 w5 ⟨rfl, q5, rfl⟩))
        all_goals
          go_ret
          exact ⟨rfl, below_drewN hbcR _⟩
end Go.Proofs.Qxb6616560aFmt
