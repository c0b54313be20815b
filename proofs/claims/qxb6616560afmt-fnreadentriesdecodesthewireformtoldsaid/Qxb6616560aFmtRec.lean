import Derived.Test.Qxb6616560aFmtWalks
namespace Go.Proofs.Qxb6616560aFmt
open Go.RowKit Go.Extern.Stop Go.Stop Go.Extern
set_option linter.unusedVariables false

theorem info3 : (Tryf.prog.info? 3).map (fun i => (i.zero, i.size, i.bytes)) = some (some (.int .i64 0), 1, 8) := by kernel_rfl
theorem info30 : (Tryf.prog.info? 30).map (fun i => (i.zero, i.size, i.bytes)) = some (some (.int .u64 0), 1, 8) := by kernel_rfl

/-- What record has gathered. -/
structure Rec (w : World) (B bP bC : Nat) (vP vC : Value) (ps cs : List Nat) : Prop where
  hB : B ≤ w.heap.size
  hP : B ≤ bP
  hC : B ≤ bC
  cP : w.heap[bP]? = some (.cells #[vP] 24 (0, 0))
  cC : w.heap[bC]? = some (.cells #[vC] 25 (0, 0))
  oP : w.ownsRow B 3 1 vP ps.length (ps.map fun (t : Nat) => Value.int .i64 t)
  oC : w.ownsRow B 30 1 vC cs.length (cs.map fun (t : Nat) => Value.int .u64 t)

theorem own_ne {w : World} {B e e' size b : Nat} {v u : Value} {n : Nat} {xs : List Value} (h : w.ownsRow B e size v n xs) (hc : w.heap[b]? = some (.cells #[u] e' (0, 0))) (he : e ≠ e') : v.ownBlock ≠ some b := by
  rcases h.2 with ⟨rfl, _⟩ | ⟨g, cap, cur, rfl, _, hg, _⟩
  · simp [Value.ownBlock]
  · intro e1
    simp only [Value.ownBlock, Option.some.injEq] at e1
    subst e1
    rw [hg] at hc
    simp at hc
    exact he hc.2

theorem own_ne_own {w : World} {B e e' size size' : Nat} {v v' : Value} {n n' : Nat} {xs xs' : List Value} (h : w.ownsRow B e size v n xs) (h' : w.ownsRow B e' size' v' n' xs') (he : e ≠ e') : v.ownBlock = none ∨ v.ownBlock ≠ v'.ownBlock := by
  rcases h.2 with ⟨rfl, _⟩ | ⟨g, cap, cur, rfl, _, hg, _⟩
  · simp [Value.ownBlock]
  · right
    rcases h'.2 with ⟨rfl, _⟩ | ⟨g', cap', cur', rfl, _, hg', _⟩
    · simp [Value.ownBlock]
    · intro e1
      simp only [Value.ownBlock, Option.some.injEq] at e1
      subst e1
      rw [hg] at hg'
      simp at hg'
      exact he hg'.2

theorem heap_kept {w w1 : World} {b : Nat} {o o' : Obj} {row : Option Nat} (h : w.heap[b]? = some o) (hg : (w.alloc o').grownBy w1 row) (hr : row ≠ some b) : w1.heap[b]? = some o := by
  have hlt := lt_of_block h
  rw [hg.block b (by simp; omega) (fun e => hr e.symm), Below.heap_alloc _ _ _ hlt, h]

/-- Behind the append to the processes, ahead of the store. -/
theorem Rec.mid {w w1 : World} {B bP bC : Nat} {vP vC : Value} {ps cs : List Nat} {o : Obj} (H : Rec w B bP bC vP vC ps cs) (hg : (w.alloc o).grownBy w1 vP.ownBlock) :
    w1.heap[bP]? = some (.cells #[vP] 24 (0, 0)) ∧ w1.heap[bC]? = some (.cells #[vC] 25 (0, 0)) ∧ w1.ownsRow B 30 1 vC cs.length (cs.map fun (t : Nat) => Value.int .u64 t) ∧ Below B w w1 :=
  ⟨heap_kept H.cP hg (own_ne H.oP H.cP (by decide)), heap_kept H.cC hg (own_ne H.oP H.cC (by decide)), (H.oC.alloc o).kept hg (own_ne_own H.oC H.oP (by decide)),
    ((Below.refl B w).alloc H.hB o).grown hg (by simp; have := H.hB; omega) (fun k hk => (H.oP.lt k hk).1)⟩

theorem Rec.stepP {w w1 : World} {B bP bC p : Nat} {vP vC v' : Value} {ps cs : List Nat} {o : Obj} (H : Rec w B bP bC vP vC ps cs) (hg : (w.alloc o).grownBy w1 vP.ownBlock)
    (ho : w1.ownsRow B 3 1 v' (ps.length + 1) ((ps.map fun (t : Nat) => Value.int .i64 t) ++ [.int .i64 p])) :
    Rec (w1.setCell ⟨bP, 0, none⟩ v') B bP bC v' vC (ps ++ [p]) cs ∧ Below B w (w1.setCell ⟨bP, 0, none⟩ v') := by
  obtain ⟨h1, h2, h3, h4⟩ := H.mid hg
  have hne : bC ≠ bP := by
    rintro rfl
    rw [h1] at h2
    simp at h2
  refine ⟨⟨?_, H.hP, H.hC, one_setCell h1, ?_, ?_, ?_⟩, h4.setCell H.hP _⟩
  · have := h4.size; have := H.hB
    simp [World.setCell]; omega
  · rw [Below.heap_setCell _ _ _ _ hne, h2]
  · have e : (ps ++ [p]).map (fun (t : Nat) => Value.int .i64 t) = (ps.map fun (t : Nat) => Value.int .i64 t) ++ [.int .i64 p] := by simp
    rw [e, List.length_append]
    exact ownsRow_setCell_other ho (own_ne ho h1 (by decide)) _
  · exact ownsRow_setCell_other h3 (own_ne h3 h1 (by decide)) _

theorem Rec.midC {w w1 : World} {B bP bC : Nat} {vP vC : Value} {ps cs : List Nat} {o : Obj} (H : Rec w B bP bC vP vC ps cs) (hg : (w.alloc o).grownBy w1 vC.ownBlock) :
    w1.heap[bP]? = some (.cells #[vP] 24 (0, 0)) ∧ w1.heap[bC]? = some (.cells #[vC] 25 (0, 0)) ∧ w1.ownsRow B 3 1 vP ps.length (ps.map fun (t : Nat) => Value.int .i64 t) ∧ Below B w w1 :=
  ⟨heap_kept H.cP hg (own_ne H.oC H.cP (by decide)), heap_kept H.cC hg (own_ne H.oC H.cC (by decide)), (H.oP.alloc o).kept hg (own_ne_own H.oP H.oC (by decide)),
    ((Below.refl B w).alloc H.hB o).grown hg (by simp; have := H.hB; omega) (fun k hk => (H.oC.lt k hk).1)⟩

theorem Rec.stepC {w w1 : World} {B bP bC c : Nat} {vP vC v' : Value} {ps cs : List Nat} {o : Obj} (H : Rec w B bP bC vP vC ps cs) (hg : (w.alloc o).grownBy w1 vC.ownBlock)
    (ho : w1.ownsRow B 30 1 v' (cs.length + 1) ((cs.map fun (t : Nat) => Value.int .u64 t) ++ [.int .u64 c])) :
    Rec (w1.setCell ⟨bC, 0, none⟩ v') B bP bC vP v' ps (cs ++ [c]) ∧ Below B w (w1.setCell ⟨bC, 0, none⟩ v') := by
  obtain ⟨h1, h2, h3, h4⟩ := H.midC hg
  have hne : bP ≠ bC := by
    rintro rfl
    rw [h1] at h2
    simp at h2
  refine ⟨⟨?_, H.hP, H.hC, ?_, one_setCell h2, ?_, ?_⟩, h4.setCell H.hC _⟩
  · have := h4.size; have := H.hB
    simp [World.setCell]; omega
  · rw [Below.heap_setCell _ _ _ _ hne, h1]
  · exact ownsRow_setCell_other h3 (own_ne h3 h2 (by decide)) _
  · have e : (cs ++ [c]).map (fun (t : Nat) => Value.int .u64 t) = (cs.map fun (t : Nat) => Value.int .u64 t) ++ [.int .u64 c] := by simp
    rw [e, List.length_append]
    exact ownsRow_setCell_other ho (own_ne ho h2 (by decide)) _

theorem own_shape {w : World} {B e size : Nat} {v : Value} {n : Nat} {xs : List Value} (h : w.ownsRow B e size v (n + 1) xs) : ∃ g cap, v = .slice (some ⟨g, 0, none⟩) (n + 1) cap := by
  rcases h.2 with ⟨_, h0⟩ | ⟨g, cap, cur, rfl, _⟩
  · omega
  · exact ⟨g, cap, rfl⟩

set_option maxHeartbeats 800000 in
theorem record_any (B bP bC : Nat) (vP vC : Value) (ps cs : List Nat) (p c : Nat) (w : World) (H : Rec w B bP bC vP vC ps cs) (hlen : ps.length ≤ 65536) (hlenC : cs.length ≤ 65536) :
    Calls Tryf.prog 14 #[.int .i64 p, .int .u64 c, .pointer (some ⟨bP, 0, none⟩), .pointer (some ⟨bC, 0, none⟩)] w fun e w' =>
      e = .returned (.tuple #[]) ∧ (∃ vP' vC', Rec w' B bP bC vP' vC' (ps ++ [p]) (cs ++ [c])) ∧ Below B w w' := by
  obtain ⟨i0, hi, hz0, hz1, hz2⟩ := info_parts info3
  obtain ⟨i1, ki, kz0, kz1, kz2⟩ := info_parts info30
  have cellP := cell_of_one H.cP
  have hB := H.hB
  have hwit := H
  go_enter Tryf.func14, Tryf.ntmps14
  go_wp2_with (at_builtin; refine wpList_append_own _ rfl _ _ 24 rfl B 3 i0 (.int .i64 0) 1 8 Tryf.underlying24 hi hz0 hz1 hz2 rfl (by decide) _ _ _ rfl (H.oP.alloc _) ⟨w.heap.size, 0, none⟩ 1 1 [.int .i64 p] rfl rfl ?c1 ?c2 ?c3 ?c4 ?c5 ?_)
  case c1 => exact cell_one_new _ _ _
  case c2 => intro u hu; simp at hu; subst hu; rfl
  case c3 => unfold maxLen; omega
  case c4 => omega
  case c5 => simp; omega
  intro v1 w1 hown1 hgrow1 _
  obtain ⟨g1, cap1, rfl⟩ := own_shape hown1
  obtain ⟨m1, m2, _, _⟩ := H.mid hgrow1
  obtain ⟨H1, hb1⟩ := H.stepP hgrow1 hown1
  have cell1 := cell_of_one m1
  have free1 := free_of_one m1
  have cell2 := cell_of_one H1.cC
  clear m1 m2 hown1 hgrow1 cellP H hwit
  have hB1 := H1.hB
  go_wp2_with (at_builtin; refine wpList_append_own _ rfl _ _ 25 rfl B 30 i1 (.int .u64 0) 1 8 Tryf.underlying25 ki kz0 kz1 kz2 rfl (by decide) _ _ _ rfl (H1.oC.alloc _) ⟨_, 0, none⟩ 1 1 [.int .u64 c] rfl rfl ?d1 ?d2 ?d3 ?d4 ?d5 ?_)
  case d1 =>
    rw [show w1.heap.size = (w1.setCell ⟨bP, 0, none⟩ (.slice (some ⟨g1, 0, none⟩) (ps.length + 1) cap1)).heap.size from by simp [World.setCell]]
    exact cell_one_new _ _ _
  case d2 => intro u hu; simp at hu; subst hu; rfl
  case d3 => unfold maxLen; omega
  case d4 => omega
  case d5 => simp; simp at hB1; omega
  intro v2 w2 hown2 hgrow2 _
  obtain ⟨g2, cap2, rfl⟩ := own_shape hown2
  obtain ⟨m1, m2, _, _⟩ := H1.midC hgrow2
  obtain ⟨H2, hb2⟩ := H1.stepC hgrow2 hown2
  have cell3 := cell_of_one m2
  have free3 := free_of_one m2
  clear m1 m2 hown2 hgrow2 cell1 free1 cell2 H1
  go_wp2
  go_end0
  exact ⟨rfl, ⟨_, _, H2⟩, hb1.trans hb2⟩
end Go.Proofs.Qxb6616560aFmt
