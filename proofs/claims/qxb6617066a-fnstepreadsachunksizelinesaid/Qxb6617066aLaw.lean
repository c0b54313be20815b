/-
  The walk over FnStepReadsAChunkSizeLine.
-/
import Derived.Test.Qxb6617066aPlain
import Derived.Laws.AppendOwnNone
import Derived.Lib.EndianBits
import Derived.Deep.DeepCutAuto
import Derived.Deep.CutBlock
namespace Go.Proofs.Qxb6617066a
open Go.RowKit
set_option linter.unusedVariables false

theorem In.below {w w' : World} {v : Value} {bs : List Nat} (h : In w v bs) (hb : Below w.heap.size w w') : In w' v bs := by
  rcases h with h | ⟨x, c, rfl, hc⟩
  · exact .inl h
  · refine .inr ⟨x, c, rfl, fun j hj => ?_⟩
    rw [hb.cell (World.block_lt_of_cell? w _ (hc j hj)), hc j hj]

theorem In.shape {w : World} {v : Value} {bs : List Nat} (h : In w v bs) : ∃ a c, v = .slice a bs.length c := by
  rcases h with ⟨rfl, rfl⟩ | ⟨x, c, rfl, _⟩
  · exact ⟨none, 0, rfl⟩
  · exact ⟨_, _, rfl⟩

/-- The line as far as it is made. -/
def Own (B : Nat) (w : World) (v : Value) (xs : List Nat) : Prop := w.ownsRow B 5 1 v xs.length (xs.map fun (t : Nat) => Value.int .u8 t)

theorem shift_zero (n wd : Nat) (h : n < 16 ^ wd) : (n : Int) / 2 ^ (4 * wd) = 0 := by
  have e : (16 : Nat) ^ wd = 2 ^ (4 * wd) := by rw [show (16 : Nat) = 2 ^ 4 from rfl, ← Nat.pow_mul]
  rw [e] at h
  have h2 : n / 2 ^ (4 * wd) = 0 := Nat.div_eq_of_lt h
  have h3 : (n : Int) / 2 ^ (4 * wd) = ((n / 2 ^ (4 * wd) : Nat) : Int) := by push_cast; rfl
  rw [h3, h2]; rfl

theorem info5 : (Try.prog.info? 5).map (fun i => (i.zero, i.size, i.bytes)) = some (some (.int .u8 0), 1, 1) := by kernel_rfl

theorem Own.below {B : Nat} {w w' : World} {v : Value} {xs : List Nat} (h : Own B w v xs) (hb : Below w.heap.size w w') : Own B w' v xs := by
  have hg : w.grownBy w' none := ⟨hb.os, hb.tape, hb.output, hb.size, fun k hk _ => hb.block k hk⟩
  exact World.ownsRow.kept h hg (by cases v.ownBlock <;> simp)

theorem wp_append_in {w : World} {ops : Array Oper} {rest : List Oper} {o : Oper} {a : Act} {Q : Exit → Act → World → Prop} (hgd : o.guard = none) (s x : Operand)
    (ho : o.op = .call { callee := .builtin .append, args := #[s, x], argTypes := #[22, 22] }) (B : Nat) (v v0 : Value) (bs xs : List Nat) (hs : a.eval s = v0) (hx : a.eval x = v)
    (hown : Own B w v0 xs) (hin : In w v bs) (hB : B ≤ w.heap.size) (hlen : xs.length + bs.length ≤ 2097152)
    (h : ∀ v' w', Own B w' v' (xs ++ bs) → Below B w w' → wpList Try.prog ops Q rest (a.put o.dst v') w') : wpList Try.prog ops Q (o :: rest) a w := by
  obtain ⟨i0, hi, hz0, hz1, hz2⟩ := info_parts info5
  rcases hin with ⟨rfl, rfl⟩ | ⟨ad, c, rfl, hcell⟩
  · refine wpList_append_own_none hgd s x 22 ho B 5 i0 1 Try.underlying22 hi v0 _ _ hs hown hx ?_
    exact h v0 w (by simpa using hown) (Below.refl _ _)
  · refine wpList_append_own w hgd s x 22 ho B 5 i0 (.int .u8 0) 1 1 Try.underlying22 hi hz0 hz1 hz2 rfl (by decide) v0 _ _ hs hown ad bs.length c (bs.map fun (t : Nat) => Value.int .u8 t) hx (by simp) ?_ ?_ (by unfold maxLen; omega) (by omega) hB ?_
    · intro j z hj
      have hjl : j < bs.length := by
        have := (List.getElem?_eq_some_iff.1 hj).1
        simpa using this
      have e : z = .int .u8 (bs[j] : Nat) := by simpa [hjl] using hj.symm
      rw [e]
      exact hcell j hjl
    · intro z hz
      rw [List.mem_map] at hz
      obtain ⟨_, _, rfl⟩ := hz
      rfl
    · intro v' w' hown' hg _
      refine h v' w' ?_ ((Below.refl _ _).grown hg hB (fun k hk => (World.ownsRow.lt hown k hk).1))
      unfold Own
      rw [List.map_append, List.length_append]
      exact hown'

theorem and15 (n m : Nat) (hn : n < 18446744073709551616) : bits BinOp.and IntKind.u64 ((n : Int) / 2 ^ (4 * m)) 15 % 256 = ((n / 16 ^ m % 16 : Nat) : Int) := by
  have e : (16 : Nat) ^ m = 2 ^ (4 * m) := by rw [show (16 : Nat) = 2 ^ 4 from rfl, ← Nat.pow_mul]
  have h3 : (n : Int) / 2 ^ (4 * m) = ((n / 2 ^ (4 * m) : Nat) : Int) := by push_cast; rfl
  have hle : n / 2 ^ (4 * m) ≤ n := Nat.div_le_self _ _
  rw [h3, e]
  generalize n / 2 ^ (4 * m) = t at *
  rw [show (15 : Int) = 2 ^ 4 - 1 from rfl, bits_mask .u64 64 (by decide) wraps_u64 4 (by decide) (t : Int) (by omega) (by omega)]
  omega

theorem and1 (u k : Nat) (hu : u < 65536) : (bits BinOp.and IntKind.u16 ((u : Int) / 2 ^ k) 1 == 1) = (u / 2 ^ k % 2 == 1) := by
  have h3 : (u : Int) / 2 ^ k = ((u / 2 ^ k : Nat) : Int) := by push_cast; rfl
  have hle : u / 2 ^ k ≤ u := Nat.div_le_self _ _
  rw [h3]
  generalize u / 2 ^ k = t at *
  have e : bits BinOp.and IntKind.u16 (t : Int) 1 = (t : Int) % 2 := by
    have := bits_mask .u16 16 (by decide) wraps_u16 1 (by decide) (t : Int) (by omega) (by omega)
    simpa using this
  rw [e, Bool.eq_iff_iff]
  simp only [beq_iff_eq]
  omega

theorem hexDigit_dig (n wd u k : Nat) (w : World) : Calls Try.prog 14 #[.int .u8 ((n / 16 ^ (wd - 1 - k) % 16 : Nat) : Int), .bool (u / 2 ^ k % 2 == 1)] w fun e w' => e = .returned (.int .u8 (dig n wd u k)) ∧ w' = w :=
  hexDigit_any _ _ (Nat.mod_lt _ (by omega)) w

theorem in_one (w : World) (c : Nat) : In (w.alloc (.cells #[.int .u8 c] 5)) (.slice (some ⟨w.heap.size, 0, none⟩) 1 1) [c] := by
  refine .inr ⟨_, _, rfl, fun j hj => ?_⟩
  exact cell_one_new w (.int .u8 c) 5 j _ (by simp at hj; subst hj; rfl)

theorem own_line {B : Nat} {w : World} {v : Value} {xs : List Nat} (h : Own B w v xs) (h0 : 0 < xs.length) :
    ∃ g cap, v = .slice (some ⟨g, 0, none⟩) xs.length cap ∧ g < w.heap.size ∧ ∀ j (hj : j < xs.length), w.cell? ⟨g, j, none⟩ = some (.int .u8 (xs[j] : Nat)) := by
  have h' := h
  rcases h.2 with ⟨_, h1⟩ | ⟨g, cap, cur, rfl, _, hg, _⟩
  · omega
  · refine ⟨g, cap, rfl, lt_of_block hg, fun j hj => ?_⟩
    rw [World.ownsRow.cellAt h' j (by omega)]
    simp [hj]

theorem blank_all {bs : List Nat} (h : blankB bs = true) : ∀ c ∈ bs, c = 32 ∨ c = 9 := by
  unfold blankB at h
  rw [List.all_eq_true] at h
  intro c hc
  simpa using h c hc

theorem lf_none {bs : List Nat} (h : lfB bs = false) : ∀ c ∈ bs, c ≠ 10 := by
  unfold lfB at h
  rw [List.any_eq_false] at h
  intro c hc
  simpa using h c hc

set_option maxRecDepth 100000 in
set_option maxHeartbeats 4000000 in
theorem law_main (n wd u : Nat) (v3 v4 v6 : Value) (ld tr ex : List Nat) (x y : Bool) (w : World) (h3 : In w v3 ld) (h4 : In w v4 tr) (h6 : In w v6 ex) (l3 : ld.length ≤ 262144) (l4 : tr.length ≤ 262144) (l6 : ex.length ≤ 262144)
    (hw1 : 1 ≤ wd) (hw2 : wd ≤ 16) (hn : n < 16 ^ wd) (hn64 : n < 18446744073709551616) (hu : u < 65536) (b3 : blankB ld = true) (b4 : blankB tr = true) (b6 : lfB ex = false) (e6 : ∀ c ∈ ex, c < 256) :
    Calls Try.prog 5 #[.int .u64 n, .int .i64 wd, .int .u16 u, v3, v4, .bool x, v6, .bool y] w fun e w' => e = .returned (.bool true) ∧ Below w.heap.size w w' := by
  obtain ⟨a3, c3, rfl⟩ := h3.shape
  obtain ⟨a4, c4, rfl⟩ := h4.shape
  obtain ⟨a6, c6, rfl⟩ := h6.shape
  have H3 := hide h3
  have H4 := hide h4
  have H6 := hide h6
  have Hn := hide hn
  have B3 := hide b3
  have B4 := hide b4
  have B6 := hide b6
  have E6 := hide e6
  clear h3 h4 h6 hn b3 b4 b6 e6
  go_enter Try.func5, Try.ntmps5
  go_upto_region 7 with (go_at_call 11; refine (bytes_yes _ _ _ _ _ _ _ _ _ _ _ _ _ _ _ (by omega)).mono ?_; rintro e w' ⟨rfl, rfl⟩)
  go_cut [61] (fun o wx => w' = wx ∧ o = .bool false)
  case first =>
    by_cases h16 : wd < 16
    · have hd : decide ((wd : Int) < 16) = true := by simp; omega
      have hz := shift_zero n wd Hn.out
      go_wp2
      go_meet
      exact ⟨rfl, rfl⟩
    · have hd : decide ((wd : Int) < 16) = false := by simp; omega
      go_wp2_with fail
      go_meet
      exact ⟨rfl, rfl⟩
  case rest =>
    obtain ⟨hwx, rfl⟩ := hcut
    subst hwx
    go_wp2_with fail
    refine (allBlank_any _ ld _ H3.out (by omega)).mono ?_
    rintro e1 wa ⟨rfl, hwa⟩
    subst hwa
    rw [B3.out]
    go_wp2_with fail
    refine (allBlank_any _ tr _ H4.out (by omega)).mono ?_
    rintro e2 wb ⟨rfl, hwb⟩
    subst hwb
    rw [B4.out]
    go_wp2_with fail
    refine (hasByte_any _ ex _ H6.out (by omega)).mono ?_
    rintro e3 wZ ⟨rfl, hwZ⟩
    subst hwZ
    rw [B6.out]
    obtain ⟨i0, hi, hz0, hz1, hz2⟩ := info_parts info5
    go_upto_region 12 with (at_make; refine wpList_make_own _ rfl _ _ 22 rfl wZ.heap.size 5 i0 (.int .u8 0) 1 Try.underlying22 hi hz0 hz1 _ _ _ (ld.length + wd + tr.length + 1 + ex.length + 2) rfl rfl (by push_cast; omega) (by rw [hz2]; omega) (by unfold maxLen; omega) (Nat.le_refl _) ?_; intro w1 hown1 hg1)
    have hB1 : Below wZ.heap.size wZ w1 := (Below.refl _ _).grown hg1 (Nat.le_refl _) (fun _ h => by cases h)
    have HO1 : Hid (Own wZ.heap.size w1 (.slice (some ⟨wZ.heap.size, 0, none⟩) 0 (ld.length + wd + tr.length + 1 + ex.length + 2)) []) := hown1
    have H31 := hide (H3.out.below hB1)
    clear hown1 hg1
    go_cut [17] (fun v wx => Own wZ.heap.size wx v ld ∧ Below wZ.heap.size wZ wx)
    case first =>
      go_wp2_with (at_builtin; refine wp_append_in rfl _ _ rfl wZ.heap.size _ _ ld [] rfl rfl HO1.out H31.out hB1.size (by simp; omega) ?_; intro v2 w2 hown2 hB2)
      go_meet
      exact ⟨by simpa using hown2, hB1.trans hB2⟩
    case rest =>
      obtain ⟨hown2, hB2⟩ := hcut
      have HO2 := hide hown2
      clear hown2 HO1 H31 hB1
      go_wp2_with fail
      go_loopw [17, 18] (fun v i wr => ∃ k : Nat, i = .int .i64 k ∧ k ≤ wd ∧ Own wZ.heap.size wr v (ld ++ digs n wd u k) ∧ Below wZ.heap.size wZ wr) (fun _ i _ => wd - (intOf i).toNat)
      case atStart => exact ⟨0, rfl, Nat.zero_le _, by simpa [digs] using HO2.out, hB2⟩
      case round =>
        obtain ⟨k, rfl, hk, hown, hB⟩ := hrel
        have HO := hide hown
        clear hown
        by_cases hlt : k < wd
        · go_wp2_with fail
          rw [and15 n (wd - 1 - k) hn64, and1 u k hu]
          refine (hexDigit_dig n wd u k wr).mono ?_
          rintro e4 w4 ⟨rfl, hw4⟩
          subst hw4
          have hdk := dig_lt n wd u k
          obtain ⟨dk, hdkk⟩ : ∃ dk, dig n wd u k = dk := ⟨_, rfl⟩
          have HDK := hide hdkk
          rw [hdkk]
          clear hdkk hdk
          have hBs := hB.size
          go_wp2_with (at_builtin; refine wp_append_in rfl _ _ rfl wZ.heap.size _ _ [dk] (ld ++ digs n wd u k) rfl rfl (HO.out.below ((Below.refl _ _).alloc (Nat.le_refl _) _)) (in_one _ dk) (by simp; omega) (by simp [digs_length]; omega) ?_; intro v5 w5 hown5 hB5)
          have HO5 := hide hown5
          clear hown5
          go_wp2
          go_roundw
          case rel =>
            refine ⟨k + 1, by go_num, by omega, ?_, (hB.alloc hBs _).trans hB5⟩
            rw [digs_succ, HDK.out, ← List.append_assoc]
            exact HO5.out
          case measure => simp [intOf]; omega
        · have hkw : k = wd := by omega
          have HO3 : Hid (Own wZ.heap.size wr u17 (ld ++ digs n wd u wd)) := by have h' := HO.out; rw [hkw] at h'; exact h'
          have H4r := hide (H4.out.below hB)
          have H6r := hide (H6.out.below hB)
          clear hkw HO HO2
          go_upto_region 18 with fail
          go_cut [17] (fun v wx => Own wZ.heap.size wx v ((ld ++ digs n wd u wd) ++ tr) ∧ Below wZ.heap.size wZ wx)
          case first =>
            go_wp2_with (at_builtin; refine wp_append_in rfl _ _ rfl wZ.heap.size _ _ tr (ld ++ digs n wd u wd) rfl rfl HO3.out H4r.out hB.size (by simp [digs_length]; omega) ?_; intro v6 w6 hown6 hB6)
            go_meet
            exact ⟨hown6, hB.trans hB6⟩
          case rest =>
            obtain ⟨hown6, hB6⟩ := hcut
            have HO6 := hide hown6
            have H66 := hide (H6.out.below hB6)
            have hB6s := hB6.size
            clear hown6 HO3 H4r H6r hB
            go_upto_if 119 with fail
            go_cut [17] (fun v wx => Own wZ.heap.size wx v (((ld ++ digs n wd u wd) ++ tr) ++ extOf x ex) ∧ Below wZ.heap.size wZ wx)
            case first =>
              cases x
              · go_wp2_with fail
                go_meet
                exact ⟨by simpa [extOf] using HO6.out, hB6⟩
              · have Hal := hide (HO6.out.below ((Below.refl wc.heap.size wc).alloc (Nat.le_refl _) (.cells #[.int .u8 ((59 : Nat) : Int)] 5)))
                have Hin := hide (in_one wc 59)
                have hsz : wZ.heap.size ≤ (wc.alloc (.cells #[.int .u8 ((59 : Nat) : Int)] 5)).heap.size := by simp; omega
                have hbA := hide (hB6.alloc hB6s (.cells #[.int .u8 ((59 : Nat) : Int)] 5))
                go_upto_region 21 with (at_builtin; refine wp_append_in rfl _ _ rfl wZ.heap.size _ _ [59] ((ld ++ digs n wd u wd) ++ tr) rfl rfl Hal.out Hin.out hsz (by simp [digs_length]; omega) ?_; intro v7 w7 hown7 hB7)
                have hB07 := hbA.out.trans hB7
                have HO7 := hide hown7
                have H67 := hide (H6.out.below hB07)
                have hB07s := hB07.size
                clear hown7
                go_wp2_with (at_builtin; refine wp_append_in rfl _ _ rfl wZ.heap.size _ _ ex (((ld ++ digs n wd u wd) ++ tr) ++ [59]) rfl rfl HO7.out H67.out hB07s (by simp [digs_length]; omega) ?_; intro v8 w8 hown8 hB8)
                go_meet
                exact ⟨by simpa [extOf] using hown8, hB07.trans hB8⟩
            case rest =>
              obtain ⟨hown7, hB7⟩ := hcut
              have HO7 := hide hown7
              have hB7s := hB7.size
              have hle : (extOf x ex).length ≤ ex.length + 1 := by unfold extOf; split <;> simp
              clear hown7 HO6 H66 hB6 hB6s
              go_upto_if 126 with fail
              go_cut [17] (fun v wx => Own wZ.heap.size wx v ((((ld ++ digs n wd u wd) ++ tr) ++ extOf x ex) ++ crOf y) ∧ Below wZ.heap.size wZ wx)
              case first =>
                cases y
                · go_wp2_with fail
                  go_meet
                  exact ⟨by simpa [crOf] using HO7.out, hB7⟩
                · have Hal := hide (HO7.out.below ((Below.refl wc.heap.size wc).alloc (Nat.le_refl _) (.cells #[.int .u8 ((13 : Nat) : Int)] 5)))
                  have Hin := hide (in_one wc 13)
                  have hsz : wZ.heap.size ≤ (wc.alloc (.cells #[.int .u8 ((13 : Nat) : Int)] 5)).heap.size := by simp; omega
                  have hbA := hide (hB7.alloc hB7s (.cells #[.int .u8 ((13 : Nat) : Int)] 5))
                  go_wp2_with (at_builtin; refine wp_append_in rfl _ _ rfl wZ.heap.size _ _ [13] (((ld ++ digs n wd u wd) ++ tr) ++ extOf x ex) rfl rfl Hal.out Hin.out hsz (by simp [digs_length]; omega) ?_; intro v8 w8 hown8 hB8)
                  go_meet
                  exact ⟨by simpa [crOf] using hown8, hbA.out.trans hB8⟩
              case rest =>
                obtain ⟨hown8, hB8⟩ := hcut
                have hB8s := hB8.size
                have hlc : (crOf y).length ≤ 1 := by unfold crOf; split <;> simp
                have Hal := hide (hown8.below ((Below.refl wc.heap.size wc).alloc (Nat.le_refl _) (.cells #[.int .u8 ((10 : Nat) : Int)] 5)))
                have Hin := hide (in_one wc 10)
                have hsz : wZ.heap.size ≤ (wc.alloc (.cells #[.int .u8 ((10 : Nat) : Int)] 5)).heap.size := by simp; omega
                have hbA := hide (hB8.alloc hB8s (.cells #[.int .u8 ((10 : Nat) : Int)] 5))
                clear hown8 HO7 hB7 hB7s
                go_wp2_with (at_builtin; refine wp_append_in rfl _ _ rfl wZ.heap.size _ _ [10] ((((ld ++ digs n wd u wd) ++ tr) ++ extOf x ex) ++ crOf y) rfl rfl Hal.out Hin.out hsz (by simp [digs_length]; omega) ?_; intro v9 w9 hown9 hB9)
                have hB09 := hbA.out.trans hB9
                have hB9s := hB09.size
                have e9 : ((((ld ++ digs n wd u wd) ++ tr) ++ extOf x ex) ++ crOf y) ++ [10] = line n wd u ld tr ex x y := by
                  unfold line
                  simp only [List.append_assoc]
                rw [e9] at hown9
                have hll : (line n wd u ld tr ex x y).length ≤ 1048576 := by rw [← e9]; simp [digs_length]; omega
                obtain ⟨g, cap, rfl, hgB, hcells⟩ := own_line hown9 (by rw [← e9]; simp; omega)
                have HCl := hide hcells
                have hblank3 := blank_all B3.out
                have hblank4 := blank_all B4.out
                have hlf := lf_none B6.out
                have hby := hide (line_bytes n wd u ld tr ex x y hblank3 hblank4 E6.out)
                have hgs : g < w9.heap.size := hgB
                clear e9 hown9 Hal Hin hsz hbA hB9 hB8 hB8s hcells
                go_wp2_with fail
                refine (makeDelim w9).mono ?_
                rintro e10 w10 ⟨rfl, hD10, hB10⟩
                have HD10 := hide hD10
                have hcell10 := hide (fun j hj => (hB10.cell (p := ⟨g, j, none⟩) hgs).trans (HCl.out j hj))
                have hI : Inv (0, 0, 0) := ⟨by show 0 < 16 ^ 0; omega, by show 0 ≤ 15; omega⟩
                have HI := hide hI
                have hB010 := hB09.trans (hB10.mono hB9s)
                clear hD10 hI HCl
                by_cases h16 : wd = 16
                · subst h16
                  obtain ⟨hi, lq, hgo, hno⟩ := line_no n u ld tr ex x y Hn.out hblank3
                  have HST := hide (stepAll_no w9.heap.size g cap _ (ld.length + 15) (0, 0, 0) (lq, 1, 15) 0 w10 HD10.out HI.out hgs hll hcell10.out hby.out hi hgo (by show 1 ≤ 4; omega) hno)
                  generalize line n 16 u ld tr ex x y = L at *
                  clear hgo hno hcell10 hby
                  have HB3 := hide hblank3
                  have HB4 := hide hblank4
                  have HLF := hide hlf
                  clear hblank3 hblank4 hlf
                  go_wp2_with (go_at_call 16; refine HST.out.mono ?_; rintro e11 w11 ⟨rfl, hB11⟩)
                  go_ret
                  exact ⟨rfl, hB010.trans (hB11.mono hB9s)⟩
                · have hgo := line_yes n wd u ld tr ex x y hw1 (by omega) Hn.out hblank3 hblank4 hlf
                  have HST := hide (stepAll_yes w9.heap.size g cap _ (0, 0, 0) _ 0 w10 HD10.out HI.out hgs hll hcell10.out hby.out hgo)
                  have hn63 : n < 1152921504606846976 := by
                    have h1 : 16 ^ wd ≤ 16 ^ 15 := Nat.pow_le_pow_right (by omega) (by omega)
                    have := Hn.out
                    omega
                  have hw16 : ((wd : Int) == 16) = false := by simp; omega
                  generalize line n wd u ld tr ex x y = L at *
                  have hLL : ((L.length : Int) != L.length) = false := by simp
                  clear hgo hcell10 hby hblank3 hblank4 hlf h16
                  by_cases hn0 : n = 0
                  · subst hn0
                    have ef : fin 0 wd = (0, 8, 0) := rfl
                    rw [ef] at HST
                    clear ef
                    go_wp2_with (go_at_call 16; refine HST.out.mono ?_; rintro e11 w11 ⟨rfl, ⟨n11, hD11⟩, hB11⟩)
                    have HD11 := hide hD11
                    clear hD11
                    go_wp2_with (first | (go_at_call 17; refine (ended_any _ _ _ _ _ _ HD11.out).mono ?_; rintro e12 w12 ⟨rfl, hw12⟩; subst hw12) | (go_at_call 18; refine (state_any _ _ _ _ _ _ HD11.out).mono ?_; rintro e13 w13 ⟨rfl, hw13⟩; subst hw13) | (go_at_call 19; refine (left_any _ _ _ _ _ _ HD11.out).mono ?_; rintro e14 w14 ⟨rfl, hw14⟩; subst hw14))
                    go_ret
                    exact ⟨rfl, hB010.trans (hB11.mono hB9s)⟩
                  · have ef : fin n wd = (n, 5, wd) := if_neg hn0
                    rw [ef] at HST
                    have hn0' : ((n : Int) == 0) = false := by simp; omega
                    clear ef hn0
                    go_wp2_with (go_at_call 16; refine HST.out.mono ?_; rintro e11 w11 ⟨rfl, ⟨n11, hD11⟩, hB11⟩)
                    have HD11 := hide hD11
                    clear hD11
                    go_wp2_with (first | (go_at_call 17; refine (ended_any _ _ _ _ _ _ HD11.out).mono ?_; rintro e12 w12 ⟨rfl, hw12⟩; subst hw12) | (go_at_call 18; refine (state_any _ _ _ _ _ _ HD11.out).mono ?_; rintro e13 w13 ⟨rfl, hw13⟩; subst hw13) | (go_at_call 19; refine (left_any _ _ _ _ _ _ HD11.out).mono ?_; rintro e14 w14 ⟨rfl, hw14⟩; subst hw14))
                    go_ret
                    exact ⟨rfl, hB010.trans (hB11.mono hB9s)⟩
end Go.Proofs.Qxb6617066a
