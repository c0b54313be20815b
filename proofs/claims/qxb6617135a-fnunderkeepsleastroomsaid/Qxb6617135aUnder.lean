/-
  (Room).under, ZZRoomUnder, zzClampUnder.
-/
import Derived.Test.Qxb6617135aOrd
import Derived.Deep.WholeRow
import Derived.Laws.CopyOwn
namespace Go.Proofs.Qxb6617135a
open Go.RowKit
set_option linter.unusedVariables false

theorem info25 : (Try.prog.info? 25).map (·.size) = some 2 := by kernel_rfl

theorem one2 (x : Nat) (l : ByteArray) : (#[Value.float .f64 x, Value.string l]).all (·.oneCell') = true := by simp [Value.oneCell']

theorem two_at (w : World) (o o' : Obj) : ((w.alloc o).alloc o').heap[w.heap.size + 1]? = some o' := by
  have h := heap_alloc_new (w.alloc o) o'
  rw [show (w.alloc o).heap.size = w.heap.size + 1 by simp] at h
  exact h

theorem two_set (w : World) (o : Obj) (c c' : Array Value) (t : TypeId) : ((w.alloc o).alloc (.cells c t)).setRow (w.heap.size + 1) c' = (w.alloc o).alloc (.cells c' t) := by
  have h := World.setRow_alloc_new (w.alloc o) c c' t
  rw [show (w.alloc o).heap.size = w.heap.size + 1 by simp] at h
  exact h

set_option maxRecDepth 100000 in
set_option maxHeartbeats 800000 in
theorem under_keep (r a : Nat) (rl la : ByteArray) (w : World) (u v : Int) (hr : val r = some u) (ha : val a = some v) (h : u ≤ v) :
    Calls Try.prog 7 #[.agg #[.float .f64 r, .string rl], .float .f64 a, .string la] w fun e w' => e = .returned (.agg #[.float .f64 r, .string rl]) ∧ Below w.heap.size w w' := by
  have ht : (FloatKind.f64.format.order a r == some .gt || FloatKind.f64.format.order a r == some .eq) = true := by
    rcases Int.lt_or_eq_of_le h with h1 | h1
    · have e : FloatKind.f64.format.order a r = _ := gt_of ha hr h1
      rw [e]; rfl
    · have e : FloatKind.f64.format.order a r = _ := eq_of ha hr h1.symm
      rw [e]; rfl
  clear hr ha h
  go_enter Try.func7, Try.ntmps7
  go_wp2_with (refine wpList_store_row rfl 25 _ _ rfl _ _ rfl rfl 25 _ (two_at _ _ _) info25 rfl (one2 _ _) ?_; rw [two_set])
  refine bodyPost_ret (results_cell_row (p := 6) (ty := 25) rfl _ _ (w.heap.size + 1) 25 _ (0, 0) _ rfl (two_at _ _ _) Try.underlying25 rfl info25) rfl ?_
  exact ⟨rfl, ((Below.refl _ _).alloc (Nat.le_refl _) _).alloc (by simp) _⟩

set_option maxRecDepth 100000 in
set_option maxHeartbeats 800000 in
theorem under_less (r a : Nat) (rl la : ByteArray) (w : World) (u v : Int) (hr : val r = some u) (ha : val a = some v) (h : v < u) :
    Calls Try.prog 7 #[.agg #[.float .f64 r, .string rl], .float .f64 a, .string la] w fun e w' => e = .returned (.agg #[.float .f64 (mx a), .string la]) ∧ Below w.heap.size w w' := by
  have ht : FloatKind.f64.format.order a r = some .lt := lt_of ha hr h
  have hm := fun w ts t => run_max_zero Try.prog w ts t ha
  clear hr ha h
  go_enter Try.func7, Try.ntmps7
  go_wp2_with (refine wpList_store_row rfl 25 _ _ rfl _ _ rfl rfl 25 _ (two_at _ _ _) info25 rfl (one2 _ _) ?_; rw [two_set])
  refine bodyPost_ret (results_cell_row (p := 6) (ty := 25) rfl _ _ (w.heap.size + 1) 25 _ (0, 0) _ rfl (two_at _ _ _) Try.underlying25 rfl info25) rfl ?_
  exact ⟨rfl, ((Below.refl _ _).alloc (Nat.le_refl _) _).alloc (by simp) _⟩

theorem clamp_neg (x : Nat) (v : Int) (w : World) (hx : val x = some v) (h : v < 0) :
    Calls Try.prog 6 #[.float .f64 x] w fun e w' => e = .returned (.float .f64 0) ∧ w' = w := by
  have ht : FloatKind.f64.format.order x 0 = some .lt := lt_of hx val_zero h
  clear hx
  go_enter Try.func6, Try.ntmps6
  go_wp2
  go_ret
  exact ⟨rfl, rfl⟩

theorem clamp_pos (x : Nat) (v : Int) (w : World) (hx : val x = some v) (h : 0 ≤ v) :
    Calls Try.prog 6 #[.float .f64 x] w fun e w' => e = .returned (.float .f64 x) ∧ w' = w := by
  have ht : (FloatKind.f64.format.order x 0 == some .lt) = false := by
    rcases Int.lt_or_eq_of_le h with h1 | h1
    · have e : FloatKind.f64.format.order x 0 = _ := gt_of hx val_zero h1
      rw [e]; rfl
    · have e : FloatKind.f64.format.order x 0 = _ := eq_of hx val_zero h1.symm
      rw [e]; rfl
  clear hx
  go_enter Try.func6, Try.ntmps6
  go_wp2
  go_ret
  exact ⟨rfl, rfl⟩

set_option maxRecDepth 100000 in
set_option maxHeartbeats 800000 in
/-- ZZRoomUnder hands on what (Room).under gives. -/
theorem zz_of (r a x : Nat) (rl la l : ByteArray) (w : World)
    (HU : Hid (∀ w, Calls Try.prog 7 #[.agg #[.float .f64 r, .string rl], .float .f64 a, .string la] w fun e w' => e = .returned (.agg #[.float .f64 x, .string l]) ∧ Below w.heap.size w w')) :
    Calls Try.prog 5 #[.agg #[.float .f64 r, .string rl], .float .f64 a, .string la] w fun e w' => e = .returned (.agg #[.float .f64 x, .string l]) ∧ Below w.heap.size w w' := by
  go_enter Try.func5, Try.ntmps5
  go_wp2_with (first
    | (refine wpList_store_row rfl 25 _ _ rfl _ _ rfl rfl 25 _ HG.out info25 rfl (one2 _ _) ?_)
    | (go_at_call 7
       refine (HU.out _).mono ?_
       rintro e w1 ⟨rfl, hB1⟩
       have HG : Hid (w1.heap[w.heap.size + 1]? = _) := (hB1.block _ (by simp)).trans (two_at _ _ _)))
  refine bodyPost_ret (results_cell_row (p := 6) (ty := 25) rfl _ _ (w.heap.size + 1) 25 _ (0, 0) _ rfl (setRow_heap _ _ _ _ _ _ HG.out) Try.underlying25 rfl info25) rfl ?_
  refine ⟨rfl, below_setRow ?_ (by omega) _⟩
  have h0 : Below w.heap.size w ((w.alloc (.cells #[.float .f64 r, .string rl] 25)).alloc (.cells #[.float .f64 0, .string { data := #[] }] 25)) := ((Below.refl _ _).alloc (Nat.le_refl _) _).alloc (by simp) _
  exact h0.trans (hB1.mono h0.size)

/-- What ZZRoomUnder leaves, said of what the words are worth. -/
theorem zz_any (r a : Nat) (rl la : ByteArray) (u v : Int) (hr : val r = some u) (ha : val a = some v) :
    ∃ (x : Nat) (z : Int) (l : ByteArray), val x = some z ∧ ((u ≤ v ∧ z = u ∧ l = rl) ∨ (v < u ∧ z = (if v < 0 then 0 else v) ∧ l = la)) ∧
      ∀ w, Calls Try.prog 5 #[.agg #[.float .f64 r, .string rl], .float .f64 a, .string la] w fun e w' => e = .returned (.agg #[.float .f64 x, .string l]) ∧ Below w.heap.size w w' := by
  by_cases h : u ≤ v
  · exact ⟨r, u, rl, hr, .inl ⟨h, rfl, rfl⟩, fun w => zz_of r a r rl la rl w (fun w => under_keep r a rl la w u v hr ha h)⟩
  · exact ⟨mx a, _, la, val_mx ha, .inr ⟨by omega, rfl, rfl⟩, fun w => zz_of r a (mx a) rl la la w (fun w => under_less r a rl la w u v hr ha (by omega))⟩

theorem clamp_any (x : Nat) (v : Int) (hx : val x = some v) :
    ∃ (c : Nat) (z : Int), val c = some z ∧ ((v < 0 ∧ z = 0) ∨ (0 ≤ v ∧ z = v)) ∧ ∀ w, Calls Try.prog 6 #[.float .f64 x] w fun e w' => e = .returned (.float .f64 c) ∧ w' = w := by
  by_cases h : v < 0
  · exact ⟨0, 0, val_zero, .inl ⟨h, rfl⟩, fun w => clamp_neg x v w hx h⟩
  · exact ⟨x, v, hx, .inr ⟨by omega, rfl⟩, fun w => clamp_pos x v w hx (by omega)⟩

set_option maxRecDepth 100000 in
set_option maxHeartbeats 800000 in
theorem bytes_ok (f g h : Nat) (s1 s2 s3 : ByteArray) (w : World) (h1 : s1.size ≤ 262144) (h2 : s2.size ≤ 262144) (h3 : s3.size ≤ 262144) :
    Calls Try.prog 4 #[.float .f64 f, .string s1, .float .f64 g, .string s2, .float .f64 h, .string s3] w fun e w' => e = .returned (.bool true) ∧ w' = w := by
  go_enter Try.func4, Try.ntmps4
  go_wp2
  go_ret
  exact ⟨rfl, rfl⟩

set_option maxRecDepth 100000 in
set_option maxHeartbeats 800000 in
theorem bytes_any (f g h : Nat) (s1 s2 s3 : ByteArray) (w : World) :
    Calls Try.prog 4 #[.float .f64 f, .string s1, .float .f64 g, .string s2, .float .f64 h, .string s3] w fun e w' => (∃ o, e = .returned (.bool o)) ∧ w' = w := by
  go_enter Try.func4, Try.ntmps4
  go_wp2
  all_goals
    go_ret
    exact ⟨⟨_, rfl⟩, rfl⟩
end Go.Proofs.Qxb6617135a
