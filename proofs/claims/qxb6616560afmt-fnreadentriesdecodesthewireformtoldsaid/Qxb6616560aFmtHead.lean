import Derived.Test.Qxb6616560aFmtEq
import Derived.Test.Qxb6616560aFmtPlain2
import Derived.Laws.CopyOwn
import Derived.Deep.DeepCutAuto
namespace Go.Proofs.Qxb6616560aFmt
open Go.RowKit Go.Extern.Stop Go.Stop Go.Extern
set_option linter.unusedVariables false

/-- The slice of bytes that came in. -/
def In (w : World) (v : Value) (l : List UInt8) : Prop :=
  (v = .slice none 0 0 ∧ l = []) ∨ ∃ x c, v = .slice (some x) l.length c ∧ ∀ j (hj : j < l.length), w.cell? (x.add j) = some (.int .u8 (l[j]).toNat)

set_option maxHeartbeats 400000 in
theorem bytes11_yes (a : Option Addr) (n c : Nat) (x y z : Int) (w : World) (hn : n ≤ 1048576) :
    Calls Tryf.prog 11 #[.slice a n c, .int .i64 x, .int .i64 y, .int .i64 z] w fun e w' => e = .returned (.bool true) ∧ w' = w := by
  go_enter Tryf.func11, Tryf.ntmps11
  go_wp2
  go_ret
  exact ⟨rfl, rfl⟩

set_option maxHeartbeats 400000 in
theorem bytes11_no (a : Option Addr) (n c : Nat) (x y z : Int) (w : World) (hn : 1048576 < n) :
    Calls Tryf.prog 11 #[.slice a n c, .int .i64 x, .int .i64 y, .int .i64 z] w fun e w' => e = .returned (.bool false) ∧ w' = w := by
  go_enter Tryf.func11, Tryf.ntmps11
  go_wp2
  go_ret
  exact ⟨rfl, rfl⟩

set_option maxRecDepth 100000 in
set_option maxHeartbeats 800000 in
theorem cut_long (a : Option Addr) (n c : Nat) (x y z : Int) (w : World) (hn : 1048576 < n) :
    Calls Tryf.prog 4 #[.slice a n c, .int .i64 x, .int .i64 y, .int .i64 z] w fun e w' => e = .returned (.bool true) ∧ Below w.heap.size w w' := by
  go_enter Tryf.func4, Tryf.ntmps4
  go_wp2_with (go_at_call 11; refine (bytes11_no a n c x y z _ hn).mono ?_; rintro e w' ⟨rfl, rfl⟩)
  go_ret
  exact ⟨rfl, Below.refl _ _⟩

set_option maxRecDepth 100000 in
set_option maxHeartbeats 800000 in
theorem cut_short (a : Option Addr) (n c : Nat) (x y z : Int) (w : World) (hn : n ≤ 1048576) (h : 65536 < x ∨ z < 0 ∨ y < 0 ∨ x < y) :
    Calls Tryf.prog 4 #[.slice a n c, .int .i64 x, .int .i64 y, .int .i64 z] w fun e w' => e = .returned (.bool true) ∧ Below w.heap.size w w' := by
  by_cases h1 : 65536 < x
  · clear h
    go_enter Tryf.func4, Tryf.ntmps4
    go_wp2_with (go_at_call 11; refine (bytes11_yes a n c x y z _ hn).mono ?_; rintro e w' ⟨rfl, rfl⟩)
    go_ret
    exact ⟨rfl, Below.refl _ _⟩
  by_cases h2 : z < 0
  · clear h
    go_enter Tryf.func4, Tryf.ntmps4
    go_wp2_with (go_at_call 11; refine (bytes11_yes a n c x y z _ hn).mono ?_; rintro e w' ⟨rfl, rfl⟩)
    go_ret
    exact ⟨rfl, Below.refl _ _⟩
  by_cases h3 : y < 0
  · clear h
    go_enter Tryf.func4, Tryf.ntmps4
    go_wp2_with (go_at_call 11; refine (bytes11_yes a n c x y z _ hn).mono ?_; rintro e w' ⟨rfl, rfl⟩)
    go_ret
    exact ⟨rfl, Below.refl _ _⟩
  have h4 : x < y := by omega
  clear h
  go_enter Tryf.func4, Tryf.ntmps4
  go_wp2_with (go_at_call 11; refine (bytes11_yes a n c x y z _ hn).mono ?_; rintro e w' ⟨rfl, rfl⟩)
  go_ret
  exact ⟨rfl, Below.refl _ _⟩

theorem info5 : (Tryf.prog.info? 5).map (fun i => (i.zero, i.size, i.bytes)) = some (some (.int .u8 0), 1, 1) := by kernel_rfl

theorem own_block {w : World} {B e g n : Nat} {xs : List Value} (h : w.ownsRow B e 1 (.slice (some ⟨g, 0, none⟩) n n) n xs) : ∃ L : List Value, w.heap[g]? = some (.cells L.toArray e (0, 0)) ∧ L.length = n := by
  rcases h.2 with ⟨h0, _⟩ | ⟨g', cap, cur, hv, _, hg, _, _, hsz, _⟩
  · simp at h0
  · simp at hv
    obtain ⟨rfl, rfl⟩ := hv
    exact ⟨cur.toList, by simpa using hg, by simpa using hsz⟩

theorem Row.open {k : IntKind} {w : World} {v : Value} {xs : List Nat} (h : Row k w v xs) (n : Nat) (hn : xs.length = n) :
    ∃ ao c, v = .slice ao n c ∧ n ≤ c ∧ c ≤ 9223372036854775807 ∧ (0 < n → ∃ g, ao = some ⟨g, 0, none⟩ ∧ g < w.heap.size ∧ ∀ j, j < n → w.cell? ⟨g, j, none⟩ = some (.int k (xs.getD j 0 : Nat))) := by
  subst hn
  obtain ⟨ao, c, rfl, h1, h2, h3⟩ := h
  refine ⟨ao, c, rfl, h1, h2, fun h0 => ?_⟩
  rcases h3 with rfl | ⟨g, rfl, hg, hc⟩
  · simp at h0
  · exact ⟨g, rfl, hg, fun j hj => by rw [hc j hj]; simp [hj]⟩

theorem getD_app_left (a b : List Nat) (k : Nat) (h : k < a.length) : (a ++ b).getD k 0 = a.getD k 0 := by
  simp [List.getElem?_append_left h]
theorem getD_app_right (a b : List Nat) (n k : Nat) (h : a.length = n) : (a ++ b).getD (n + k) 0 = b.getD k 0 := by
  subst h
  simp [List.getElem?_append_right]
theorem getD_map_add (b : List Nat) (n k : Nat) (h : k < b.length) : (b.map (· + n)).getD k 0 = b.getD k 0 + n := by
  simp [h]

theorem rowCells {k : IntKind} {w w' : World} {ao : Option Addr} {n : Nat} {xs : List Nat} (hb : Below w.heap.size w w')
    (h : 0 < n → ∃ g, ao = some ⟨g, 0, none⟩ ∧ g < w.heap.size ∧ ∀ j, j < n → w.cell? ⟨g, j, none⟩ = some (.int k (xs.getD j 0 : Nat))) :
    0 < n → ∃ g, ao = some ⟨g, 0, none⟩ ∧ g < w'.heap.size ∧ ∀ j, j < n → w'.cell? ⟨g, j, none⟩ = some (.int k (xs.getD j 0 : Nat)) := by
  intro h0
  obtain ⟨g, rfl, hg, hc⟩ := h h0
  exact ⟨g, rfl, Nat.lt_of_lt_of_le hg hb.size, fun j hj => by rw [hb.cell (p := ⟨g, j, none⟩) hg, hc j hj]⟩
end Go.Proofs.Qxb6616560aFmt
