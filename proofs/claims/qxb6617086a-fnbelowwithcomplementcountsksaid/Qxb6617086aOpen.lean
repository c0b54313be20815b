/-
  A set of marks that came in by value.
-/
import Derived.Test.Qxb6617086aZz
import Derived.ProofKit
import Derived.OpenShut
namespace Go.Proofs.Qxb6617086a
open Go.ChangeShapes Go.WideShapes Go.ChangeAt Go.RowKit

theorem c22 : Try.prog.cellsOf 22 = 1 := by kernel_rfl
theorem c23 : Try.prog.cellsOf 23 = 128 := by kernel_rfl

theorem open_marks {H : Type} {enc : TypeId × Value → H} {W : World} {base b : Nat} {sp : Nat → Bool} {held : Bool} {v : Value} {d : DataW H} {ps : List MemPlace}
    (hv : Value.okWide Try.prog W .any b 23 v) (h : DataW.Trod enc Try.prog W base sp held 23 v d ps) :
    ∃ ms : List Nat, v = .agg (cells ms) ∧ ms.length = 128 ∧ ∀ x ∈ ms, x < 18446744073709551616 := by
  simp only [Value.okWide, Try.underlying23] at hv
  obtain ⟨cs, rfl, hsz, _⟩ := hv
  rw [c23] at hsz
  obtain ⟨fuel, hf⟩ := h
  obtain ⟨xs, m, _, _, _, hl, hel⟩ := DataW.trod_array Try.underlying23 hf
  have key : ∀ v ∈ cs.toList, ∃ z : Int, v = .int .u64 z ∧ 0 ≤ z ∧ z < 18446744073709551616 := by
    intro v hv
    obtain ⟨i, hi, rfl⟩ := List.mem_iff_getElem.1 hv
    have hi' : i < 128 := by simpa [hsz] using hi
    have hE := hel i hi'
    rw [c22, Nat.mul_one, List.getElem?_eq_getElem (by omega)] at hE
    obtain ⟨z, e1, _, e3⟩ := DataW.trod_int Try.underlying22 hE
    have e1' : (cs.toList.drop i).take 1 = [.int .u64 z] := e1
    have h0 : ((cs.toList.drop i).take 1)[0]? = some (.int .u64 z) := by rw [e1']; rfl
    have h1 : cs.toList[i]? = some (.int .u64 z) := by simpa using h0
    rw [List.getElem?_eq_getElem hi] at h1
    have hb := bounds_u64 e3
    exact ⟨z, Option.some.inj h1, by omega, by omega⟩
  refine ⟨cs.toList.map fun v => (intOf v).toNat, ?_, by simpa using hsz, ?_⟩
  · congr 1
    apply Array.ext'
    show cs.toList = ((cs.toList.map fun v => (intOf v).toNat).map fun (x : Nat) => Value.int .u64 x)
    rw [List.map_map]
    symm
    conv => rhs; rw [← List.map_id cs.toList]
    apply List.map_congr_left
    intro v hv
    obtain ⟨z, rfl, h0, _⟩ := key v hv
    simp [intOf]
    omega
  · intro x hx
    obtain ⟨v, hv, rfl⟩ := List.mem_map.1 hx
    obtain ⟨z, rfl, h0, h1⟩ := key v hv
    simp [intOf]
    omega
end Go.Proofs.Qxb6617086a
