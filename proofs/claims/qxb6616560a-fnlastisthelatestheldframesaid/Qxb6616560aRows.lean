/-
  No cell of these rows narrows 'for every input' (looked for: loops, veiled, ifaces, maps, wideKeys, modest, calm, conditions, laid).
  DERIVED. THE GIVEN ROWS OF THIS SEAT. 1 by the template 'for every input the law returns true; each argument reads behind the call as it read before'; 0 by the template 'total and deterministic' (their statements: Qxb6616560aTotals.lean).
  GIVEN WITH THE SEED: the statements are not yours to turn. If you find one false, say at which input.
  Laid BY PROGRAM, IN A SANDBOX (cutbox-rows.mjs): the forced cells as the released guide's own fill.sh prints them over the translation 2b7246bc34e92006… (all of the seat's roots in one cut). By AI agents, Wed Nov 11 2026. No macro, syntax, notation, axiom, sorry.
-/
import Derived.Test.Qxb6616560aChecked
import GoSem.Claim
import GoSem.ClaimJoined
import GoSem.ClaimMapViews
import Derived.JoinedTies
import Derived.KernelRfl
namespace Go.Proofs.Qxb6616560a
/- THE CELL 'sum', in the pinned program and in every row, IS THE sha256 OF THE DUMP (.gsa) THAT Qxb6616560aProg.lean LOADS. Nothing in Lean hashes anything: it is a label: what it is worth is what the hold of that sum in a sandbox is worth. -/
noncomputable def Try.pinned : Pinned := { name := "qxb6616560a", sum := "2b7246bc34e92006d771b5a89d3fcfa763ae277c926e1bf23f7210be1ac038a8", checked := Try.checked }
namespace Rows
def none {H : Type} : Left H := { results := [], args := [] }

/-- 'zzlaws_root_b1.FnLastIsTheLatestHeldFrame': WHATEVER THE INPUT: true; the input reads as it did. -/
def fnLastIsTheLatestHeldFrameSpec : ChangeSpec := { name := "fnLastIsTheLatestHeldFrame", fn := fun _ => fun
  | [d1, d2] => { results := [.lit (.bool true)], args := [d1, d2] }
  | _ => none }
def fnLastIsTheLatestHeldFrameRow : OpenClaim := { program := "qxb6616560a", sum := "2b7246bc34e92006d771b5a89d3fcfa763ae277c926e1bf23f7210be1ac038a8", func := "example.com/primeline/primeline/zzlaws_root_b1.FnLastIsTheLatestHeldFrame", spec := "fnLastIsTheLatestHeldFrame", apart := false }
def FnLastIsTheLatestHeldFrameSaid : Prop := fnLastIsTheLatestHeldFrameRow.holds Try.pinned (OpenSpec.ofChange fnLastIsTheLatestHeldFrameSpec)

/-- ITS FALSE NEIGHBOUR: 'it returns false'. Refute it at one input. -/
def fnLastIsTheLatestHeldFrameWrong : ChangeSpec := { name := "fnLastIsTheLatestHeldFrame", fn := fun _ => fun
  | [d1, d2] => { results := [.lit (.bool false)], args := [d1, d2] }
  | _ => none }
def FnLastIsTheLatestHeldFrameWrongFalsely : Prop := fnLastIsTheLatestHeldFrameRow.holds Try.pinned (OpenSpec.ofChange fnLastIsTheLatestHeldFrameWrong)

end Rows
end Go.Proofs.Qxb6616560a
