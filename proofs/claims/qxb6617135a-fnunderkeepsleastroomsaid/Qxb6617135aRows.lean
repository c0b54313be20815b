/-
  No cell of these rows narrows 'for every input' (looked for: loops, veiled, ifaces, maps, wideKeys, modest, calm, conditions, laid).
  DERIVED. THE GIVEN ROWS OF THIS SEAT. 1 by the template 'for every input the law returns true; each argument reads behind the call as it read before'; 0 by the template 'total and deterministic' (their statements: Qxb6617135aTotals.lean).
  GIVEN WITH THE SEED: the statements are not yours to turn. If you find one false, say at which input.
  Laid BY PROGRAM, IN A SANDBOX (cutbox-rows.mjs): the forced cells as the released guide's own fill.sh prints them over the translation 0721a1d3e5d14783… (all of the seat's roots in one cut). By AI agents, Wed Nov 11 2026. No macro, syntax, notation, axiom, sorry.
-/
import Derived.Test.Qxb6617135aChecked
import GoSem.Claim
import GoSem.ClaimJoined
import GoSem.ClaimMapViews
import Derived.JoinedTies
import Derived.KernelRfl
namespace Go.Proofs.Qxb6617135a
/- THE CELL 'sum', in the pinned program and in every row, IS THE sha256 OF THE DUMP (.gsa) THAT Qxb6617135aProg.lean LOADS. Nothing in Lean hashes anything: it is a label: what it is worth is what the hold of that sum in a sandbox is worth. -/
noncomputable def Try.pinned : Pinned := { name := "qxb6617135a", sum := "0721a1d3e5d1478380a5017e8cd6de5f5754089dcd28b84be5b71d3bbfcf1840", checked := Try.checked }
namespace Rows
def none {H : Type} : Left H := { results := [], args := [] }

/-- 'zzlaws_internal_memory_b1.FnUnderKeepsLeastRoom': WHATEVER THE INPUT: true; the input reads as it did. -/
def fnUnderKeepsLeastRoomSpec : ChangeSpec := { name := "fnUnderKeepsLeastRoom", fn := fun _ => fun
  | [d1, d2, d3, d4, d5, d6] => { results := [.lit (.bool true)], args := [d1, d2, d3, d4, d5, d6] }
  | _ => none }
def fnUnderKeepsLeastRoomRow : OpenClaim := { program := "qxb6617135a", sum := "0721a1d3e5d1478380a5017e8cd6de5f5754089dcd28b84be5b71d3bbfcf1840", func := "example.com/rumorweave/rumorweave/zzlaws_internal_memory_b1.FnUnderKeepsLeastRoom", spec := "fnUnderKeepsLeastRoom", apart := false }
def FnUnderKeepsLeastRoomSaid : Prop := fnUnderKeepsLeastRoomRow.holds Try.pinned (OpenSpec.ofChange fnUnderKeepsLeastRoomSpec)

/-- ITS FALSE NEIGHBOUR: 'it returns false'. Refute it at one input. -/
def fnUnderKeepsLeastRoomWrong : ChangeSpec := { name := "fnUnderKeepsLeastRoom", fn := fun _ => fun
  | [d1, d2, d3, d4, d5, d6] => { results := [.lit (.bool false)], args := [d1, d2, d3, d4, d5, d6] }
  | _ => none }
def FnUnderKeepsLeastRoomWrongFalsely : Prop := fnUnderKeepsLeastRoomRow.holds Try.pinned (OpenSpec.ofChange fnUnderKeepsLeastRoomWrong)

end Rows
end Go.Proofs.Qxb6617135a
