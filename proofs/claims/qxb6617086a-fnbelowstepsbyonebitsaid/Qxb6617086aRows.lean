/-
  No cell of these rows narrows 'for every input' (looked for: loops, veiled, ifaces, maps, wideKeys, modest, calm, conditions, laid).
  DERIVED. THE GIVEN ROWS OF THIS SEAT. 2 by the template 'for every input the law returns true; each argument reads behind the call as it read before'; 0 by the template 'total and deterministic' (their statements: Qxb6617086aTotals.lean).
  GIVEN WITH THE SEED: the statements are not yours to turn. If you find one false, say at which input.
  Laid BY PROGRAM, IN A SANDBOX (cutbox-rows.mjs): the forced cells as the released guide's own fill.sh prints them over the translation f5ee6e3615f31121… (all of the seat's roots in one cut). By AI agents, Wed Nov 11 2026. No macro, syntax, notation, axiom, sorry.
-/
import Derived.Test.Qxb6617086aChecked
import GoSem.Claim
import GoSem.ClaimJoined
import GoSem.ClaimMapViews
import Derived.JoinedTies
import Derived.KernelRfl
namespace Go.Proofs.Qxb6617086a
/- THE CELL 'sum', in the pinned program and in every row, IS THE sha256 OF THE DUMP (.gsa) THAT Qxb6617086aProg.lean LOADS. Nothing in Lean hashes anything: it is a label: what it is worth is what the hold of that sum in a sandbox is worth. -/
noncomputable def Try.pinned : Pinned := { name := "qxb6617086a", sum := "f5ee6e3615f31121c072f627b4a4b15a11405c32d58c0262094e984860d8ac62", checked := Try.checked }
namespace Rows
def none {H : Type} : Left H := { results := [], args := [] }

/-- 'zzlaws_root_b1.FnBelowStepsByOneBit': WHATEVER THE INPUT: true; the input reads as it did. -/
def fnBelowStepsByOneBitSpec : ChangeSpec := { name := "fnBelowStepsByOneBit", fn := fun _ => fun
  | [d1, d2] => { results := [.lit (.bool true)], args := [d1, d2] }
  | _ => none }
def fnBelowStepsByOneBitRow : OpenClaim := { program := "qxb6617086a", sum := "f5ee6e3615f31121c072f627b4a4b15a11405c32d58c0262094e984860d8ac62", func := "example.com/orderkit/orderkit/zzlaws_root_b1.FnBelowStepsByOneBit", spec := "fnBelowStepsByOneBit", apart := false }
def FnBelowStepsByOneBitSaid : Prop := fnBelowStepsByOneBitRow.holds Try.pinned (OpenSpec.ofChange fnBelowStepsByOneBitSpec)

/-- ITS FALSE NEIGHBOUR: 'it returns false'. Refute it at one input. -/
def fnBelowStepsByOneBitWrong : ChangeSpec := { name := "fnBelowStepsByOneBit", fn := fun _ => fun
  | [d1, d2] => { results := [.lit (.bool false)], args := [d1, d2] }
  | _ => none }
def FnBelowStepsByOneBitWrongFalsely : Prop := fnBelowStepsByOneBitRow.holds Try.pinned (OpenSpec.ofChange fnBelowStepsByOneBitWrong)

/-- 'zzlaws_root_b1.FnBelowWithComplementCountsK': WHATEVER THE INPUT: true; the input reads as it did. -/
def fnBelowWithComplementCountsKSpec : ChangeSpec := { name := "fnBelowWithComplementCountsK", fn := fun _ => fun
  | [d1, d2] => { results := [.lit (.bool true)], args := [d1, d2] }
  | _ => none }
def fnBelowWithComplementCountsKRow : OpenClaim := { program := "qxb6617086a", sum := "f5ee6e3615f31121c072f627b4a4b15a11405c32d58c0262094e984860d8ac62", func := "example.com/orderkit/orderkit/zzlaws_root_b1.FnBelowWithComplementCountsK", spec := "fnBelowWithComplementCountsK", apart := false }
def FnBelowWithComplementCountsKSaid : Prop := fnBelowWithComplementCountsKRow.holds Try.pinned (OpenSpec.ofChange fnBelowWithComplementCountsKSpec)

/-- ITS FALSE NEIGHBOUR: 'it returns false'. Refute it at one input. -/
def fnBelowWithComplementCountsKWrong : ChangeSpec := { name := "fnBelowWithComplementCountsK", fn := fun _ => fun
  | [d1, d2] => { results := [.lit (.bool false)], args := [d1, d2] }
  | _ => none }
def FnBelowWithComplementCountsKWrongFalsely : Prop := fnBelowWithComplementCountsKRow.holds Try.pinned (OpenSpec.ofChange fnBelowWithComplementCountsKWrong)

end Rows
end Go.Proofs.Qxb6617086a
