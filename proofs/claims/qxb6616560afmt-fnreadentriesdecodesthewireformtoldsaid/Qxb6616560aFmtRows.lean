/-
  No cell of these rows narrows 'for every input' (looked for: loops, veiled, ifaces, maps, wideKeys, modest, calm, conditions, laid).
  DERIVED. THE GIVEN ROWS OF THIS SEAT. 2 by the template 'for every input the law returns true; each argument reads behind the call as it read before'; 0 by the template 'total and deterministic' (their statements: Qxb6616560aFmtTotals.lean).
  GIVEN WITH THE SEED: the statements are not yours to turn. If you find one false, say at which input.
  Laid BY PROGRAM, IN A SANDBOX (cutbox-rows.mjs): the forced cells as the released guide's own fill.sh prints them over the translation 7fb73e6a20a68269… (all of the seat's roots in one cut). By AI agents, Wed Nov 11 2026. No macro, syntax, notation, axiom, sorry.
-/
import Derived.Test.Qxb6616560aFmtChecked
import GoSem.Claim
import GoSem.ClaimJoined
import GoSem.ClaimMapViews
import Derived.JoinedTies
import Derived.KernelRfl
namespace Go.Proofs.Qxb6616560aFmt
/- THE CELL 'sum', in the pinned program and in every row, IS THE sha256 OF THE DUMP (.gsa) THAT Qxb6616560aFmtProg.lean LOADS. Nothing in Lean hashes anything: it is a label: what it is worth is what the hold of that sum in a sandbox is worth. -/
noncomputable def Tryf.pinned : Pinned := { name := "qxb6616560afmt", sum := "7fb73e6a20a682692a54ff41bbc850ab16a13bed43b70968f10f7fac94a53822", checked := Tryf.checked }
namespace Rows
def none {H : Type} : Left H := { results := [], args := [] }

/-- 'zzlaws_root_b1.FnReadEntriesDecodesTheWireForm': WHATEVER THE INPUT: true; the input reads as it did. -/
def fnReadEntriesDecodesTheWireFormSpec : ChangeSpec := { name := "fnReadEntriesDecodesTheWireForm", fn := fun _ => fun
  | [d1, d2, d3] => { results := [.lit (.bool true)], args := [d1, d2, d3] }
  | _ => none }
def fnReadEntriesDecodesTheWireFormRow : OpenClaim := { program := "qxb6616560afmt", sum := "7fb73e6a20a682692a54ff41bbc850ab16a13bed43b70968f10f7fac94a53822", func := "example.com/primeline/primeline/zzlaws_root_b1.FnReadEntriesDecodesTheWireForm", spec := "fnReadEntriesDecodesTheWireForm", stops := ["fmt.errorf"], inPlace := ["fmt.errorf"], unfollowed := true, recurses := true, apart := false }
/-- NO THEOREM (fmt's text is open here; it may be false): for the released tool's asking of the row's closed facts alone. THE STATEMENT IS 'FnReadEntriesDecodesTheWireFormToldSaid' (Qxb6616560aFmtCards.lean). -/
def FnReadEntriesDecodesTheWireFormFormAsk : Prop := fnReadEntriesDecodesTheWireFormRow.holds Tryf.pinned (OpenSpec.ofChange fnReadEntriesDecodesTheWireFormSpec)

/-- ITS FALSE NEIGHBOUR: 'it returns false'. Refute it at one input. -/
def fnReadEntriesDecodesTheWireFormWrong : ChangeSpec := { name := "fnReadEntriesDecodesTheWireForm", fn := fun _ => fun
  | [d1, d2, d3] => { results := [.lit (.bool false)], args := [d1, d2, d3] }
  | _ => none }
def FnReadEntriesDecodesTheWireFormWrongFormAsk : Prop := fnReadEntriesDecodesTheWireFormRow.holds Tryf.pinned (OpenSpec.ofChange fnReadEntriesDecodesTheWireFormWrong)

/-- 'zzlaws_root_b1.FnReadEntriesCutsAtAnyEntry': WHATEVER THE INPUT: true; the input reads as it did. -/
def fnReadEntriesCutsAtAnyEntrySpec : ChangeSpec := { name := "fnReadEntriesCutsAtAnyEntry", fn := fun _ => fun
  | [d1, d2, d3, d4] => { results := [.lit (.bool true)], args := [d1, d2, d3, d4] }
  | _ => none }
def fnReadEntriesCutsAtAnyEntryRow : OpenClaim := { program := "qxb6616560afmt", sum := "7fb73e6a20a682692a54ff41bbc850ab16a13bed43b70968f10f7fac94a53822", func := "example.com/primeline/primeline/zzlaws_root_b1.FnReadEntriesCutsAtAnyEntry", spec := "fnReadEntriesCutsAtAnyEntry", stops := ["fmt.errorf"], inPlace := ["fmt.errorf"], unfollowed := true, recurses := true, apart := false }
/-- NO THEOREM (fmt's text is open here; it may be false): for the released tool's asking of the row's closed facts alone. THE STATEMENT IS 'FnReadEntriesCutsAtAnyEntryToldSaid' (Qxb6616560aFmtCards.lean). -/
def FnReadEntriesCutsAtAnyEntryFormAsk : Prop := fnReadEntriesCutsAtAnyEntryRow.holds Tryf.pinned (OpenSpec.ofChange fnReadEntriesCutsAtAnyEntrySpec)

/-- ITS FALSE NEIGHBOUR: 'it returns false'. Refute it at one input. -/
def fnReadEntriesCutsAtAnyEntryWrong : ChangeSpec := { name := "fnReadEntriesCutsAtAnyEntry", fn := fun _ => fun
  | [d1, d2, d3, d4] => { results := [.lit (.bool false)], args := [d1, d2, d3, d4] }
  | _ => none }
def FnReadEntriesCutsAtAnyEntryWrongFormAsk : Prop := fnReadEntriesCutsAtAnyEntryRow.holds Tryf.pinned (OpenSpec.ofChange fnReadEntriesCutsAtAnyEntryWrong)

end Rows
end Go.Proofs.Qxb6616560aFmt
