/-
  DERIVED. GIVEN WITH THE SEED: THE CARDS: each row of Qxb6616560aFmtRows.lean that lists a variable, with what it lists TIED to the program's text (the seventh form; the later family's looks); each row that meets fmt, with fmt's text TOLD by the authors' own Lean function (tested against real Go, not proved from fmt's source: count such statements apart). THE CARD IS WHAT COUNTS. Prove the row's statement (the work); the ties are given (Qxb6616560aFmtTie.lean); close each card by the builder's one call (the guide's Derived/Test/ToyasCard.lean, 'card_holds'). Laid BY PROGRAM, IN A SANDBOX (cutbox-door.mjs). By AI agents, Wed Nov 11 2026. No macro, syntax, notation, axiom, sorry.
-/
import Derived.Test.Qxb6616560aFmtRows
import GoSem.ClaimSeven
namespace Go.Proofs.Qxb6616560aFmt
namespace Rows

/-- THE TOLD CARD OF 'zzlaws_root_b1.FnReadEntriesDecodesTheWireForm'. -/
def fnReadEntriesDecodesTheWireFormCard : Claim7 := { stood := { row := fnReadEntriesDecodesTheWireFormRow, standIns := [], harness := (true, "e54c0ff00d80c9efec30d05188b0e8521bc1d0b649d69519b0596c9cc91623c5"), looks := false }, told := true, goes := false }
def FnReadEntriesDecodesTheWireFormToldSaid : Prop := Claim7.holds Tryf.pinned (.plain (OpenSpec.ofChange fnReadEntriesDecodesTheWireFormSpec)) fnReadEntriesDecodesTheWireFormCard
/-- ITS FALSE NEIGHBOUR. Refute it at one input. -/
def FnReadEntriesDecodesTheWireFormToldWrongFalsely : Prop := Claim7.holds Tryf.pinned (.plain (OpenSpec.ofChange fnReadEntriesDecodesTheWireFormWrong)) fnReadEntriesDecodesTheWireFormCard

/-- THE TOLD CARD OF 'zzlaws_root_b1.FnReadEntriesCutsAtAnyEntry'. -/
def fnReadEntriesCutsAtAnyEntryCard : Claim7 := { stood := { row := fnReadEntriesCutsAtAnyEntryRow, standIns := [], harness := (true, "e54c0ff00d80c9efec30d05188b0e8521bc1d0b649d69519b0596c9cc91623c5"), looks := false }, told := true, goes := false }
def FnReadEntriesCutsAtAnyEntryToldSaid : Prop := Claim7.holds Tryf.pinned (.plain (OpenSpec.ofChange fnReadEntriesCutsAtAnyEntrySpec)) fnReadEntriesCutsAtAnyEntryCard
/-- ITS FALSE NEIGHBOUR. Refute it at one input. -/
def FnReadEntriesCutsAtAnyEntryToldWrongFalsely : Prop := Claim7.holds Tryf.pinned (.plain (OpenSpec.ofChange fnReadEntriesCutsAtAnyEntryWrong)) fnReadEntriesCutsAtAnyEntryCard
end Rows
end Go.Proofs.Qxb6616560aFmt
