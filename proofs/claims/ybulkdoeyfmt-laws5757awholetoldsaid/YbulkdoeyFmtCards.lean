/-
  DERIVED. GIVEN WITH THE SEED: THE CARDS: each row of YbulkdoeyFmtRows.lean that lists a variable, with what it lists TIED to the program's text (the seventh form; the later family's looks); each row that meets fmt, with fmt's text TOLD by the authors' own Lean function (tested against real Go, not proved from fmt's source: count such statements apart). THE CARD IS WHAT COUNTS. Prove the row's statement (the work); the ties are given (YbulkdoeyFmtTie.lean); close each card by the builder's one call (the guide's Derived/Test/ToyasCard.lean, 'card_holds'). Laid BY PROGRAM, IN A SANDBOX (cutbox-door.mjs). By AI agents, Wed Nov 11 2026. No macro, syntax, notation, axiom, sorry.
-/
import Derived.Test.YbulkdoeyFmtRows
import GoSem.ClaimSeven
namespace Go.Proofs.YbulkdoeyFmt
namespace Rows

/-- THE TOLD CARD OF 'threshold.LawS5757AWhole'. -/
def lawS5757AWholeCard : Claim7 := { stood := { row := lawS5757AWholeRow, standIns := [], harness := (true, "f86134d63d68734917ac3f0eb620a1fbcf1e36f55c9daa1de899ed30bddc08e4"), looks := true }, told := true, goes := false }
def LawS5757AWholeToldSaid : Prop := Claim7.holds Ybaf.pinned (.plain (OpenSpec.ofChange lawS5757AWholeSpec)) lawS5757AWholeCard
/-- ITS FALSE NEIGHBOUR. Refute it at one input. -/
def LawS5757AWholeToldWrongFalsely : Prop := Claim7.holds Ybaf.pinned (.plain (OpenSpec.ofChange lawS5757AWholeWrong)) lawS5757AWholeCard
end Rows
end Go.Proofs.YbulkdoeyFmt
