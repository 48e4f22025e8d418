/-
  DERIVED. GIVEN WITH THE SEED: THE CARDS: each row of YbulkdogaDoorRows.lean that lists a variable, with what it lists TIED to the program's text (the seventh form; the later family's looks); each row that meets fmt, with fmt's text TOLD by the authors' own Lean function (tested against real Go, not proved from fmt's source: count such statements apart). THE CARD IS WHAT COUNTS. Prove the row's statement (the work); the ties are given (YbulkdogaDoorTie.lean); close each card by the builder's one call (the guide's Derived/Test/ToyasCard.lean, 'card_holds'). Laid BY PROGRAM, IN A SANDBOX (cutbox-door.mjs). By AI agents, Wed Nov 11 2026. No macro, syntax, notation, axiom, sorry.
-/
import Derived.Test.YbulkdogaDoorRows
import GoSem.ClaimSeven
namespace Go.Proofs.YbulkdogaDoor
namespace Rows

/-- THE TIED CARD OF 'chunk.LawS5759BWhole'. -/
def lawS5759BWholeCard : Claim7 := { stood := { row := lawS5759BWholeRow, standIns := [], harness := (true, "d37ffe6cc36ce55e0b6e7b892d853fdf1bb0b02e33e255157fb227620eb6186f"), looks := false }, kinds := [], alts := [], laidByText := true, laidKinds := [.data], laidTests := true, laidLooks := .later }
def LawS5759BWholeCardSaid : Prop := Claim7.holds Ybad.pinned (.plain (OpenSpec.ofChange lawS5759BWholeSpec)) lawS5759BWholeCard
end Rows
end Go.Proofs.YbulkdogaDoor
