/-
  DERIVED. GIVEN WITH THE SEED: THE CARDS: each row of YbulkdogoDoorRows.lean that lists a variable, with what it lists TIED to the program's text (the seventh form; the later family's looks); each row that meets fmt, with fmt's text TOLD by the authors' own Lean function (tested against real Go, not proved from fmt's source: count such statements apart). THE CARD IS WHAT COUNTS. Prove the row's statement (the work); the ties are given (YbulkdogoDoorTie.lean); close each card by the builder's one call (the guide's Derived/Test/ToyasCard.lean, 'card_holds'). Laid BY PROGRAM, IN A SANDBOX (cutbox-door.mjs). By AI agents, Wed Nov 11 2026. No macro, syntax, notation, axiom, sorry.
-/
import Derived.Test.YbulkdogoDoorRows
import GoSem.ClaimSeven
namespace Go.Proofs.YbulkdogoDoor
namespace Rows

/-- THE TIED CARD OF 'sim.LawS5760BPart'. -/
def lawS5760BPartCard : Claim7 := { stood := { row := lawS5760BPartRow, standIns := [], harness := (true, "64c7f24748b66b9e1f9e96c68f03299d94d4974b931fc3d8add28f8e285e3d67"), looks := false }, kinds := [], alts := [], laidByText := true, laidKinds := [.data], laidTests := true, laidLooks := .later }
def LawS5760BPartCardSaid : Prop := Claim7.holds Ybad.pinned (.plain (OpenSpec.ofChange lawS5760BPartSpec)) lawS5760BPartCard
end Rows
end Go.Proofs.YbulkdogoDoor
