/-
  No cell of these rows narrows 'for every input' (looked for: loops, veiled, ifaces, maps, wideKeys, modest, calm, conditions, laid).
  DERIVED. THE GIVEN ROWS OF THIS SEAT. 1 by the template 'for every input the law returns true; each argument reads behind the call as it read before'; 0 by the template 'total and deterministic' (their statements: YbulkdoeyFmtTotals.lean).
  GIVEN WITH THE SEED: the statements are not yours to turn. If you find one false, say at which input.
  Laid BY PROGRAM, IN A SANDBOX (cutbox-rows.mjs): the forced cells as the released guide's own fill.sh prints them over the translation aaf2ee204b398195… (all of the seat's roots in one cut). By AI agents, Wed Nov 11 2026. No macro, syntax, notation, axiom, sorry.
-/
import Derived.Test.YbulkdoeyFmtChecked
import GoSem.Claim
import GoSem.ClaimJoined
import GoSem.ClaimMapViews
import Derived.JoinedTies
import Derived.KernelRfl
namespace Go.Proofs.YbulkdoeyFmt
/- THE CELL 'sum', in the pinned program and in every row, IS THE sha256 OF THE DUMP (.gsa) THAT YbulkdoeyFmtProg.lean LOADS. Nothing in Lean hashes anything: it is a label: what it is worth is what the hold of that sum in a sandbox is worth. -/
noncomputable def Ybaf.pinned : Pinned := { name := "ybulkdoeyfmt", sum := "aaf2ee204b3981956a4e38155b464d715c5137dad4c161c17017a6fa410efac9", checked := Ybaf.checked }
namespace Rows
def none {H : Type} : Left H := { results := [], args := [] }

/-- 'threshold.LawS5757AWhole': WHATEVER THE INPUT: true; the input reads as it did. -/
def lawS5757AWholeSpec : ChangeSpec := { name := "lawS5757AWhole", fn := fun _ => fun
  | [d1, d2, d3, d4] => { results := [.lit (.bool true)], args := [d1, d2, d3, d4] }
  | _ => none }
def lawS5757AWholeRow : OpenClaim := { program := "ybulkdoeyfmt", sum := "aaf2ee204b3981956a4e38155b464d715c5137dad4c161c17017a6fa410efac9", func := "example.com/tripline/tripline/threshold.LawS5757AWhole", spec := "lawS5757AWhole", stops := ["fmt.errorf"], inPlace := ["fmt.errorf"], unfollowed := true, recurses := true, apart := false }
/-- NO THEOREM (fmt's text is open here; it may be false): for the released tool's asking of the row's closed facts alone. THE STATEMENT IS 'LawS5757AWholeToldSaid' (YbulkdoeyFmtCards.lean). -/
def LawS5757AWholeFormAsk : Prop := lawS5757AWholeRow.holds Ybaf.pinned (OpenSpec.ofChange lawS5757AWholeSpec)

/-- ITS FALSE NEIGHBOUR: 'it returns false'. Refute it at one input. -/
def lawS5757AWholeWrong : ChangeSpec := { name := "lawS5757AWhole", fn := fun _ => fun
  | [d1, d2, d3, d4] => { results := [.lit (.bool false)], args := [d1, d2, d3, d4] }
  | _ => none }
def LawS5757AWholeWrongFormAsk : Prop := lawS5757AWholeRow.holds Ybaf.pinned (OpenSpec.ofChange lawS5757AWholeWrong)

end Rows
end Go.Proofs.YbulkdoeyFmt
