/-
  No cell of these rows narrows 'for every input' (looked for: loops, veiled, ifaces, maps, wideKeys, modest, calm, conditions, laid).
  DERIVED. THE GIVEN ROWS OF THIS SEAT. 1 by the template 'for every input the law returns true; each argument reads behind the call as it read before'; 0 by the template 'total and deterministic' (their statements: YbulkdodwTotals.lean).
  GIVEN WITH THE SEED: the statements are not yours to turn. If you find one false, say at which input.
  Laid BY PROGRAM, IN A SANDBOX (cutbox-rows.mjs): the forced cells as the released guide's own fill.sh prints them over the translation 6276194fdfa265d3… (all of the seat's roots in one cut). By AI agents, Wed Nov 11 2026. No macro, syntax, notation, axiom, sorry.
-/
import Derived.Test.YbulkdodwChecked
import GoSem.Claim
import GoSem.ClaimJoined
import GoSem.ClaimMapViews
import Derived.JoinedTies
import Derived.KernelRfl
namespace Go.Proofs.Ybulkdodw
/- THE CELL 'sum', in the pinned program and in every row, IS THE sha256 OF THE DUMP (.gsa) THAT YbulkdodwProg.lean LOADS. Nothing in Lean hashes anything: it is a label: what it is worth is what the hold of that sum in a sandbox is worth. -/
noncomputable def Yba.pinned : Pinned := { name := "ybulkdodw", sum := "6276194fdfa265d3ce9be5ad426f3e818c286fa5e3dc251ada78bb82b45c631c", checked := Yba.checked }
namespace Rows
def none {H : Type} : Left H := { results := [], args := [] }

/-- 'replay.LawS5755BPart': WHATEVER THE INPUT: true; the input reads as it did. -/
def lawS5755BPartSpec : ChangeSpec := { name := "lawS5755BPart", fn := fun _ => fun
  | [d1, d2, d3] => { results := [.lit (.bool true)], args := [d1, d2, d3] }
  | _ => none }
def lawS5755BPartRow : OpenClaim := { program := "ybulkdodw", sum := "6276194fdfa265d3ce9be5ad426f3e818c286fa5e3dc251ada78bb82b45c631c", func := "example.com/queuecast/queuecast/internal/replay.LawS5755BPart", spec := "lawS5755BPart", unfollowed := true, recurses := true, apart := false }
def LawS5755BPartSaid : Prop := lawS5755BPartRow.holds Yba.pinned (OpenSpec.ofChange lawS5755BPartSpec)

/-- ITS FALSE NEIGHBOUR: 'it returns false'. Refute it at one input. -/
def lawS5755BPartWrong : ChangeSpec := { name := "lawS5755BPart", fn := fun _ => fun
  | [d1, d2, d3] => { results := [.lit (.bool false)], args := [d1, d2, d3] }
  | _ => none }
def LawS5755BPartWrongFalsely : Prop := lawS5755BPartRow.holds Yba.pinned (OpenSpec.ofChange lawS5755BPartWrong)

end Rows
end Go.Proofs.Ybulkdodw
