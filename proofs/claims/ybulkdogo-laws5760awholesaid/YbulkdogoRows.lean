/-
  No cell of these rows narrows 'for every input' (looked for: loops, veiled, ifaces, maps, wideKeys, modest, calm, conditions, laid).
  DERIVED. THE GIVEN ROWS OF THIS SEAT. 1 by the template 'for every input the law returns true; each argument reads behind the call as it read before'; 0 by the template 'total and deterministic' (their statements: YbulkdogoTotals.lean).
  GIVEN WITH THE SEED: the statements are not yours to turn. If you find one false, say at which input.
  Laid BY PROGRAM, IN A SANDBOX (cutbox-rows.mjs): the forced cells as the released guide's own fill.sh prints them over the translation 91808b744104ea8d… (all of the seat's roots in one cut). By AI agents, Wed Nov 11 2026. No macro, syntax, notation, axiom, sorry.
-/
import Derived.Test.YbulkdogoChecked
import GoSem.Claim
import GoSem.ClaimJoined
import GoSem.ClaimMapViews
import Derived.JoinedTies
import Derived.KernelRfl
namespace Go.Proofs.Ybulkdogo
/- THE CELL 'sum', in the pinned program and in every row, IS THE sha256 OF THE DUMP (.gsa) THAT YbulkdogoProg.lean LOADS. Nothing in Lean hashes anything: it is a label: what it is worth is what the hold of that sum in a sandbox is worth. -/
noncomputable def Yba.pinned : Pinned := { name := "ybulkdogo", sum := "91808b744104ea8d4768d5ea20858330684bb1c1d152d0c7107ac377aa81111b", checked := Yba.checked }
namespace Rows
def none {H : Type} : Left H := { results := [], args := [] }

/-- 'sim.LawS5760AWhole': WHATEVER THE INPUT: true; the input reads as it did. -/
def lawS5760AWholeSpec : ChangeSpec := { name := "lawS5760AWhole", fn := fun _ => fun
  | [d1, d2, d3, d4, d5, d6] => { results := [.lit (.bool true)], args := [d1, d2, d3, d4, d5, d6] }
  | _ => none }
def lawS5760AWholeRow : OpenClaim := { program := "ybulkdogo", sum := "91808b744104ea8d4768d5ea20858330684bb1c1d152d0c7107ac377aa81111b", func := "example.com/rungs/rungs/internal/sim.LawS5760AWhole", spec := "lawS5760AWhole", unfollowed := true, recurses := true, apart := false }
def LawS5760AWholeSaid : Prop := lawS5760AWholeRow.holds Yba.pinned (OpenSpec.ofChange lawS5760AWholeSpec)

/-- ITS FALSE NEIGHBOUR: 'it returns false'. Refute it at one input. -/
def lawS5760AWholeWrong : ChangeSpec := { name := "lawS5760AWhole", fn := fun _ => fun
  | [d1, d2, d3, d4, d5, d6] => { results := [.lit (.bool false)], args := [d1, d2, d3, d4, d5, d6] }
  | _ => none }
def LawS5760AWholeWrongFalsely : Prop := lawS5760AWholeRow.holds Yba.pinned (OpenSpec.ofChange lawS5760AWholeWrong)

end Rows
end Go.Proofs.Ybulkdogo
