/-
  NARROWER THAN 'FOR EVERY INPUT', by the rows' own cells (each row's printed sentence says how): LawS5759BWhole: laid.
  DERIVED. THE GIVEN ROWS OF THIS SEAT. 1 by the template 'for every input the law returns true; each argument reads behind the call as it read before'; 0 by the template 'total and deterministic' (their statements: YbulkdogaDoorTotals.lean).
  GIVEN WITH THE SEED: the statements are not yours to turn. If you find one false, say at which input.
  Laid BY PROGRAM, IN A SANDBOX (cutbox-rows.mjs): the forced cells as the released guide's own fill.sh prints them over the translation a3885454491ce1c9… (all of the seat's roots in one cut). By AI agents, Wed Nov 11 2026. No macro, syntax, notation, axiom, sorry.
-/
import Derived.Test.YbulkdogaDoorChecked
import GoSem.Claim
import GoSem.ClaimJoined
import GoSem.ClaimMapViews
import Derived.JoinedTies
import Derived.KernelRfl
namespace Go.Proofs.YbulkdogaDoor
/- THE CELL 'sum', in the pinned program and in every row, IS THE sha256 OF THE DUMP (.gsa) THAT YbulkdogaDoorProg.lean LOADS. Nothing in Lean hashes anything: it is a label: what it is worth is what the hold of that sum in a sandbox is worth. -/
noncomputable def Ybad.pinned : Pinned := { name := "ybulkdogadoor", sum := "a3885454491ce1c9b53b1a99322c0369eaeca2a477f80ded384486eb382eaee7", checked := Ybad.checked }
namespace Rows
def none {H : Type} : Left H := { results := [], args := [] }

/- WHAT THE LISTED PACKAGE-LEVEL VARIABLES READ AS WHEN THE CALL BEGINS. Each datum BY PROGRAM (the guide's laid-datum.mjs) off the statement by which the dump's own 'gosem.cut.vars' lays the variable. In a bare row this is a premise. The card (YbulkdogaDoorCards.lean) ties it to the program's text. -/
def laid_example_com_chronolith_chronolith_internal_chunk_pow10 {H : Type} : DataW H := .agg [.lit (.float .f64 4607182418800017408), .lit (.float .f64 4621819117588971520), .lit (.float .f64 4636737291354636288), .lit (.float .f64 4652007308841189376), .lit (.float .f64 4666723172467343360), .lit (.float .f64 4681608360884174848), .lit (.float .f64 4696837146684686336), .lit (.float .f64 4711630319722168320), .lit (.float .f64 4726483295884279808), .lit (.float .f64 4741671816366391296), .lit (.float .f64 4756540486875873280), .lit (.float .f64 4771362005757984768), .lit (.float .f64 4786511204640096256), .lit (.float .f64 4801453603149578240), .lit (.float .f64 4816244402031689728), .lit (.float .f64 4831355200913801216), .lit (.float .f64 4846369599423283200), .lit (.float .f64 4861130398305394688), .lit (.float .f64 4876203697187506176), .lit (.float .f64 4891288408196988160), .lit (.float .f64 4906019910204099648), .lit (.float .f64 4921056587992461136), .lit (.float .f64 4936209963552724370)]

/-- 'chunk.LawS5759BWhole': WHATEVER THE INPUT: true; the input reads as it did. -/
def lawS5759BWholeSpec : ChangeSpec := { name := "lawS5759BWhole", vars := ["example.com/chronolith/chronolith/internal/chunk.pow10"], fn := fun _ => fun
  | [d1, d2, g1] => { results := [.lit (.bool true)], args := [d1, d2], vars := [g1] }
  | _ => none }
def lawS5759BWholeRow : OpenClaim := { program := "ybulkdogadoor", sum := "a3885454491ce1c9b53b1a99322c0369eaeca2a477f80ded384486eb382eaee7", func := "example.com/chronolith/chronolith/internal/chunk.LawS5759BWhole", spec := "lawS5759BWhole", inPlace := ["math.archTrunc", "math.Float64bits", "math.Float64frombits"], named := ["example.com/chronolith/chronolith/internal/chunk.pow10"], apart := false, laid := [("example.com/chronolith/chronolith/internal/chunk.pow10", laid_example_com_chronolith_chronolith_internal_chunk_pow10)] }
def LawS5759BWholeSaid : Prop := lawS5759BWholeRow.holds Ybad.pinned (OpenSpec.ofChange lawS5759BWholeSpec)

/-- ITS FALSE NEIGHBOUR: 'it returns false'. Refute it at one input. -/
def lawS5759BWholeWrong : ChangeSpec := { name := "lawS5759BWhole", vars := ["example.com/chronolith/chronolith/internal/chunk.pow10"], fn := fun _ => fun
  | [d1, d2, g1] => { results := [.lit (.bool false)], args := [d1, d2], vars := [g1] }
  | _ => none }
def LawS5759BWholeWrongFalsely : Prop := lawS5759BWholeRow.holds Ybad.pinned (OpenSpec.ofChange lawS5759BWholeWrong)

end Rows
end Go.Proofs.YbulkdogaDoor
