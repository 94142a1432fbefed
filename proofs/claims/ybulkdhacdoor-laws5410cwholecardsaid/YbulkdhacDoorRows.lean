/-
  NARROWER THAN 'FOR EVERY INPUT', by the rows' own cells (each row's printed sentence says how): LawS5410CWhole: laid.
  DERIVED. THE GIVEN ROWS OF THIS SEAT. 1 by the template 'for every input the law returns true; each argument reads behind the call as it read before'; 0 by the template 'total and deterministic' (their statements: YbulkdhacDoorTotals.lean).
  GIVEN WITH THE SEED: the statements are not yours to turn. If you find one false, say at which input.
  Laid BY PROGRAM, IN A SANDBOX (cutbox-rows.mjs): the forced cells as the released guide's own fill.sh prints them over the translation 0143d1b0126231d9… (all of the seat's roots in one cut). By AI agents, Wed Nov 11 2026. No macro, syntax, notation, axiom, sorry.
-/
import Derived.Test.YbulkdhacDoorChecked
import GoSem.Claim
import GoSem.ClaimJoined
import GoSem.ClaimMapViews
import Derived.JoinedTies
import Derived.KernelRfl
namespace Go.Proofs.YbulkdhacDoor
/- THE CELL 'sum', in the pinned program and in every row, IS THE sha256 OF THE DUMP (.gsa) THAT YbulkdhacDoorProg.lean LOADS. Nothing in Lean hashes anything: it is a label: what it is worth is what the hold of that sum in a sandbox is worth. -/
noncomputable def Ybad.pinned : Pinned := { name := "ybulkdhacdoor", sum := "0143d1b0126231d9724d6ea40d10f79fee19c85a2ed621906198c47422eb2da7", checked := Ybad.checked }
namespace Rows
def none {H : Type} : Left H := { results := [], args := [] }

/- WHAT THE LISTED PACKAGE-LEVEL VARIABLES READ AS WHEN THE CALL BEGINS. Each datum BY PROGRAM (the guide's laid-datum.mjs) off the statement by which the dump's own 'gosem.cut.vars' lays the variable. In a bare row this is a premise. The card (YbulkdhacDoorCards.lean) ties it to the program's text. -/
def laid_example_com_pacewatch_pacewatch_pow10 {H : Type} : DataW H := .agg [.lit (.int .u64 1), .lit (.int .u64 10), .lit (.int .u64 100), .lit (.int .u64 1000), .lit (.int .u64 10000), .lit (.int .u64 100000), .lit (.int .u64 1000000), .lit (.int .u64 10000000), .lit (.int .u64 100000000), .lit (.int .u64 1000000000), .lit (.int .u64 10000000000), .lit (.int .u64 100000000000), .lit (.int .u64 1000000000000), .lit (.int .u64 10000000000000), .lit (.int .u64 100000000000000), .lit (.int .u64 1000000000000000), .lit (.int .u64 10000000000000000), .lit (.int .u64 100000000000000000), .lit (.int .u64 1000000000000000000), .lit (.int .u64 10000000000000000000)]

/-- 'pacewatch.LawS5410CWhole': WHATEVER THE INPUT: true; the input reads as it did. -/
def lawS5410CWholeSpec : ChangeSpec := { name := "lawS5410CWhole", vars := ["example.com/pacewatch/pacewatch.pow10"], fn := fun _ => fun
  | [d1, d2, d3, g1] => { results := [.lit (.bool true)], args := [d1, d2, d3], vars := [g1] }
  | _ => none }
def lawS5410CWholeRow : OpenClaim := { program := "ybulkdhacdoor", sum := "0143d1b0126231d9724d6ea40d10f79fee19c85a2ed621906198c47422eb2da7", func := "example.com/pacewatch/pacewatch.LawS5410CWhole", spec := "lawS5410CWhole", inPlace := ["math.archLog", "math.Float64bits", "math.Float64frombits"], named := ["example.com/pacewatch/pacewatch.pow10"], apart := false, laid := [("example.com/pacewatch/pacewatch.pow10", laid_example_com_pacewatch_pacewatch_pow10)] }
def LawS5410CWholeSaid : Prop := lawS5410CWholeRow.holds Ybad.pinned (OpenSpec.ofChange lawS5410CWholeSpec)

/-- ITS FALSE NEIGHBOUR: 'it returns false'. Refute it at one input. -/
def lawS5410CWholeWrong : ChangeSpec := { name := "lawS5410CWhole", vars := ["example.com/pacewatch/pacewatch.pow10"], fn := fun _ => fun
  | [d1, d2, d3, g1] => { results := [.lit (.bool false)], args := [d1, d2, d3], vars := [g1] }
  | _ => none }
def LawS5410CWholeWrongFalsely : Prop := lawS5410CWholeRow.holds Ybad.pinned (OpenSpec.ofChange lawS5410CWholeWrong)

end Rows
end Go.Proofs.YbulkdhacDoor
