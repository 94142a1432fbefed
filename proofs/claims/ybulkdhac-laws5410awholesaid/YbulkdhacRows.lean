/-
  No cell of these rows narrows 'for every input' (looked for: loops, veiled, ifaces, maps, wideKeys, modest, calm, conditions, laid).
  DERIVED. THE GIVEN ROWS OF THIS SEAT. 1 by the template 'for every input the law returns true; each argument reads behind the call as it read before'; 0 by the template 'total and deterministic' (their statements: YbulkdhacTotals.lean).
  GIVEN WITH THE SEED: the statements are not yours to turn. If you find one false, say at which input.
  Laid BY PROGRAM, IN A SANDBOX (cutbox-rows.mjs): the forced cells as the released guide's own fill.sh prints them over the translation 1d8abfdb194a0cf3… (all of the seat's roots in one cut). By AI agents, Wed Nov 11 2026. No macro, syntax, notation, axiom, sorry.
-/
import Derived.Test.YbulkdhacChecked
import GoSem.Claim
import GoSem.ClaimJoined
import GoSem.ClaimMapViews
import Derived.JoinedTies
import Derived.KernelRfl
namespace Go.Proofs.Ybulkdhac
/- THE CELL 'sum', in the pinned program and in every row, IS THE sha256 OF THE DUMP (.gsa) THAT YbulkdhacProg.lean LOADS. Nothing in Lean hashes anything: it is a label: what it is worth is what the hold of that sum in a sandbox is worth. -/
noncomputable def Yba.pinned : Pinned := { name := "ybulkdhac", sum := "1d8abfdb194a0cf34f092e605e9b2e046087ed515c081f97d76e478a7934ce7d", checked := Yba.checked }
namespace Rows
def none {H : Type} : Left H := { results := [], args := [] }

/-- 'pacewatch.LawS5410AWhole': WHATEVER THE INPUT: true; the input reads as it did. -/
def lawS5410AWholeSpec : ChangeSpec := { name := "lawS5410AWhole", fn := fun _ => fun
  | [d1, d2] => { results := [.lit (.bool true)], args := [d1, d2] }
  | _ => none }
def lawS5410AWholeRow : OpenClaim := { program := "ybulkdhac", sum := "1d8abfdb194a0cf34f092e605e9b2e046087ed515c081f97d76e478a7934ce7d", func := "example.com/pacewatch/pacewatch.LawS5410AWhole", spec := "lawS5410AWhole", apart := false }
def LawS5410AWholeSaid : Prop := lawS5410AWholeRow.holds Yba.pinned (OpenSpec.ofChange lawS5410AWholeSpec)

/-- ITS FALSE NEIGHBOUR: 'it returns false'. Refute it at one input. -/
def lawS5410AWholeWrong : ChangeSpec := { name := "lawS5410AWhole", fn := fun _ => fun
  | [d1, d2] => { results := [.lit (.bool false)], args := [d1, d2] }
  | _ => none }
def LawS5410AWholeWrongFalsely : Prop := lawS5410AWholeRow.holds Yba.pinned (OpenSpec.ofChange lawS5410AWholeWrong)

end Rows
end Go.Proofs.Ybulkdhac
