/-
  No cell of these rows narrows 'for every input' (looked for: loops, veiled, ifaces, maps, wideKeys, modest, calm, conditions, laid).
  DERIVED. THE GIVEN ROWS OF THIS SEAT. 1 by the template 'for every input the law returns true; each argument reads behind the call as it read before'; 0 by the template 'total and deterministic' (their statements: YbulkdhbsTotals.lean).
  GIVEN WITH THE SEED: the statements are not yours to turn. If you find one false, say at which input.
  Laid BY PROGRAM, IN A SANDBOX (cutbox-rows.mjs): the forced cells as the released guide's own fill.sh prints them over the translation 979a1c77ed86b1b3… (all of the seat's roots in one cut). By AI agents, Wed Nov 11 2026. No macro, syntax, notation, axiom, sorry.
-/
import Derived.Test.YbulkdhbsChecked
import GoSem.Claim
import GoSem.ClaimJoined
import GoSem.ClaimMapViews
import Derived.JoinedTies
import Derived.KernelRfl
namespace Go.Proofs.Ybulkdhbs
/- THE CELL 'sum', in the pinned program and in every row, IS THE sha256 OF THE DUMP (.gsa) THAT YbulkdhbsProg.lean LOADS. Nothing in Lean hashes anything: it is a label: what it is worth is what the hold of that sum in a sandbox is worth. -/
noncomputable def Yba.pinned : Pinned := { name := "ybulkdhbs", sum := "979a1c77ed86b1b3f8c1ddac3e312817e321409d862b6b4c3da7df354981095c", checked := Yba.checked }
namespace Rows
def none {H : Type} : Left H := { results := [], args := [] }

/-- 'graphql.LawS5413CWhole': WHATEVER THE INPUT: true; the input reads as it did. -/
def lawS5413CWholeSpec : ChangeSpec := { name := "lawS5413CWhole", fn := fun _ => fun
  | [d1, d2, d3] => { results := [.lit (.bool true)], args := [d1, d2, d3] }
  | _ => none }
def lawS5413CWholeRow : OpenClaim := { program := "ybulkdhbs", sum := "979a1c77ed86b1b3f8c1ddac3e312817e321409d862b6b4c3da7df354981095c", func := "example.com/edgewalk/edgewalk/internal/graphql.LawS5413CWhole", spec := "lawS5413CWhole", apart := false }
def LawS5413CWholeSaid : Prop := lawS5413CWholeRow.holds Yba.pinned (OpenSpec.ofChange lawS5413CWholeSpec)

/-- ITS FALSE NEIGHBOUR: 'it returns false'. Refute it at one input. -/
def lawS5413CWholeWrong : ChangeSpec := { name := "lawS5413CWhole", fn := fun _ => fun
  | [d1, d2, d3] => { results := [.lit (.bool false)], args := [d1, d2, d3] }
  | _ => none }
def LawS5413CWholeWrongFalsely : Prop := lawS5413CWholeRow.holds Yba.pinned (OpenSpec.ofChange lawS5413CWholeWrong)

end Rows
end Go.Proofs.Ybulkdhbs
