/-
  No cell of these rows narrows 'for every input' (looked for: loops, veiled, ifaces, maps, wideKeys, modest, calm, conditions, laid).
  DERIVED. THE GIVEN ROWS OF THIS SEAT. 1 by the template 'for every input the law returns true; each argument reads behind the call as it read before'; 0 by the template 'total and deterministic' (their statements: YbulkdhdwTotals.lean).
  GIVEN WITH THE SEED: the statements are not yours to turn. If you find one false, say at which input.
  Laid BY PROGRAM, IN A SANDBOX (cutbox-rows.mjs): the forced cells as the released guide's own fill.sh prints them over the translation 8461166391197dee… (all of the seat's roots in one cut). By AI agents, Wed Nov 11 2026. No macro, syntax, notation, axiom, sorry.
-/
import Derived.Test.YbulkdhdwChecked
import GoSem.Claim
import GoSem.ClaimJoined
import GoSem.ClaimMapViews
import Derived.JoinedTies
import Derived.KernelRfl
namespace Go.Proofs.Ybulkdhdw
/- THE CELL 'sum', in the pinned program and in every row, IS THE sha256 OF THE DUMP (.gsa) THAT YbulkdhdwProg.lean LOADS. Nothing in Lean hashes anything: it is a label: what it is worth is what the hold of that sum in a sandbox is worth. -/
noncomputable def Yba.pinned : Pinned := { name := "ybulkdhdw", sum := "8461166391197dee20e96acfbdd70ffd9177f8071f222e69ac58eed84750d70b", checked := Yba.checked }
namespace Rows
def none {H : Type} : Left H := { results := [], args := [] }

/-- 'dato.LawS5417BWhole': WHATEVER THE INPUT: true; the input reads as it did. -/
def lawS5417BWholeSpec : ChangeSpec := { name := "lawS5417BWhole", fn := fun _ => fun
  | [d1, d2, d3, d4, d5, d6, d7, d8] => { results := [.lit (.bool true)], args := [d1, d2, d3, d4, d5, d6, d7, d8] }
  | _ => none }
def lawS5417BWholeRow : OpenClaim := { program := "ybulkdhdw", sum := "8461166391197dee20e96acfbdd70ffd9177f8071f222e69ac58eed84750d70b", func := "example.com/dato/dato.LawS5417BWhole", spec := "lawS5417BWhole", apart := false }
def LawS5417BWholeSaid : Prop := lawS5417BWholeRow.holds Yba.pinned (OpenSpec.ofChange lawS5417BWholeSpec)

/-- ITS FALSE NEIGHBOUR: 'it returns false'. Refute it at one input. -/
def lawS5417BWholeWrong : ChangeSpec := { name := "lawS5417BWhole", fn := fun _ => fun
  | [d1, d2, d3, d4, d5, d6, d7, d8] => { results := [.lit (.bool false)], args := [d1, d2, d3, d4, d5, d6, d7, d8] }
  | _ => none }
def LawS5417BWholeWrongFalsely : Prop := lawS5417BWholeRow.holds Yba.pinned (OpenSpec.ofChange lawS5417BWholeWrong)

end Rows
end Go.Proofs.Ybulkdhdw
