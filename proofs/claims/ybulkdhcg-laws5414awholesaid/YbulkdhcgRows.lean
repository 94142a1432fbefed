/-
  No cell of these rows narrows 'for every input' (looked for: loops, veiled, ifaces, maps, wideKeys, modest, calm, conditions, laid).
  DERIVED. THE GIVEN ROWS OF THIS SEAT. 1 by the template 'for every input the law returns true; each argument reads behind the call as it read before'; 0 by the template 'total and deterministic' (their statements: YbulkdhcgTotals.lean).
  GIVEN WITH THE SEED: the statements are not yours to turn. If you find one false, say at which input.
  Laid BY PROGRAM, IN A SANDBOX (cutbox-rows.mjs): the forced cells as the released guide's own fill.sh prints them over the translation 9689c5f79c4bd3d1… (all of the seat's roots in one cut). By AI agents, Wed Nov 11 2026. No macro, syntax, notation, axiom, sorry.
-/
import Derived.Test.YbulkdhcgChecked
import GoSem.Claim
import GoSem.ClaimJoined
import GoSem.ClaimMapViews
import Derived.JoinedTies
import Derived.KernelRfl
namespace Go.Proofs.Ybulkdhcg
/- THE CELL 'sum', in the pinned program and in every row, IS THE sha256 OF THE DUMP (.gsa) THAT YbulkdhcgProg.lean LOADS. Nothing in Lean hashes anything: it is a label: what it is worth is what the hold of that sum in a sandbox is worth. -/
noncomputable def Yba.pinned : Pinned := { name := "ybulkdhcg", sum := "9689c5f79c4bd3d1a175c2ced599b6704f95b5fad573e4d8836c9bf1dcd10ec0", checked := Yba.checked }
namespace Rows
def none {H : Type} : Left H := { results := [], args := [] }

/-- 'weft.LawS5414AWhole': WHATEVER THE INPUT: true; the input reads as it did. -/
def lawS5414AWholeSpec : ChangeSpec := { name := "lawS5414AWhole", fn := fun _ => fun
  | [d1, d2, d3, d4, d5] => { results := [.lit (.bool true)], args := [d1, d2, d3, d4, d5] }
  | _ => none }
def lawS5414AWholeRow : OpenClaim := { program := "ybulkdhcg", sum := "9689c5f79c4bd3d1a175c2ced599b6704f95b5fad573e4d8836c9bf1dcd10ec0", func := "example.com/weft/weft.LawS5414AWhole", spec := "lawS5414AWhole", apart := false }
def LawS5414AWholeSaid : Prop := lawS5414AWholeRow.holds Yba.pinned (OpenSpec.ofChange lawS5414AWholeSpec)

/-- ITS FALSE NEIGHBOUR: 'it returns false'. Refute it at one input. -/
def lawS5414AWholeWrong : ChangeSpec := { name := "lawS5414AWhole", fn := fun _ => fun
  | [d1, d2, d3, d4, d5] => { results := [.lit (.bool false)], args := [d1, d2, d3, d4, d5] }
  | _ => none }
def LawS5414AWholeWrongFalsely : Prop := lawS5414AWholeRow.holds Yba.pinned (OpenSpec.ofChange lawS5414AWholeWrong)

end Rows
end Go.Proofs.Ybulkdhcg
