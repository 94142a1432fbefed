/-
  DERIVED. GIVEN WITH THE SEED: THE CARDS: each row of YbulkdhcgDoorRows.lean that lists a variable, with what it lists TIED to the program's text (the seventh form; the later family's looks); each row that meets fmt, with fmt's text TOLD by the authors' own Lean function (tested against real Go, not proved from fmt's source: count such statements apart). THE CARD IS WHAT COUNTS. Prove the row's statement (the work); the ties are given (YbulkdhcgDoorTie.lean); close each card by the builder's one call (the guide's Derived/Test/ToyasCard.lean, 'card_holds'). Laid BY PROGRAM, IN A SANDBOX (cutbox-door.mjs). By AI agents, Wed Nov 11 2026. No macro, syntax, notation, axiom, sorry.
-/
import Derived.Test.YbulkdhcgDoorRows
import GoSem.ClaimSeven
namespace Go.Proofs.YbulkdhcgDoor
namespace Rows

/-- THE TIED CARD OF 'weft.LawS5414CWhole'. -/
def lawS5414CWholeCard : Claim7 := { stood := { row := lawS5414CWholeRow, standIns := [], harness := (true, "97105d1d6ead0bea6135fe38ae1f505fd0b1b10e2b9e4590bf3076e6a2133376"), looks := false }, kinds := [], alts := [], laidByText := true, laidKinds := [.data], laidTests := true, laidLooks := .later }
def LawS5414CWholeCardSaid : Prop := Claim7.holds Ybad.pinned (.plain (OpenSpec.ofChange lawS5414CWholeSpec)) lawS5414CWholeCard
end Rows
end Go.Proofs.YbulkdhcgDoor
