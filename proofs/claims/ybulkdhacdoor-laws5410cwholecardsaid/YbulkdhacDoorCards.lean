/-
  DERIVED. GIVEN WITH THE SEED: THE CARDS: each row of YbulkdhacDoorRows.lean that lists a variable, with what it lists TIED to the program's text (the seventh form; the later family's looks); each row that meets fmt, with fmt's text TOLD by the authors' own Lean function (tested against real Go, not proved from fmt's source: count such statements apart). THE CARD IS WHAT COUNTS. Prove the row's statement (the work); the ties are given (YbulkdhacDoorTie.lean); close each card by the builder's one call (the guide's Derived/Test/ToyasCard.lean, 'card_holds'). Laid BY PROGRAM, IN A SANDBOX (cutbox-door.mjs). By AI agents, Wed Nov 11 2026. No macro, syntax, notation, axiom, sorry.
-/
import Derived.Test.YbulkdhacDoorRows
import GoSem.ClaimSeven
namespace Go.Proofs.YbulkdhacDoor
namespace Rows

/-- THE TIED CARD OF 'pacewatch.LawS5410CWhole'. -/
def lawS5410CWholeCard : Claim7 := { stood := { row := lawS5410CWholeRow, standIns := [], harness := (true, "c652dc11cfe05565620007801dc2d6c1f9e71b16c8798c7db9f9e5f08214d915"), looks := false }, kinds := [], alts := [], laidByText := true, laidKinds := [.called], laidTests := true, laidLooks := .later }
def LawS5410CWholeCardSaid : Prop := Claim7.holds Ybad.pinned (.plain (OpenSpec.ofChange lawS5410CWholeSpec)) lawS5410CWholeCard
end Rows
end Go.Proofs.YbulkdhacDoor
