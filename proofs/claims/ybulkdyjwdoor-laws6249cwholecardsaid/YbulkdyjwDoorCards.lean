/-
  DERIVED. GIVEN WITH THE SEED: THE CARDS: each row of YbulkdyjwDoorRows.lean that lists a variable, with what it lists TIED to the program's text (the seventh form; the later family's looks); each row that meets fmt, with fmt's text TOLD by the authors' own Lean function (tested against real Go, not proved from fmt's source: count such statements apart). THE CARD IS WHAT COUNTS. Prove the row's statement (the work); the ties are given (YbulkdyjwDoorTie.lean); close each card by the builder's one call (the guide's Derived/Test/ToyasCard.lean, 'card_holds'). Laid BY PROGRAM, IN A SANDBOX (cutbox-door.mjs). By AI agents, Wed Nov 11 2026. No macro, syntax, notation, axiom, sorry.
-/
import Derived.Test.YbulkdyjwDoorRows
import GoSem.ClaimSeven
namespace Go.Proofs.YbulkdyjwDoor
namespace Rows

/-- THE TIED CARD OF 'client.LawS6249CWhole'. -/
def lawS6249CWholeCard : Claim7 := { stood := { row := lawS6249CWholeRow, standIns := [], harness := (true, "300e80a021165e47c305d8f4764d5507df81a03f005139de6870e8f53735a92b"), looks := true }, kinds := [], alts := [], laidByText := true, laidKinds := [.data, .data, .data, .sentinel], laidTests := true, laidLooks := .later }
def LawS6249CWholeCardSaid : Prop := Claim7.holds Ybad.pinned (.plain (OpenSpec.ofChange lawS6249CWholeSpec)) lawS6249CWholeCard
end Rows
end Go.Proofs.YbulkdyjwDoor
