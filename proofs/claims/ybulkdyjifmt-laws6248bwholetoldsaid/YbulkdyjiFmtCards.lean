/-
  DERIVED. GIVEN WITH THE SEED: THE CARDS: each row of YbulkdyjiFmtRows.lean that lists a variable, with what it lists TIED to the program's text (the seventh form; the later family's looks); each row that meets fmt, with fmt's text TOLD by the authors' own Lean function (tested against real Go, not proved from fmt's source: count such statements apart). THE CARD IS WHAT COUNTS. Prove the row's statement (the work); the ties are given (YbulkdyjiFmtTie.lean); close each card by the builder's one call (the guide's Derived/Test/ToyasCard.lean, 'card_holds'). Laid BY PROGRAM, IN A SANDBOX (cutbox-door.mjs). By AI agents, Wed Nov 11 2026. No macro, syntax, notation, axiom, sorry.
-/
import Derived.Test.YbulkdyjiFmtRows
import GoSem.ClaimSeven
namespace Go.Proofs.YbulkdyjiFmt
namespace Rows

/-- THE TOLD CARD OF 'driftlock.LawS6248BWhole'. -/
def lawS6248BWholeCard : Claim7 := { stood := { row := lawS6248BWholeRow, standIns := [], harness := (true, "4fa548a58afde7f36858b9644aeb923ce99f2b0b54fc2561e04fc2637f328567"), looks := false }, told := true, goes := false }
def LawS6248BWholeToldSaid : Prop := Claim7.holds Ybaf.pinned (.plain (OpenSpec.ofChange lawS6248BWholeSpec)) lawS6248BWholeCard
/-- ITS FALSE NEIGHBOUR. Refute it at one input. -/
def LawS6248BWholeToldWrongFalsely : Prop := Claim7.holds Ybaf.pinned (.plain (OpenSpec.ofChange lawS6248BWholeWrong)) lawS6248BWholeCard

/-- THE TOLD CARD OF 'driftlock.LawS6248CWhole'. -/
def lawS6248CWholeCard : Claim7 := { stood := { row := lawS6248CWholeRow, standIns := [], harness := (true, "4fa548a58afde7f36858b9644aeb923ce99f2b0b54fc2561e04fc2637f328567"), looks := false }, told := true, goes := false }
def LawS6248CWholeToldSaid : Prop := Claim7.holds Ybaf.pinned (.plain (OpenSpec.ofChange lawS6248CWholeSpec)) lawS6248CWholeCard
/-- ITS FALSE NEIGHBOUR. Refute it at one input. -/
def LawS6248CWholeToldWrongFalsely : Prop := Claim7.holds Ybaf.pinned (.plain (OpenSpec.ofChange lawS6248CWholeWrong)) lawS6248CWholeCard
end Rows
end Go.Proofs.YbulkdyjiFmt
