/-
  No cell of these rows narrows 'for every input' (looked for: loops, veiled, ifaces, maps, wideKeys, modest, calm, conditions, laid).
  DERIVED. THE GIVEN ROWS OF THIS SEAT. 1 by the template 'for every input the law returns true; each argument reads behind the call as it read before'; 0 by the template 'total and deterministic' (their statements: YbulkdyjiTotals.lean).
  GIVEN WITH THE SEED: the statements are not yours to turn. If you find one false, say at which input.
  Laid BY PROGRAM, IN A SANDBOX (cutbox-rows.mjs): the forced cells as the released guide's own fill.sh prints them over the translation d6498934894759fd… (all of the seat's roots in one cut). By AI agents, Wed Nov 11 2026. No macro, syntax, notation, axiom, sorry.
-/
import Derived.Test.YbulkdyjiChecked
import GoSem.Claim
import GoSem.ClaimJoined
import GoSem.ClaimMapViews
import Derived.JoinedTies
import Derived.KernelRfl
namespace Go.Proofs.Ybulkdyji
/- THE CELL 'sum', in the pinned program and in every row, IS THE sha256 OF THE DUMP (.gsa) THAT YbulkdyjiProg.lean LOADS. Nothing in Lean hashes anything: it is a label: what it is worth is what the hold of that sum in a sandbox is worth. -/
noncomputable def Yba.pinned : Pinned := { name := "ybulkdyji", sum := "d6498934894759fd6704cbf2a03f68f8217a8e16215b63541b6c565229c4c229", checked := Yba.checked }
namespace Rows
def none {H : Type} : Left H := { results := [], args := [] }

/-- 'sim.LawS6248AWhole': WHATEVER THE INPUT: true; the input reads as it did. -/
def lawS6248AWholeSpec : ChangeSpec := { name := "lawS6248AWhole", fn := fun _ => fun
  | [d1, d2, d3] => { results := [.lit (.bool true)], args := [d1, d2, d3] }
  | _ => none }
def lawS6248AWholeRow : OpenClaim := { program := "ybulkdyji", sum := "d6498934894759fd6704cbf2a03f68f8217a8e16215b63541b6c565229c4c229", func := "example.com/driftlock/driftlock/internal/sim.LawS6248AWhole", spec := "lawS6248AWhole", recurses := true, apart := false }
def LawS6248AWholeSaid : Prop := lawS6248AWholeRow.holds Yba.pinned (OpenSpec.ofChange lawS6248AWholeSpec)

/-- ITS FALSE NEIGHBOUR: 'it returns false'. Refute it at one input. -/
def lawS6248AWholeWrong : ChangeSpec := { name := "lawS6248AWhole", fn := fun _ => fun
  | [d1, d2, d3] => { results := [.lit (.bool false)], args := [d1, d2, d3] }
  | _ => none }
def LawS6248AWholeWrongFalsely : Prop := lawS6248AWholeRow.holds Yba.pinned (OpenSpec.ofChange lawS6248AWholeWrong)

end Rows
end Go.Proofs.Ybulkdyji
