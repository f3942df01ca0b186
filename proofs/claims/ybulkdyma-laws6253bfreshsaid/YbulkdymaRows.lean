/-
  No cell of these rows narrows 'for every input' (looked for: loops, veiled, ifaces, maps, wideKeys, modest, calm, conditions, laid).
  DERIVED. THE GIVEN ROWS OF THIS SEAT. 2 by the template 'for every input the law returns true; each argument reads behind the call as it read before'; 0 by the template 'total and deterministic' (their statements: YbulkdymaTotals.lean).
  GIVEN WITH THE SEED: the statements are not yours to turn. If you find one false, say at which input.
  Laid BY PROGRAM, IN A SANDBOX (cutbox-rows.mjs): the forced cells as the released guide's own fill.sh prints them over the translation 8511dee0c897908b… (all of the seat's roots in one cut). By AI agents, Wed Nov 11 2026. No macro, syntax, notation, axiom, sorry.
-/
import Derived.Test.YbulkdymaChecked
import GoSem.Claim
import GoSem.ClaimJoined
import GoSem.ClaimMapViews
import Derived.JoinedTies
import Derived.KernelRfl
namespace Go.Proofs.Ybulkdyma
/- THE CELL 'sum', in the pinned program and in every row, IS THE sha256 OF THE DUMP (.gsa) THAT YbulkdymaProg.lean LOADS. Nothing in Lean hashes anything: it is a label: what it is worth is what the hold of that sum in a sandbox is worth. -/
noncomputable def Yba.pinned : Pinned := { name := "ybulkdyma", sum := "8511dee0c897908bc839acc60a17a490c224b2d51f9cb7b68aefa2012fc777ea", checked := Yba.checked }
namespace Rows
def none {H : Type} : Left H := { results := [], args := [] }

/-- 'pool.LawS6253BWhole': WHATEVER THE INPUT: true; the input reads as it did. -/
def lawS6253BWholeSpec : ChangeSpec := { name := "lawS6253BWhole", fn := fun _ => fun
  | [] => { results := [.lit (.bool true)], args := [] }
  | _ => none }
def lawS6253BWholeRow : OpenClaim := { program := "ybulkdyma", sum := "8511dee0c897908bc839acc60a17a490c224b2d51f9cb7b68aefa2012fc777ea", func := "example.com/tollwright/tollwright/pool.LawS6253BWhole", spec := "lawS6253BWhole", apart := false }
def LawS6253BWholeSaid : Prop := lawS6253BWholeRow.holds Yba.pinned (OpenSpec.ofChange lawS6253BWholeSpec)

/-- ITS FALSE NEIGHBOUR: 'it returns false'. Refute it at one input. -/
def lawS6253BWholeWrong : ChangeSpec := { name := "lawS6253BWhole", fn := fun _ => fun
  | [] => { results := [.lit (.bool false)], args := [] }
  | _ => none }
def LawS6253BWholeWrongFalsely : Prop := lawS6253BWholeRow.holds Yba.pinned (OpenSpec.ofChange lawS6253BWholeWrong)

/-- 'pool.LawS6253BFresh': WHATEVER THE INPUT: true; the input reads as it did. -/
def lawS6253BFreshSpec : ChangeSpec := { name := "lawS6253BFresh", fn := fun _ => fun
  | [d1, d2] => { results := [.lit (.bool true)], args := [d1, d2] }
  | _ => none }
def lawS6253BFreshRow : OpenClaim := { program := "ybulkdyma", sum := "8511dee0c897908bc839acc60a17a490c224b2d51f9cb7b68aefa2012fc777ea", func := "example.com/tollwright/tollwright/pool.LawS6253BFresh", spec := "lawS6253BFresh", apart := false }
def LawS6253BFreshSaid : Prop := lawS6253BFreshRow.holds Yba.pinned (OpenSpec.ofChange lawS6253BFreshSpec)

/-- ITS FALSE NEIGHBOUR: 'it returns false'. Refute it at one input. -/
def lawS6253BFreshWrong : ChangeSpec := { name := "lawS6253BFresh", fn := fun _ => fun
  | [d1, d2] => { results := [.lit (.bool false)], args := [d1, d2] }
  | _ => none }
def LawS6253BFreshWrongFalsely : Prop := lawS6253BFreshRow.holds Yba.pinned (OpenSpec.ofChange lawS6253BFreshWrong)

end Rows
end Go.Proofs.Ybulkdyma
