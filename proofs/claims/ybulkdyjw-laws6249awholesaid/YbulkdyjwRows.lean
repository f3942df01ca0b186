/-
  No cell of these rows narrows 'for every input' (looked for: loops, veiled, ifaces, maps, wideKeys, modest, calm, conditions, laid).
  DERIVED. THE GIVEN ROWS OF THIS SEAT. 1 by the template 'for every input the law returns true; each argument reads behind the call as it read before'; 0 by the template 'total and deterministic' (their statements: YbulkdyjwTotals.lean).
  GIVEN WITH THE SEED: the statements are not yours to turn. If you find one false, say at which input.
  Laid BY PROGRAM, IN A SANDBOX (cutbox-rows.mjs): the forced cells as the released guide's own fill.sh prints them over the translation 122c80109de0f9c4… (all of the seat's roots in one cut). By AI agents, Wed Nov 11 2026. No macro, syntax, notation, axiom, sorry.
-/
import Derived.Test.YbulkdyjwChecked
import GoSem.Claim
import GoSem.ClaimJoined
import GoSem.ClaimMapViews
import Derived.JoinedTies
import Derived.KernelRfl
namespace Go.Proofs.Ybulkdyjw
/- THE CELL 'sum', in the pinned program and in every row, IS THE sha256 OF THE DUMP (.gsa) THAT YbulkdyjwProg.lean LOADS. Nothing in Lean hashes anything: it is a label: what it is worth is what the hold of that sum in a sandbox is worth. -/
noncomputable def Yba.pinned : Pinned := { name := "ybulkdyjw", sum := "122c80109de0f9c488770c435997a4f9805ec2d60d4c566c43ba2a040a9ad635", checked := Yba.checked }
namespace Rows
def none {H : Type} : Left H := { results := [], args := [] }

/-- 'store.LawS6249AWhole': WHATEVER THE INPUT: true; the input reads as it did. -/
def lawS6249AWholeSpec : ChangeSpec := { name := "lawS6249AWhole", fn := fun _ => fun
  | [d1, d2, d3, d4, d5] => { results := [.lit (.bool true)], args := [d1, d2, d3, d4, d5] }
  | _ => none }
def lawS6249AWholeRow : OpenClaim := { program := "ybulkdyjw", sum := "122c80109de0f9c488770c435997a4f9805ec2d60d4c566c43ba2a040a9ad635", func := "example.com/ringwise/ringwise/store.LawS6249AWhole", spec := "lawS6249AWhole", apart := false }
def LawS6249AWholeSaid : Prop := lawS6249AWholeRow.holds Yba.pinned (OpenSpec.ofChange lawS6249AWholeSpec)

/-- ITS FALSE NEIGHBOUR: 'it returns false'. Refute it at one input. -/
def lawS6249AWholeWrong : ChangeSpec := { name := "lawS6249AWhole", fn := fun _ => fun
  | [d1, d2, d3, d4, d5] => { results := [.lit (.bool false)], args := [d1, d2, d3, d4, d5] }
  | _ => none }
def LawS6249AWholeWrongFalsely : Prop := lawS6249AWholeRow.holds Yba.pinned (OpenSpec.ofChange lawS6249AWholeWrong)

end Rows
end Go.Proofs.Ybulkdyjw
