/-
  No cell of these rows narrows 'for every input' (looked for: loops, veiled, ifaces, maps, wideKeys, modest, calm, conditions, laid).
  DERIVED. THE GIVEN ROWS OF THIS SEAT. 2 by the template 'for every input the law returns true; each argument reads behind the call as it read before'; 0 by the template 'total and deterministic' (their statements: YbulkdyjiFmtTotals.lean).
  GIVEN WITH THE SEED: the statements are not yours to turn. If you find one false, say at which input.
  Laid BY PROGRAM, IN A SANDBOX (cutbox-rows.mjs): the forced cells as the released guide's own fill.sh prints them over the translation 54d0ed5be49a66ad… (all of the seat's roots in one cut). By AI agents, Wed Nov 11 2026. No macro, syntax, notation, axiom, sorry.
-/
import Derived.Test.YbulkdyjiFmtChecked
import GoSem.Claim
import GoSem.ClaimJoined
import GoSem.ClaimMapViews
import Derived.JoinedTies
import Derived.KernelRfl
namespace Go.Proofs.YbulkdyjiFmt
/- THE CELL 'sum', in the pinned program and in every row, IS THE sha256 OF THE DUMP (.gsa) THAT YbulkdyjiFmtProg.lean LOADS. Nothing in Lean hashes anything: it is a label: what it is worth is what the hold of that sum in a sandbox is worth. -/
noncomputable def Ybaf.pinned : Pinned := { name := "ybulkdyjifmt", sum := "54d0ed5be49a66ad435d6940636501cf4a834623d42874b05a61c9c4bae8aad4", checked := Ybaf.checked }
namespace Rows
def none {H : Type} : Left H := { results := [], args := [] }

/-- 'driftlock.LawS6248BWhole': WHATEVER THE INPUT: true; the input reads as it did. -/
def lawS6248BWholeSpec : ChangeSpec := { name := "lawS6248BWhole", fn := fun _ => fun
  | [d1, d2, d3, d4] => { results := [.lit (.bool true)], args := [d1, d2, d3, d4] }
  | _ => none }
def lawS6248BWholeRow : OpenClaim := { program := "ybulkdyjifmt", sum := "54d0ed5be49a66ad435d6940636501cf4a834623d42874b05a61c9c4bae8aad4", func := "example.com/driftlock/driftlock.LawS6248BWhole", spec := "lawS6248BWhole", stops := ["fmt.Sprintf", "fmt.errorf"], inPlace := ["fmt.Sprintf", "fmt.errorf"], unfollowed := true, recurses := true, apart := false }
/-- NO THEOREM (fmt's text is open here; it may be false): for the released tool's asking of the row's closed facts alone. THE STATEMENT IS 'LawS6248BWholeToldSaid' (YbulkdyjiFmtCards.lean). -/
def LawS6248BWholeFormAsk : Prop := lawS6248BWholeRow.holds Ybaf.pinned (OpenSpec.ofChange lawS6248BWholeSpec)

/-- ITS FALSE NEIGHBOUR: 'it returns false'. Refute it at one input. -/
def lawS6248BWholeWrong : ChangeSpec := { name := "lawS6248BWhole", fn := fun _ => fun
  | [d1, d2, d3, d4] => { results := [.lit (.bool false)], args := [d1, d2, d3, d4] }
  | _ => none }
def LawS6248BWholeWrongFormAsk : Prop := lawS6248BWholeRow.holds Ybaf.pinned (OpenSpec.ofChange lawS6248BWholeWrong)

/-- 'driftlock.LawS6248CWhole': WHATEVER THE INPUT: true; the input reads as it did. -/
def lawS6248CWholeSpec : ChangeSpec := { name := "lawS6248CWhole", fn := fun _ => fun
  | [d] => { results := [.lit (.bool true)], args := [d] }
  | _ => none }
def lawS6248CWholeRow : OpenClaim := { program := "ybulkdyjifmt", sum := "54d0ed5be49a66ad435d6940636501cf4a834623d42874b05a61c9c4bae8aad4", func := "example.com/driftlock/driftlock.LawS6248CWhole", spec := "lawS6248CWhole", stops := ["fmt.Sprintf", "fmt.errorf"], inPlace := ["fmt.Sprintf"], apart := false }
/-- NO THEOREM (fmt's text is open here; it may be false): for the released tool's asking of the row's closed facts alone. THE STATEMENT IS 'LawS6248CWholeToldSaid' (YbulkdyjiFmtCards.lean). -/
def LawS6248CWholeFormAsk : Prop := lawS6248CWholeRow.holds Ybaf.pinned (OpenSpec.ofChange lawS6248CWholeSpec)

/-- ITS FALSE NEIGHBOUR: 'it returns false'. Refute it at one input. -/
def lawS6248CWholeWrong : ChangeSpec := { name := "lawS6248CWhole", fn := fun _ => fun
  | [d] => { results := [.lit (.bool false)], args := [d] }
  | _ => none }
def LawS6248CWholeWrongFormAsk : Prop := lawS6248CWholeRow.holds Ybaf.pinned (OpenSpec.ofChange lawS6248CWholeWrong)

end Rows
end Go.Proofs.YbulkdyjiFmt
