import Derived.Test.YbulkdyjiFmtStops
import Derived.WalkKit
import Derived.WalkSpells
namespace Go.Proofs.YbulkdyjiFmt
open Go.RowKit Go.Extern.Stop Go.Stop Go.Extern

set_option maxHeartbeats 400000 in
/-- LawS6248CWhole returns true; at a value that is none of the four the call of fmt lays one block and draws once. -/
theorem c_walk (F : Interp) (r : Int) (w : World) (hF : F.answers w.tape) :
    Calls Ybaf.prog 4 #[.int .i64 r] w fun e w' => e = .returned (.bool true) ∧ Below w.heap.size w w' := by
  have hF' := answers_open hF
  by_cases h1 : r = 1
  · subst h1
    go_enter Ybaf.func4, Ybaf.ntmps4
    go_wp2
    go_ret
    exact ⟨rfl, Below.refl _ _⟩
  by_cases h2 : r = 2
  · subst h2
    go_enter Ybaf.func4, Ybaf.ntmps4
    go_wp2
    go_ret
    exact ⟨rfl, Below.refl _ _⟩
  by_cases h3 : r = 3
  · subst h3
    go_enter Ybaf.func4, Ybaf.ntmps4
    go_wp2
    go_ret
    exact ⟨rfl, Below.refl _ _⟩
  by_cases h4 : r = 4
  · subst h4
    go_enter Ybaf.func4, Ybaf.ntmps4
    go_wp2
    go_ret
    exact ⟨rfl, Below.refl _ _⟩
  have b1 : (r == 1) = false := by simpa using h1
  have b2 : (r == 2) = false := by simpa using h2
  have b3 : (r == 3) = false := by simpa using h3
  have b4 : (r == 4) = false := by simpa using h4
  clear h1 h2 h3 h4
  go_enter Ybaf.func4, Ybaf.ntmps4
  go_wp2
  go_ret
  exact ⟨rfl, ((Below.refl _ w).alloc (Nat.le_refl _) _).drew⟩

end Go.Proofs.YbulkdyjiFmt
