import Derived.Test.YbulkdyjiFmtStops
import Derived.WalkKit
import Derived.WalkSpells
namespace Go.Proofs.YbulkdyjiFmt
open Go.RowKit

/-- A byte of the allowed 36. -/
def lowc (c : Int) : Bool := decide ((48 ≤ c ∧ c ≤ 57) ∨ (97 ≤ c ∧ c ≤ 122))
/-- 1 to 64 bytes, each allowed. -/
def okId (s : ByteArray) : Bool := decide (1 ≤ s.size ∧ s.size ≤ 64 ∧ ∀ j (h : j < s.size), lowc (s[j].toNat : Int) = true)

theorem lowc_t {c : Int} (h : (48 ≤ c ∧ c ≤ 57) ∨ (97 ≤ c ∧ c ≤ 122)) : lowc c = true := decide_eq_true h
theorem lowc_f {c : Int} (h : ¬ ((48 ≤ c ∧ c ≤ 57) ∨ (97 ≤ c ∧ c ≤ 122))) : lowc c = false := decide_eq_false h

theorem okId_bad {s : ByteArray} {k : Nat} (hk : k < s.size) (h : lowc (s[k].toNat : Int) = false) : okId s = false := by
  refine decide_eq_false ?_
  rintro ⟨_, _, hall⟩
  rw [hall k hk] at h
  cases h
theorem okId_short {s : ByteArray} (h : ¬ (1 ≤ s.size ∧ s.size ≤ 64)) : okId s = false := by
  refine decide_eq_false ?_
  rintro ⟨h1, h2, _⟩
  exact h ⟨h1, h2⟩
theorem okId_good {s : ByteArray} (h1 : 1 ≤ s.size) (h2 : s.size ≤ 64) (h : ∀ j (h : j < s.size), lowc (s[j].toNat : Int) = true) : okId s = true := decide_eq_true ⟨h1, h2, h⟩

/-- What the loops know behind k rounds. -/
def goodTo (s : ByteArray) (k : Nat) : Prop := ∀ j (h : j < s.size), j < k → lowc (s[j].toNat : Int) = true
theorem goodTo_zero (s : ByteArray) : goodTo s 0 := fun _ _ h => absurd h (Nat.not_lt_zero _)
theorem goodTo_succ {s : ByteArray} {k : Nat} (hk : k < s.size) (h : goodTo s k) (hc : lowc (s[k].toNat : Int) = true) : goodTo s (k + 1) := by
  intro j hj hlt
  by_cases e : j = k
  · subst e; exact hc
  · exact h j hj (by omega)

theorem ret_bool {a b : Bool} (h : a = b) : Ending.returned (.bool a) = .returned (.bool b) := by rw [h]

end Go.Proofs.YbulkdyjiFmt
