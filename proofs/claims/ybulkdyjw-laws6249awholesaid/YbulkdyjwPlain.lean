import Derived.Test.YbulkdyjwProg
import Derived.KernelRfl
import Derived.WalkKit
import Derived.WalkSpells
import Derived.WalkLawsBesides
namespace Go.Proofs.Ybulkdyjw
open Go.RowKit

/-- x lies in (a, b], going clockwise: InHalfOpen's own text. -/
def inHalf (x a b : Int) : Bool := decide ((a < b ∧ a < x ∧ x ≤ b) ∨ (¬ a < b ∧ (a < x ∨ x ≤ b)))
theorem inHalf_t {x a b : Int} (h : (a < b ∧ a < x ∧ x ≤ b) ∨ (¬ a < b ∧ (a < x ∨ x ≤ b))) : inHalf x a b = true := decide_eq_true h
theorem inHalf_f {x a b : Int} (h : ¬ ((a < b ∧ a < x ∧ x ≤ b) ∨ (¬ a < b ∧ (a < x ∨ x ≤ b)))) : inHalf x a b = false := decide_eq_false h

/-- The key of index i. -/
def keyB (i : Nat) : ByteArray := ⟨#[107, UInt8.ofNat i, UInt8.ofNat (i / 256), UInt8.ofNat (i / 65536)]⟩
theorem keyB_inj {i j : Nat} (hi : i < 65536) (hj : j < 65536) (h : keyB i = keyB j) : i = j := by
  unfold keyB at h
  simp only [ByteArray.mk.injEq, Array.mk.injEq, List.cons.injEq, and_true, true_and] at h
  obtain ⟨h1, h2, _⟩ := h
  have e1 := congrArg UInt8.toNat h1
  have e2 := congrArg UInt8.toNat h2
  simp at e1 e2
  omega
theorem keyB_size (i : Nat) : (keyB i).size = 4 := rfl

theorem ret_bool {a b : Bool} (h : a = b) : Ending.returned (.bool a) = .returned (.bool b) := by rw [h]

end Go.Proofs.Ybulkdyjw
