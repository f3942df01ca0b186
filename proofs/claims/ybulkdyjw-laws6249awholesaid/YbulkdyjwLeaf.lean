import Derived.Test.YbulkdyjwPlain
import Derived.Laws.IdiomStrings
import Derived.WideShapes
namespace Go.Proofs.Ybulkdyjw
open Go.RowKit

set_option maxHeartbeats 400000 in
theorem half_any (x a b : Int) (w : World) : Calls Yba.prog 6 #[.int .u64 x, .int .u64 a, .int .u64 b] w fun e w' => e = .returned (.bool (inHalf x a b)) ∧ w' = w := by
  by_cases hab : a < b
  · by_cases h1 : a < x
    · by_cases h2 : x ≤ b
      · rw [inHalf_t (by omega)]
        go_enter Yba.func6, Yba.ntmps6
        go_wp2
        go_ret
        exact ⟨rfl, rfl⟩
      · rw [inHalf_f (by omega)]
        go_enter Yba.func6, Yba.ntmps6
        go_wp2
        go_ret
        exact ⟨rfl, rfl⟩
    · rw [inHalf_f (by omega)]
      go_enter Yba.func6, Yba.ntmps6
      go_wp2
      go_ret
      exact ⟨rfl, rfl⟩
  · by_cases h1 : a < x
    · rw [inHalf_t (by omega)]
      go_enter Yba.func6, Yba.ntmps6
      go_wp2
      go_ret
      exact ⟨rfl, rfl⟩
    · by_cases h2 : x ≤ b
      · rw [inHalf_t (by omega)]
        go_enter Yba.func6, Yba.ntmps6
        go_wp2
        go_ret
        exact ⟨rfl, rfl⟩
      · rw [inHalf_f (by omega)]
        go_enter Yba.func6, Yba.ntmps6
        go_wp2
        go_ret
        exact ⟨rfl, rfl⟩

theorem u8_0 (i : Nat) : ((UInt8.ofNat i).toNat : Int) = (i : Int) % 256 := by simp
theorem u8_1 (i : Nat) (hi : i < 65536) : ((UInt8.ofNat (i / 256)).toNat : Int) = (i : Int) / 256 := by simp; omega
theorem u8_2 (i : Nat) (hi : i < 65536) : ((UInt8.ofNat (i / 65536)).toNat : Int) = (i : Int) / 65536 := by simp; omega

set_option maxHeartbeats 400000 in
theorem key_any (i : Nat) (w : World) (hi : i < 65536) : Calls Yba.prog 4 #[.int .i64 i] w fun e w' => e = .returned (.string (keyB i)) ∧ ∃ o, w' = w.alloc o := by
  obtain ⟨W, hW⟩ : ∃ W, W = w.alloc (.cells #[.int .u8 107, .int .u8 ((i : Int) % 256), .int .u8 ((i : Int) / 256), .int .u8 ((i : Int) / 65536)] 5) := ⟨_, rfl⟩
  have hback := run_convert_bytes_back (P := Yba.prog) W 40 9 5 ⟨w.heap.size, 0, none⟩ 4 [107, UInt8.ofNat i, UInt8.ofNat (i / 256), UInt8.ofNat (i / 65536)] Yba.underlying40 Yba.underlying5 Yba.underlying9 (fun j hj => by
    rw [WideShapes.add_plain, hW]
    match j, hj with
    | 0, _ => simp
    | 1, _ => simp
    | 2, _ => have := u8_1 i hi; simp at this ⊢; omega
    | 3, _ => have := u8_2 i hi; simp at this ⊢; omega)
  rw [hW] at hback
  have HK : Hid (keyB i = ⟨[107, UInt8.ofNat i, UInt8.ofNat (i / 256), UInt8.ofNat (i / 65536)].toArray⟩) := rfl
  rw [← HK.out] at hback
  simp only [List.length_cons, List.length_nil, Nat.zero_add, Nat.reduceAdd] at hback
  clear hW
  generalize keyB i = kb at hback ⊢
  clear HK
  go_enter Yba.func4, Yba.ntmps4
  go_wp2
  go_ret
  exact ⟨rfl, _, rfl⟩

end Go.Proofs.Ybulkdyjw
