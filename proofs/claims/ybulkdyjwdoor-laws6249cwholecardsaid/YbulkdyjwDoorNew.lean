import Derived.Test.YbulkdyjwDoorStrF
import Derived.OwnWalk
namespace Go.Proofs.YbulkdyjwDoor
open Go.RowKit

theorem assert_ptr (v : Value) (w : World) : (Instr.typeAssert (.iface 30 v) 49 33 true).run Ybad.prog w = .ok (.tuple #[.pointer none, .bool false]) w := by kernel_rfl

theorem made_zero (n : Nat) : (madeCells (Value.int .u8 0).cells (n * 1)).toList = bc (List.replicate n 0) := by
  apply List.ext_getElem
  · rw [bc_len, List.length_replicate, Array.length_toList, size_madeCells, Nat.mul_one]
  · intro i h1 h2
    rw [bc_len, List.length_replicate] at h2
    have h3 := bc_at (List.replicate n 0) i (by rw [List.length_replicate]; exact h2)
    rw [List.getElem?_eq_getElem (by rw [bc_len, List.length_replicate]; exact h2)] at h3
    rw [Option.some.inj h3]
    simp [madeCells, Value.cells, Nat.mod_one]

set_option maxHeartbeats 2000000 in
theorem new_writer (w : World) (br : Nat) (failv : Value) (hrc : w.heap[br]? = some (.cells #[.slice none 0 0, failv, .int .i64 0] 32 (0, 0))) (size : Nat) (h0 : 0 < size) (h1 : size ≤ 65536) :
    Calls Ybad.prog 7 #[.iface 30 (.pointer (some ⟨br, 0, none⟩)), .int .i64 (size : Int)] w fun e w' => ∃ bw bb, e = .returned (.pointer (some ⟨bw, 0, none⟩)) ∧ w.heap.size ≤ bw ∧ w.heap.size ≤ bb ∧
      BW w' bw bb br size .nilIface [] (.slice none 0 0) failv 0 [] ∧ Below w.heap.size w w' := by
  obtain ⟨i0, hi, hz0, hz1, hz2⟩ := info_parts info5
  have hta := assert_ptr
  have h0' : ¬ (size : Int) ≤ 0 := by omega
  go_enter Ybad.func7, Ybad.ntmps7
  go_wp2_with (at_make; refine wpList_make_full _ rfl _ _ 22 rfl w.heap.size 5 i0 (.int .u8 0) 1 Ybad.underlying22 hi hz0 hz1 _ _ _ _ size rfl rfl rfl rfl (by rw [hz2]; omega) (by unfold maxLen; omega) (Nat.le_refl _) ?_; intro w1 hown hgrow)
  go_ret
  have hlt : br < w.heap.size := (Array.getElem?_eq_some_iff.1 hrc).1
  obtain ⟨-, he | ⟨g, cap, cur, he, hg1, hg2, hg3, hg4, hg5, hg6⟩⟩ := hown
  · cases he.1
  cases he
  have hbl : w.heap.size < w1.heap.size := (Array.getElem?_eq_some_iff.1 hg2).1
  have hcur : cur = (bc ([] ++ List.replicate size 0)).toArray := by
    rw [List.nil_append]
    apply Array.ext'
    rw [← made_zero, ← hg6]
    show cur.toList = _
    rw [List.take_of_length_le]
    rw [Array.length_toList]
    omega
  refine ⟨w1.heap.size, rfl, by omega, w.heap.size, Nat.le_refl _, ⟨?_, ⟨List.replicate size 0, ?_, by simp⟩, ?_, ?_, ?_⟩, ?_⟩
  · rw [World.alloc]; exact Array.getElem?_push_size
  · rw [← hcur, Below.heap_alloc w1 _ _ hbl]
    exact hg2
  · have := hgrow.block br hlt (by simp)
    have hbr : br < w1.heap.size := by omega
    rw [Below.heap_alloc w1 _ _ hbr, this]
    exact hrc
  · exact ⟨rfl, .inl ⟨rfl, rfl⟩⟩
  · simp [Value.ownBlock]
  · refine ⟨hgrow.os, hgrow.tape, hgrow.output, ?_, fun k hk => ?_⟩
    · simp; omega
    · have := hgrow.block k hk (by simp)
      have hk1 : k < w1.heap.size := by omega
      rw [Below.heap_alloc w1 _ _ hk1, this]

theorem err_new (w : World) (s : ByteArray) :
    Calls Ybad.prog 6 #[.string s] w fun e w' => e = .returned (.iface 45 (.pointer (some ⟨w.heap.size, 0, none⟩))) ∧ w' = w.alloc (.cells #[.string s] 47) := by
  go_enter Ybad.func6, Ybad.ntmps6
  go_wp2
  go_ret
  exact ⟨rfl, rfl⟩

theorem millis (w : World) (n : Int) (h0 : -9223372036854775808 ≤ n) (h1 : n ≤ 9223372036854775807) :
    Calls Ybad.prog 12 #[.int .i64 n] w fun e w' => e = .returned (.int .i64 (n.tdiv 1000000)) ∧ w = w' := by
  go_enter Ybad.func12, Ybad.ntmps12
  go_wp2
  go_ret
  exact ⟨rfl, rfl⟩

end Go.Proofs.YbulkdyjwDoor
