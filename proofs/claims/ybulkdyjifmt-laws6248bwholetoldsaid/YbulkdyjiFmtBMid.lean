import Derived.Test.YbulkdyjiFmtBLeaf
import Derived.Laws.IdiomStrings
namespace Go.Proofs.YbulkdyjiFmt
open Go.RowKit Go.Extern.Stop Go.Stop Go.Extern

set_option maxHeartbeats 400000 in
theorem table_any (k : Int) (w : World) (h0 : 0 ≤ k) (h1 : k ≤ 255) : Calls Ybaf.prog 5 #[.int .u8 k] w fun e w' => (∃ b : UInt8, e = .returned (.int .u8 (b.toNat : Int))) ∧ w' = w := by
  go_enter Ybaf.func5, Ybaf.ntmps5
  go_wp2
  all_goals
    go_ret
    exact ⟨⟨_, rfl⟩, rfl⟩

theorem isEmpty_iff_size (s : ByteArray) : s.toList.isEmpty = decide (s.size = 0) := by
  rw [ByteArray.toList_eq, Bool.eq_iff_iff, List.isEmpty_iff, decide_eq_true_iff, ← List.length_eq_zero_iff]
  rfl

set_option maxHeartbeats 1000000 in
theorem isID_any (s : ByteArray) (w : World) (hs : s.size ≤ maxLen) : Calls Ybaf.prog 9 #[.string s, .func (.func 10) #[] #[]] w fun e w' => e = .returned (.bool (okId s)) ∧ Below w.heap.size w w' := by
  unfold maxLen at hs
  by_cases h1 : s.size < 1
  · rw [okId_short (by omega)]
    have h1' : s.toList.isEmpty = true := by rw [isEmpty_iff_size]; exact decide_eq_true (by omega)
    go_enter Ybaf.func9, Ybaf.ntmps9
    go_wp2
    go_ret
    exact ⟨rfl, Below.refl _ _⟩
  have h1' : s.toList.isEmpty = false := by rw [isEmpty_iff_size]; exact decide_eq_false (by omega)
  by_cases h2 : 64 < s.size
  · rw [okId_short (by omega)]
    have h2' : (64 : Int) < (s.size : Int) := by omega
    go_enter Ybaf.func9, Ybaf.ntmps9
    go_wp2
    go_ret
    exact ⟨rfl, Below.refl _ _⟩
  have h2' : ¬ (64 : Int) < (s.size : Int) := by omega
  have hconv := run_bytes_of_string (P := Ybaf.prog) w 9 22 5 s Ybaf.underlying9 Ybaf.underlying22 Ybaf.underlying5
  generalize grownCap w s.size 0 5 = cap at hconv
  obtain ⟨C, hC⟩ : ∃ C, C = bytesRow s cap := ⟨_, rfl⟩
  have hcell : ∀ j (h : j < s.size), (w.alloc (.cells C 5 (C.size, C.size + 1))).cell? ⟨w.heap.size, j, none⟩ = some (.int .u8 (s[j].toNat : Int)) := by
    intro j h
    rw [World.cell?_alloc_mark, hC, bytesRow_at s cap j h]; rfl
  rw [← hC] at hconv
  clear hC
  have hb : Below w.heap.size w (w.alloc (.cells C 5 (C.size, C.size + 1))).drew := ((Below.refl _ w).alloc (Nat.le_refl _) _).drew
  have HB : Hid (Below w.heap.size w (w.alloc (.cells C 5 (C.size, C.size + 1))).drew) := hb
  clear hb
  have HCell : Hid (∀ j (h : j < s.size), (w.alloc (.cells C 5 (C.size, C.size + 1))).cell? ⟨w.heap.size, j, none⟩ = some (.int .u8 (s[j].toNat : Int))) := hcell
  clear hcell
  go_enter Ybaf.func9, Ybaf.ntmps9
  go_wp2
  go_loop [17] (fun i => ∃ k : Nat, k ≤ s.size ∧ i = .int .i64 k ∧ Hid (goodTo s k)) (fun i => s.size - (intOf i).toNat)
  case atStart => exact ⟨0, Nat.zero_le _, rfl, goodTo_zero s⟩
  case round =>
    obtain ⟨k, hk, rfl, hg⟩ := hrel
    by_cases hlt : k < s.size
    · have hc := HCell.out k hlt
      cases hl : lowc (s[k].toNat : Int)
      · have HC : Hid (okId s = false) := okId_bad hlt hl
        go_wp2_with (go_at_call 10; refine (alnum_any _ _).mono ?_; rintro e w' ⟨rfl, rfl⟩)
        go_ret
        exact ⟨ret_bool HC.out.symm, HB.out⟩
      · have HC : Hid (lowc (s[k].toNat : Int) = true) := hl
        go_wp2_with (go_at_call 10; refine (alnum_any _ _).mono ?_; rintro e w' ⟨rfl, rfl⟩)
        go_round
        case rel => exact ⟨k + 1, by omega, by go_num, goodTo_succ hlt hg.out HC.out⟩
        case measure => simp [intOf]; omega
    · have HC : Hid (okId s = true) := okId_good (by omega) (by omega) (fun j hj => hg.out j hj (by omega))
      go_wp2
      go_ret
      exact ⟨ret_bool HC.out.symm, HB.out⟩

set_option maxHeartbeats 400000 in
theorem echo_any (F : Interp) (s : ByteArray) (w : World) (hF : F.answers w.tape) :
    Calls Ybaf.prog 12 #[.string s] w fun e w' => (∃ t : ByteArray, e = .returned (.string t)) ∧ Below w.heap.size w w' := by
  have hF' := answers_open hF
  go_enter Ybaf.func12, Ybaf.ntmps12
  go_wp2
  go_ret
  exact ⟨⟨_, rfl⟩, ((Below.refl _ w).alloc (Nat.le_refl _) _).drew⟩

end Go.Proofs.YbulkdyjiFmt
