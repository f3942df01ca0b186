import Derived.Test.YbulkdyjwDoorWriteO
namespace Go.Proofs.YbulkdyjwDoor
open Go.RowKit

theorem len_string (P : Program) (W : World) (s : ByteArray) : (Builtin.lenOf (.string s)).run P W = .ok s.size W := rfl
theorem dl (s : ByteArray) : s.data.toList.length = s.size := Array.length_toList

set_option maxHeartbeats 2000000 in
/-- The string fits: it goes into the buffer. -/
theorem str_fits {w : World} {bw bb br size : Nat} {pend : List UInt8} {v failv : Value} {calls : Int} {out : List UInt8} (h : BW w bw bb br size .nilIface pend v failv calls out) (hs : size ≤ 65536)
    (s : ByteArray) (hfit : pend.length + s.size ≤ size) :
    Calls Ybad.prog 15 #[.pointer (some ⟨bw, 0, none⟩), .string s] w fun e w' => e = .returned (.tuple #[.int .i64 (s.size : Int), .nilIface]) ∧
      BW w' bw bb br size .nilIface (pend ++ s.data.toList) v failv calls out ∧ Kept bw bb br w v w' v := by
  have HB : Hid (BW w bw bb br size .nilIface pend v failv calls out) := h
  have hfit' : ¬ (size : Int) - (pend.length : Int) < (s.size : Int) := by omega
  have w0 := h.w0
  have w1 := h.w1
  have w2 := h.w2
  have hpl : (pend.length : Int) ≤ (size : Int) := by omega
  clear h
  go_enter Ybad.func15, Ybad.ntmps15
  go_wp2
  refine wp_loop_rounds 1 ?_
  rw [rounds_succ]
  go_wp2_with (go_at_call 18; refine (available_any HB.out hs).mono ?_; rintro e w' ⟨rfl, m, rfl⟩)
  go_region_held3 (fun w' => w'.cell? ⟨bw, 1, none⟩ = some (.slice (some ⟨bb, 0, none⟩) size size) ∧ w'.cell? ⟨bw, 2, none⟩ = some (.int .i64 (pend.length : Int))) (exact ⟨by assumption, by assumption⟩)
    (first | (refine step_copy_buf rfl (.tmp 101) (.tmp 102) 22 9 rfl Ybad.underlying22 copy_size HB.out ⟨rfl, rfl, rfl, rfl⟩ _ _ _ rfl rfl (fun hlt => by simp [show ¬ size = pend.length from by omega]) (.string s) s.size rfl s.data.toList (by rw [dl]; exact (Nat.min_eq_left (by omega)).symm) (len_string _ _ _) (by have := first_string (P := Ybad.prog) (w.drewN (m + 1)) s s.data.toList.length; rw [List.take_length] at this; exact this) ?_; intro w4 hcop; have y1 := hcop.c1; have y2 := hcop.c2; have y0 := hcop.c0; have yf := hcop.f2))
  generalize (if size = pend.length then (some ⟨bb, 0, none⟩ : Option Addr) else some ⟨bb, pend.length, none⟩) = dpv
  have HF := hide hcop.fin
  clear hcop
  rw [dl] at HF ⊢
  go_wp2
  go_ret2
  exact ⟨rfl, HF.out.1, HF.out.2⟩

set_option maxHeartbeats 2000000 in
/-- The writer has an error already. -/
theorem str_bad {w : World} {bw bb br size : Nat} {pend : List UInt8} {v failv : Value} {calls : Int} {out : List UInt8} (T : TypeId) (x : Value) (h : BW w bw bb br size (.iface T x) pend v failv calls out) (hs : size ≤ 65536)
    (s : ByteArray) :
    Calls Ybad.prog 15 #[.pointer (some ⟨bw, 0, none⟩), .string s] w fun e w' => e = .returned (.tuple #[.int .i64 0, .iface T x]) ∧
      BW w' bw bb br size (.iface T x) pend v failv calls out ∧ Kept bw bb br w v w' v := by
  have HB : Hid (BW w bw bb br size (.iface T x) pend v failv calls out) := h
  have w0 := h.w0
  clear h
  by_cases hfit : (size : Int) - (pend.length : Int) < (s.size : Int)
  all_goals
    go_enter Ybad.func15, Ybad.ntmps15
    go_wp2
    refine wp_loop_rounds 1 ?_
    rw [rounds_succ]
    go_wp2_with (go_at_call 18; refine (available_any HB.out hs).mono ?_; rintro e w' ⟨rfl, m, rfl⟩)
    go_quiet (fail)
    go_wp2
    go_ret2
    exact ⟨rfl, (HB.out.drewN _).drewN _, ((Kept.refl _ _ _ _ _).drewN _).drewN _⟩

end Go.Proofs.YbulkdyjwDoor
