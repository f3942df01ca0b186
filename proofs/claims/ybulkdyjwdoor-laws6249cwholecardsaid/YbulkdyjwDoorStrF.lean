import Derived.Test.YbulkdyjwDoorStr
import Derived.Stop.Asserts
namespace Go.Proofs.YbulkdyjwDoor
open Go.RowKit

theorem assert_no (a : Addr) (w : World) : (Instr.typeAssert (.iface 30 (.pointer (some a))) 49 60 true).run Ybad.prog w = .ok (.tuple #[.nilIface, .bool false]) w := run_typeAssert_lacksB Ybad.underlying60 (by kernel_rfl) (by kernel_rfl) _ 49 w

set_option maxHeartbeats 4000000 in
/-- A refusing recorder, more than the buffer has room for. -/
theorem str_fail {w : World} {bw bb br size : Nat} {pend : List UInt8} {v : Value} {calls : Int} {out : List UInt8} (T : TypeId) (x : Value) (h : BW w bw bb br size .nilIface pend v (.iface T x) calls out) (hs : size ≤ 65536) (hs0 : 0 < size) (hc0 : 0 ≤ calls) (hc1 : calls ≤ 1000)
    (s : ByteArray) (hn : size < pend.length + s.size) (hn2 : s.size ≤ 1099511627776) :
    Calls Ybad.prog 15 #[.pointer (some ⟨bw, 0, none⟩), .string s] w fun e w' => ∃ k : Int, e = .returned (.tuple #[.int .i64 k, .iface T x]) ∧
      ∃ pend', BW w' bw bb br size (.iface T x) pend' v (.iface T x) (calls + 1) out ∧ Kept bw bb br w v w' v := by
  have HB : Hid (BW w bw bb br size .nilIface pend v (.iface T x) calls out) := h
  have w0 := h.w0
  have w1 := h.w1
  have w2 := h.w2
  have w3 := h.w3
  have hle := h.le
  have hn' : (size : Int) - (pend.length : Int) < (s.size : Int) := by omega
  have hpl : (pend.length : Int) ≤ (size : Int) := by omega
  obtain ⟨q, hq⟩ : ∃ q, q = s.data.toList.take (size - pend.length) := ⟨_, rfl⟩
  have hql : q.length = size - pend.length := by rw [hq, List.length_take, dl]; omega
  have HQ : Hid (q = s.data.toList.take (size - pend.length)) := hq
  have HQL : Hid (q.length = size - pend.length) := hql
  have hq1 : q.length ≤ s.size := by omega
  have hq2 : pend.length + q.length ≤ size := by omega
  have hq4 : 0 < pend.length + q.length := by omega
  have hta := assert_no
  clear h hq hql
  by_cases hpe : pend.length = 0
  · have hpn : pend = [] := List.eq_nil_of_length_eq_zero hpe
    subst hpn
    have hn3 : (size : Int) < (s.size : Int) := by rw [List.length_nil] at hn; omega
    have hse : ¬ size = ([] : List UInt8).length := by rw [List.length_nil]; omega
    clear hpe hn' hpl hle
    go_enter Ybad.func15, Ybad.ntmps15
    go_wp2
    refine wp_loop_rounds 2 ?_
    rw [rounds_succ]
    go_wp2_with (first | (go_at_call 18; refine (available_any HB.out hs).mono ?_; rintro e w' ⟨rfl, m, rfl⟩) | (go_at_call 10; refine (buffered_any (HB.out.drewN m)).mono ?_; rintro e w6 ⟨rfl, rfl⟩))
    go_region_held3 (fun w' => w'.cell? ⟨bw, 1, none⟩ = some (.slice (some ⟨bb, 0, none⟩) size size) ∧ w'.cell? ⟨bw, 2, none⟩ = some (.int .i64 (([] : List UInt8).length : Int))) (exact ⟨by assumption, by assumption⟩)
      (first | (refine step_copy_buf rfl (.tmp 64) (.tmp 65) 22 9 rfl Ybad.underlying22 copy_size HB.out ⟨rfl, rfl, rfl, rfl⟩ _ _ _ rfl rfl (fun hlt => by simp) (.string s) s.size rfl q (by rw [HQL.out]; exact (Nat.min_eq_right (by omega)).symm) (len_string _ _ _) (by have := first_string (P := Ybad.prog) (w.drewN (m + 1)) s q.length; rw [HQL.out, ← HQ.out, ← HQL.out] at this; exact this) ?_; intro w4 hcop; have y1 := hcop.c1; have y2 := hcop.c2; have y0 := hcop.c0; have yf := hcop.f2))
    have HF : Hid (BW (w4.setCell ⟨bw, 2, none⟩ (.int .i64 (q.length : Int))) bw bb br size .nilIface ([] ++ q) v (.iface T x) calls out) := by have := hcop.fin.1; rw [List.length_nil, Int.natCast_zero, Int.zero_add] at this; exact this
    have HK : Hid (Kept bw bb br w v (w4.setCell ⟨bw, 2, none⟩ (.int .i64 (q.length : Int))) v) := by have := hcop.fin.2; rw [List.length_nil, Int.natCast_zero, Int.zero_add] at this; exact this
    clear hcop
    go_wp2_with fail
    refine (flush_fail T x HF.out (by rw [List.length_append]; omega) hs hc0 (by omega)).mono ?_
    rintro e w7 ⟨rfl, hB7, hK7⟩
    have HE : Hid (BW w7 bw bb br size (.iface T x) ([] ++ q) v (.iface T x) (calls + 1) out) := hB7
    have HK7 : Hid (Kept bw bb br w v w7 v) := HK.out.trans hK7
    have z0 := hB7.w0
    clear hB7 hK7 y0 y1 y2 yf w0 w1 w2 w3
    go_wp2_with fail
    all_goals
      rw [rounds_succ]
      go_wp2_with (go_at_call 18; refine (available_any HE.out hs).mono ?_; rintro e w8 ⟨rfl, m2, rfl⟩)
      all_goals
        go_quiet (fail)
        go_wp2
        go_ret2
        exact ⟨_, rfl, [] ++ q, (HE.out.drewN _).drewN _, (HK7.out.drewN _).drewN _⟩
  · have hn0 : ((pend.length : Int) == 0) = false := beq_eq_false_iff_ne.2 (by omega)
    go_enter Ybad.func15, Ybad.ntmps15
    go_wp2
    refine wp_loop_rounds 2 ?_
    rw [rounds_succ]
    go_wp2_with (first | (go_at_call 18; refine (available_any HB.out hs).mono ?_; rintro e w' ⟨rfl, m, rfl⟩) | (go_at_call 10; refine (buffered_any (HB.out.drewN m)).mono ?_; rintro e w6 ⟨rfl, rfl⟩))
    go_region_held3 (fun w' => w'.cell? ⟨bw, 1, none⟩ = some (.slice (some ⟨bb, 0, none⟩) size size) ∧ w'.cell? ⟨bw, 2, none⟩ = some (.int .i64 (pend.length : Int))) (exact ⟨by assumption, by assumption⟩)
      (first | (refine step_copy_buf rfl (.tmp 64) (.tmp 65) 22 9 rfl Ybad.underlying22 copy_size HB.out ⟨rfl, rfl, rfl, rfl⟩ _ _ _ rfl rfl (fun hlt => by simp [show ¬ size = pend.length from by omega]) (.string s) s.size rfl q (by rw [HQL.out]; exact (Nat.min_eq_right (by omega)).symm) (len_string _ _ _) (by have := first_string (P := Ybad.prog) (w.drewN (m + 1)) s q.length; rw [HQL.out, ← HQ.out, ← HQL.out] at this; exact this) ?_; intro w4 hcop; have y1 := hcop.c1; have y2 := hcop.c2; have y0 := hcop.c0; have yf := hcop.f2))
    generalize (if size = pend.length then (some ⟨bb, 0, none⟩ : Option Addr) else some ⟨bb, pend.length, none⟩) = dpv
    have HF : Hid (BW (w4.setCell ⟨bw, 2, none⟩ (.int .i64 ((pend.length : Int) + (q.length : Int)))) bw bb br size .nilIface (pend ++ q) v (.iface T x) calls out) := hcop.fin.1
    have HK : Hid (Kept bw bb br w v (w4.setCell ⟨bw, 2, none⟩ (.int .i64 ((pend.length : Int) + (q.length : Int)))) v) := hcop.fin.2
    clear hcop
    go_wp2_with fail
    refine (flush_fail T x HF.out (by rw [List.length_append]; omega) hs hc0 (by omega)).mono ?_
    rintro e w7 ⟨rfl, hB7, hK7⟩
    have HE : Hid (BW w7 bw bb br size (.iface T x) (pend ++ q) v (.iface T x) (calls + 1) out) := hB7
    have HK7 : Hid (Kept bw bb br w v w7 v) := HK.out.trans hK7
    have z0 := hB7.w0
    clear hB7 hK7 y0 y1 y2 yf w0 w1 w2 w3
    go_wp2_with fail
    all_goals
      rw [rounds_succ]
      go_wp2_with (go_at_call 18; refine (available_any HE.out hs).mono ?_; rintro e w8 ⟨rfl, m2, rfl⟩)
      all_goals
        go_quiet (fail)
        go_wp2
        go_ret2
        exact ⟨_, rfl, pend ++ q, (HE.out.drewN _).drewN _, (HK7.out.drewN _).drewN _⟩

end Go.Proofs.YbulkdyjwDoor
