import Derived.Test.YbulkdyjwDoorWrite
import Derived.Maps.RangeWalk
namespace Go.Proofs.YbulkdyjwDoor
open Go.RowKit

set_option maxHeartbeats 2000000 in
/-- A refusing recorder, an empty buffer, more than the buffer holds. -/
theorem write_fail1 {w : World} {bw bb br size : Nat} {v : Value} {calls : Int} {out : List UInt8} (T : TypeId) (x : Value) (h : BW w bw bb br size .nilIface [] v (.iface T x) calls out) (hs : size ≤ 65536) (hc0 : 0 ≤ calls) (hc1 : calls ≤ 1000)
    (ao : Option Addr) (n c : Nat) (hn : size < n) (hnc : n ≤ c) (hn2 : n ≤ 1099511627776) :
    Calls Ybad.prog 14 #[.pointer (some ⟨bw, 0, none⟩), .slice ao n c] w fun e w' => ∃ k : Int, e = .returned (.tuple #[.int .i64 k, .iface T x]) ∧
      ∃ pend', BW w' bw bb br size (.iface T x) pend' v (.iface T x) (calls + 1) out ∧ Kept bw bb br w v w' v := by
  have HB : Hid (BW w bw bb br size .nilIface [] v (.iface T x) calls out) := h
  have w0 := h.w0
  have w3 := h.w3
  have hn' : (size : Int) < (n : Int) := by omega
  clear h
  have hmw := method_write
  go_enter Ybad.func14, Ybad.ntmps14
  go_wp2
  refine wp_loop_rounds 2 ?_
  rw [rounds_succ]
  go_wp2_with fail
  refine (available_any HB.out hs).mono ?_
  rintro e w1 ⟨rfl, m, rfl⟩
  go_wp2_with fail
  refine (buffered_any (HB.out.drewN m)).mono ?_
  rintro e w2 ⟨rfl, rfl⟩
  go_wp2_with fail
  refine (rec_fail T x (HB.out.drewN m) hc0 (by omega) _).mono ?_
  rintro e w3 ⟨rfl, hB3, hK3⟩
  have x0 := hB3.w0
  have x1 := hB3.wf 0
  have HE : Hid (BW (w3.setCell ⟨bw, 0, none⟩ (.iface T x)) bw bb br size (.iface T x) [] v (.iface T x) (calls + 1) out) := hB3.setErr _
  have HK : Hid (Kept bw bb br w v (w3.setCell ⟨bw, 0, none⟩ (.iface T x)) v) := (hK3.ofDrewN).set bw 0 _ (.inl rfl)
  have z0 := HE.out.w0
  obtain ⟨W, hW⟩ : ∃ W, W = w3.setCell ⟨bw, 0, none⟩ (.iface T x) := ⟨_, rfl⟩
  go_wp2_with fail
  rw [rounds_succ]
  rw [← hW] at HE HK z0 ⊢
  clear hW
  go_wp2_with fail
  refine (available_any HE.out hs).mono ?_
  rintro e w4 ⟨rfl, m2, rfl⟩
  go_wp2
  go_quiet (fail)
  go_wp2
  go_ret2
  exact ⟨_, rfl, [], (HE.out.drewN _).drewN _, (HK.out.drewN _).drewN _⟩

set_option maxHeartbeats 4000000 in
/-- A refusing recorder, something in the buffer, more than the buffer has room for. -/
theorem write_fail2 {w : World} {bw bb br size : Nat} {pend : List UInt8} {v : Value} {calls : Int} {out : List UInt8} (T : TypeId) (x : Value) (h : BW w bw bb br size .nilIface pend v (.iface T x) calls out) (hpd : 0 < pend.length) (hs : size ≤ 65536) (hc0 : 0 ≤ calls) (hc1 : calls ≤ 1000)
    (ao : Option Addr) (c : Nat) (p : List UInt8) (hp : PS w bw bb br v ao c p) (hn : size < pend.length + p.length) (hn2 : p.length ≤ 1099511627776) :
    Calls Ybad.prog 14 #[.pointer (some ⟨bw, 0, none⟩), .slice ao p.length c] w fun e w' => ∃ k : Int, e = .returned (.tuple #[.int .i64 k, .iface T x]) ∧
      ∃ pend', BW w' bw bb br size (.iface T x) pend' v (.iface T x) (calls + 1) out ∧ Kept bw bb br w v w' v := by
  have HB : Hid (BW w bw bb br size .nilIface pend v (.iface T x) calls out) := h
  have HP : Hid (PS w bw bb br v ao c p) := hp
  have w0 := h.w0
  have w1 := h.w1
  have w2 := h.w2
  have w3 := h.w3
  have hle := h.le
  have hpc := hp.le
  have hn' : (size : Int) - (pend.length : Int) < (p.length : Int) := by omega
  have hn0 : ((pend.length : Int) == 0) = false := beq_eq_false_iff_ne.2 (by omega)
  have hpl : (pend.length : Int) ≤ (size : Int) := by omega
  obtain ⟨q, hq⟩ : ∃ q, q = p.take (size - pend.length) := ⟨_, rfl⟩
  have hql : q.length = size - pend.length := by rw [hq, List.length_take]; omega
  have HQ : Hid (q = p.take (size - pend.length)) := hq
  have HQL : Hid (q.length = size - pend.length) := hql
  have hq1 : q.length ≤ p.length := by omega
  have hq2 : (q.length : Int) ≤ (c : Int) := by omega
  have hq3 : pend.length + q.length = size := by omega
  have HQ3 : Hid (pend.length + q.length = size) := hq3
  clear h hp hq hql hq3
  go_enter Ybad.func14, Ybad.ntmps14
  go_wp2
  refine wp_loop_rounds 2 ?_
  rw [rounds_succ]
  go_wp2_with fail
  refine (available_any HB.out hs).mono ?_
  rintro e w5 ⟨rfl, m, rfl⟩
  go_wp2_with fail
  refine (buffered_any (HB.out.drewN m)).mono ?_
  rintro e w6 ⟨rfl, rfl⟩
  go_wp2_with fail
  go_region_held3 (fun w' => w'.cell? ⟨bw, 1, none⟩ = some (.slice (some ⟨bb, 0, none⟩) size size) ∧ w'.cell? ⟨bw, 2, none⟩ = some (.int .i64 (pend.length : Int))) (exact ⟨by assumption, by assumption⟩)
    (first | (refine step_copy_buf rfl (.tmp 43) (.tmp 44) 22 22 rfl Ybad.underlying22 copy_size HB.out ⟨rfl, rfl, rfl, rfl⟩ _ _ _ rfl rfl (fun hlt => by simp [show ¬ size = pend.length from by omega]) (.slice ao p.length c) p.length rfl q (by rw [HQL.out]; exact (Nat.min_eq_right (by omega)).symm) (len_slice _ _ _ _ _) (by have := HP.out.first (W := w.drewN (m + 1)) (fun _ => rfl) q.length hq1 Ybad.prog; rw [HQL.out, ← HQ.out, ← HQL.out] at this; exact this) ?_; intro w4 hcop; have y1 := hcop.c1; have y2 := hcop.c2; have y0 := hcop.c0; have yf := hcop.f2))
  generalize (if size = pend.length then (some ⟨bb, 0, none⟩ : Option Addr) else some ⟨bb, pend.length, none⟩) = dpv
  have HF : Hid (BW (w4.setCell ⟨bw, 2, none⟩ (.int .i64 ((pend.length : Int) + (q.length : Int)))) bw bb br size .nilIface (pend ++ q) v (.iface T x) calls out) := hcop.fin.1
  have HK : Hid (Kept bw bb br w v (w4.setCell ⟨bw, 2, none⟩ (.int .i64 ((pend.length : Int) + (q.length : Int)))) v) := hcop.fin.2
  clear hcop
  go_wp2_with fail
  refine (flush_fail T x HF.out (by rw [List.length_append]; omega) hs hc0 (by omega)).mono ?_
  rintro e w7 ⟨rfl, hB7, hK7⟩
  have HE : Hid (BW w7 bw bb br size (.iface T x) (pend ++ q) v (.iface T x) (calls + 1) out) := hB7
  have HK7 : Hid (Kept bw bb br w v w7 v) := HK.out.trans hK7
  have z0 := hB7.w0
  clear hB7 hK7 y0 y1 y2 yf w0 w1 w2 w3
  go_wp2_with fail
  all_goals
    rw [rounds_succ]
    go_wp2_with (go_at_call 18; refine (available_any HE.out hs).mono ?_; rintro e w8 ⟨rfl, m2, rfl⟩)
    all_goals
      go_quiet (fail)
      go_wp2
      go_ret2
      exact ⟨_, rfl, pend ++ q, (HE.out.drewN _).drewN _, (HK7.out.drewN _).drewN _⟩

end Go.Proofs.YbulkdyjwDoor
