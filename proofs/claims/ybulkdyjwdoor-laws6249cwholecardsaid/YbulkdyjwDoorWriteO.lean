import Derived.Test.YbulkdyjwDoorWrite
import Derived.Deep.Light
namespace Go.Proofs.YbulkdyjwDoor
open Go.RowKit

def slLen : Value → Nat
  | .slice _ n _ => n
  | _ => 0
def nz : Option Value → Nat
  | some (.int _ n) => if n = 0 then 0 else 1
  | _ => 0
/-- THE LOOP's MEASURE. -/
def mz (bw : Nat) (pv : Value) (w : World) : Nat := 2 * slLen pv + nz (w.cell? ⟨bw, 2, none⟩)
theorem mz_eq {w : World} {bw bb br size : Nat} {errv : Value} {pend : List UInt8} {v failv : Value} {calls : Int} {out : List UInt8} (h : BW w bw bb br size errv pend v failv calls out) (ao : Option Addr) (n c : Nat) :
    mz bw (.slice ao n c) w = 2 * n + (if pend.length = 0 then 0 else 1) := by
  rw [mz, h.w2]
  simp [slLen, nz]
theorem mz_drewN (bw : Nat) (pv : Value) (w : World) (n : Nat) : mz bw pv (w.drewN n) = mz bw pv w := rfl

/-- What the loop of Write keeps. -/
structure Rel (w : World) (bw bb br size : Nat) (v : Value) (calls M : Int) (all : List UInt8) (wr : World) (ao : Option Addr) (c : Nat) (q pend' out' : List UInt8) (v' : Value) (calls' : Int) : Prop where
  ps : PS wr bw bb br v' ao c q
  bw_ : BW wr bw bb br size .nilIface pend' v' .nilIface calls' out'
  all_ : out' ++ pend' ++ q = all
  c0 : calls ≤ calls'
  c1 : calls' + 2 * (q.length : Int) + (if pend'.length = 0 then 0 else 1) ≤ M
  kept : Kept bw bb br w v wr v'
section
variable {w : World} {bw bb br size : Nat} {v : Value} {calls M : Int} {all : List UInt8} {wr : World} {ao : Option Addr} {c : Nat} {q pend' out' : List UInt8} {v' : Value} {calls' : Int}
theorem Rel.len (h : Rel w bw bb br size v calls M all wr ao c q pend' out' v' calls') : out'.length + pend'.length + q.length = all.length := by
  rw [← h.all_]; simp; omega
/-- Behind a direct write. -/
theorem Rel.direct (h : Rel w bw bb br size v calls M all wr ao c q [] out' v' calls') (hq : 0 < q.length) {m : Nat} {w3 : World} {v3 : Value} (hb : BW w3 bw bb br size .nilIface [] v3 .nilIface (calls' + 1) (out' ++ q)) (hk : Kept bw bb br (wr.drewN m) v' w3 v3) (ao2 : Option Addr) (c2 : Nat) :
    Rel w bw bb br size v calls M all (w3.setCell ⟨bw, 0, none⟩ .nilIface) ao2 c2 [] [] (out' ++ q) v3 (calls' + 1) := by
  have h1 := h.c1
  have h0 := h.c0
  refine ⟨⟨Nat.zero_le _, fun hp => absurd hp (Nat.lt_irrefl _)⟩, hb.setErr _, ?_, by omega, ?_, h.kept.trans ((hk.ofDrewN).set bw 0 _ (.inl rfl))⟩
  · have := h.all_
    simpa using this
  · simp at h1 ⊢
    omega
/-- Behind a copy and a flush. -/
theorem Rel.flushed (h : Rel w bw bb br size v calls M all wr ao c q pend' out' v' calls') (hp : 0 < pend'.length) (n : Nat) (hn : n < q.length) {w3 w7 : World} {v7 : Value} (hk3 : Kept bw bb br wr v' w3 v')
    (hb : BW w7 bw bb br size .nilIface [] v7 .nilIface (calls' + 1) (out' ++ (pend' ++ q.take n))) (hk : Kept bw bb br w3 v' w7 v7) (pb po : Nat) (hao : ao = some ⟨pb, po, none⟩) :
    Rel w bw bb br size v calls M all w7 (some ⟨pb, po + n, none⟩) (c - n) (q.drop n) [] (out' ++ (pend' ++ q.take n)) v7 (calls' + 1) := by
  have h1 := h.c1
  have h0 := h.c0
  have hk7 := hk3.trans hk
  obtain ⟨pb', po', e, n1, s⟩ := h.ps.at_ (by omega)
  rw [hao] at e
  obtain ⟨rfl, rfl⟩ : pb = pb' ∧ po = po' := by simpa using e
  have hps := h.ps.kept hk7
  obtain ⟨pb2, po2, e2, n2, s2⟩ := hps.at_ (by omega)
  rw [hao] at e2
  obtain ⟨rfl, rfl⟩ : pb = pb2 ∧ po = po2 := by simpa using e2
  have hcl := h.ps.le
  refine ⟨⟨by rw [List.length_drop]; omega, fun _ => ⟨pb, po + n, rfl, n1, ⟨s2.lt, s2.n1, s2.n3, s2.n4, fun j hj => ?_⟩⟩⟩, hb, ?_, by omega, ?_, h.kept.trans hk7⟩
  · rw [List.length_drop] at hj
    have := s2.at_ (n + j) (by omega)
    rw [Nat.add_assoc, this, List.getElem_drop]
  · have := h.all_
    rw [← this]
    simp [List.take_append_drop]
  · rw [List.length_drop, List.length_nil]
    simp [show pend'.length ≠ 0 by omega] at h1 ⊢
    omega
end

set_option maxHeartbeats 8000000 in
/-- A RECORDER THAT TAKES ALL: whatever is written is in the recorder or in the buffer. -/
theorem write_ok {w : World} {bw bb br size : Nat} {pend : List UInt8} {v : Value} {calls : Int} {out : List UInt8} (h : BW w bw bb br size .nilIface pend v .nilIface calls out) (hs : size ≤ 65536) (hs0 : 0 < size) (hc0 : 0 ≤ calls)
    (ao : Option Addr) (c : Nat) (p : List UInt8) (hp : PS w bw bb br v ao c p) (hc1 : calls + 2 * (p.length : Int) + 1 ≤ 1000000000) (hall : out.length + pend.length + p.length ≤ 1000000000) :
    Calls Ybad.prog 14 #[.pointer (some ⟨bw, 0, none⟩), .slice ao p.length c] w fun e w' => e = .returned (.tuple #[.int .i64 (p.length : Int), .nilIface]) ∧
      ∃ pend' v' calls' out', BW w' bw bb br size .nilIface pend' v' .nilIface calls' out' ∧ out' ++ pend' = out ++ pend ++ p ∧ calls ≤ calls' ∧ calls' ≤ calls + 2 * (p.length : Int) + 1 ∧ Kept bw bb br w v w' v' := by
  have HR : Hid (Rel w bw bb br size v calls (calls + 2 * (p.length : Int) + 1) (out ++ pend ++ p) w ao c p pend out v calls) :=
    ⟨hp, h, rfl, Int.le_refl _, by split <;> omega, Kept.refl _ _ _ _ _⟩
  have hmw := method_write
  have HALL : Hid ((out ++ pend ++ p).length ≤ 1000000000) := by simp [Hid]; omega
  clear h hp hall
  go_enter Ybad.func14, Ybad.ntmps14
  go_wp2
  go_loopw [1, 4] (fun pv nn wr => ∃ (q pend' out' : List UInt8) (ao' : Option Addr) (c' : Nat) (v' : Value) (calls' : Int) (k : Nat), pv = .slice ao' q.length c' ∧ nn = .int .i64 k ∧ Hid (k + q.length = p.length) ∧ Hid (Rel w bw bb br size v calls (calls + 2 * (p.length : Int) + 1) (out ++ pend ++ p) wr ao' c' q pend' out' v' calls'))
    (fun pv _ wr => mz bw pv wr)
  case atStart => exact ⟨p, pend, out, ao, c, v, calls, 0, rfl, rfl, Nat.zero_add _, HR⟩
  case round =>
    clear HR
    obtain ⟨q, pend', out', ao', c', v', calls', k, rfl, rfl, HKQ, HR⟩ := hrel
    have HB : Hid (BW wr bw bb br size .nilIface pend' v' .nilIface calls' out') := HR.out.bw_
    have w0 := HB.out.w0
    have w1 := HB.out.w1
    have w2 := HB.out.w2
    have w3 := HB.out.w3
    have hle := HB.out.le
    have hpl : (pend'.length : Int) ≤ (size : Int) := by omega
    have hlen := HR.out.len
    have hqb : out'.length + pend'.length + q.length ≤ 1000000000 := by rw [hlen]; exact HALL.out
    have hkq : k + q.length ≤ 1000000000 := by rw [HKQ.out]; omega
    have hcq := HR.out.ps.le
    have hcc0 := HR.out.c0
    have hcc1 : calls' ≤ 1000000000 := by have := HR.out.c1; split at this <;> omega
    clear hlen
    by_cases hfit : pend'.length + q.length ≤ size
    · have hfit' : ¬ (size : Int) - (pend'.length : Int) < (q.length : Int) := by omega
      go_wp2_with (go_at_call 18; refine (available_any HB.out hs).mono ?_; rintro e w' ⟨rfl, m, rfl⟩)
      go_region_held3 (fun w' => w'.cell? ⟨bw, 1, none⟩ = some (.slice (some ⟨bb, 0, none⟩) size size) ∧ w'.cell? ⟨bw, 2, none⟩ = some (.int .i64 (pend'.length : Int))) (exact ⟨by assumption, by assumption⟩)
        (first | (refine step_copy_buf rfl (.tmp 80) (.tmp 81) 22 22 rfl Ybad.underlying22 copy_size HB.out ⟨rfl, rfl, rfl, rfl⟩ _ _ _ rfl rfl (fun hlt => by simp [show ¬ size = pend'.length from by omega]) (.slice ao' q.length c') q.length rfl q (Nat.min_eq_left (by omega)).symm (len_slice _ _ _ _ _) (by have := HR.out.ps.first (W := wr.drewN (m + 1)) (fun _ => rfl) q.length (Nat.le_refl _) Ybad.prog; rw [List.take_length] at this; exact this) ?_; intro w4 hcop; have y1 := hcop.c1; have y2 := hcop.c2; have y0 := hcop.c0; have yf := hcop.f2))
      generalize (if size = pend'.length then (some ⟨bb, 0, none⟩ : Option Addr) else some ⟨bb, pend'.length, none⟩) = dpv
      go_wp2
      go_ret2
      have hc := hcop.fin
      refine ⟨?_, pend' ++ q, v', calls', out', hc.1, ?_, hcc0, ?_, HR.out.kept.trans hc.2⟩
      · have := HKQ.out
        have e : ((k : Int) + (q.length : Int)) = (p.length : Int) := by omega
        show Ending.returned (.tuple #[.int .i64 ((k : Int) + (q.length : Int)), .nilIface]) = _
        rw [e]
      · have := HR.out.all_
        rw [← this]; simp
      · have := HR.out.c1
        split at this <;> omega
    · have hfit' : (size : Int) - (pend'.length : Int) < (q.length : Int) := by omega
      have hq0 : 0 < q.length := by omega
      obtain ⟨pb, po, hao, hpb, hsrc⟩ := HR.out.ps.at_ hq0
      subst hao
      have HS : Hid (Src wr bw bb br v' pb po q) := hsrc
      clear hsrc
      have hqc : (q.length : Int) ≤ (c' : Int) := by omega
      by_cases hpe : pend'.length = 0
      · have hpn : pend' = [] := List.eq_nil_of_length_eq_zero hpe
        subst hpn
        have hfit2 : (size : Int) < (q.length : Int) := by rw [List.length_nil] at hfit'; omega
        clear hpe hfit' hpl hle
        go_wp2_with fail
        refine (available_any HB.out hs).mono ?_
        rintro e w5 ⟨rfl, m, rfl⟩
        go_wp2_with fail
        refine (buffered_any (HB.out.drewN m)).mono ?_
        rintro e w6 ⟨rfl, rfl⟩
        go_wp2_with fail
        refine (rec_ok (HB.out.drewN m) (by omega) (by omega) pb po c' q ⟨HS.out.lt, HS.out.n1, HS.out.n3, HS.out.n4, HS.out.at_⟩ (by omega)).mono ?_
        rintro e w7 ⟨rfl, v7, hB7, hK7⟩
        have x0 := hB7.w0
        have x1 := hB7.wf 0
        have HD : Hid (∀ ao2 c2, Rel w bw bb br size v calls (calls + 2 * (p.length : Int) + 1) (out ++ pend ++ p) (w7.setCell ⟨bw, 0, none⟩ .nilIface) ao2 c2 [] [] (out' ++ q) v7 (calls' + 1)) := fun ao2 c2 => HR.out.direct hq0 hB7 hK7 ao2 c2
        clear hB7 hK7 w0 w1 w2 w3
        go_wp2
        all_goals
          go_roundw
          case rel => exact ⟨[], [], out' ++ q, _, _, v7, calls' + 1, k + q.length, rfl, by go_num, HKQ.out, HD.out _ _⟩
          case measure =>
            rw [mz_eq (HD.out none 0).bw_, mz_eq HB.out]
            simp
            omega
      · have hn0 : ((pend'.length : Int) == 0) = false := beq_eq_false_iff_ne.2 (by omega)
        obtain ⟨t, ht⟩ : ∃ t, t = q.take (size - pend'.length) := ⟨_, rfl⟩
        have htl : t.length = size - pend'.length := by rw [ht, List.length_take]; omega
        have HT : Hid (t = q.take (size - pend'.length)) := ht
        have HTL : Hid (t.length = size - pend'.length) := htl
        have ht1 : t.length ≤ q.length := by omega
        have ht2 : (t.length : Int) ≤ (c' : Int) := by omega
        have ht3 : t.length < q.length := by omega
        have htc : ¬ c' = t.length := by omega
        clear ht htl
        go_wp2_with fail
        refine (available_any HB.out hs).mono ?_
        rintro e w5 ⟨rfl, m, rfl⟩
        go_wp2_with fail
        refine (buffered_any (HB.out.drewN m)).mono ?_
        rintro e w6 ⟨rfl, rfl⟩
        go_wp2_with fail
        go_region_held3 (fun w' => w'.cell? ⟨bw, 1, none⟩ = some (.slice (some ⟨bb, 0, none⟩) size size) ∧ w'.cell? ⟨bw, 2, none⟩ = some (.int .i64 (pend'.length : Int))) (exact ⟨by assumption, by assumption⟩)
          (first | (refine step_copy_buf rfl (.tmp 43) (.tmp 44) 22 22 rfl Ybad.underlying22 copy_size HB.out ⟨rfl, rfl, rfl, rfl⟩ _ _ _ rfl rfl (fun hlt => by simp [show ¬ size = pend'.length from by omega]) (.slice (some ⟨pb, po, none⟩) q.length c') q.length rfl t (by rw [HTL.out]; exact (Nat.min_eq_right (by omega)).symm) (len_slice _ _ _ _ _) (by have := HR.out.ps.first (W := wr.drewN (m + 1)) (fun _ => rfl) t.length ht1 Ybad.prog; rw [HTL.out, ← HT.out, ← HTL.out] at this; exact this) ?_; intro w4 hcop; have y1 := hcop.c1; have y2 := hcop.c2; have y0 := hcop.c0; have yf := hcop.f2))
        generalize (if size = pend'.length then (some ⟨bb, 0, none⟩ : Option Addr) else some ⟨bb, pend'.length, none⟩) = dpv
        have HF : Hid (BW (w4.setCell ⟨bw, 2, none⟩ (.int .i64 ((pend'.length : Int) + (t.length : Int)))) bw bb br size .nilIface (pend' ++ t) v' .nilIface calls' out') := hcop.fin.1
        have HK : Hid (Kept bw bb br wr v' (w4.setCell ⟨bw, 2, none⟩ (.int .i64 ((pend'.length : Int) + (t.length : Int)))) v') := hcop.fin.2
        clear hcop
        go_wp2_with fail
        refine (flush_ok HF.out (by rw [List.length_append]; omega) hs (by omega) (by omega) (by rw [List.length_append]; omega)).mono ?_
        rintro e w7 ⟨rfl, v7, hB7, hK7⟩
        have HD : Hid (Rel w bw bb br size v calls (calls + 2 * (p.length : Int) + 1) (out ++ pend ++ p) w7 (some ⟨pb, po + t.length, none⟩) (c' - t.length) (q.drop t.length) [] (out' ++ (pend' ++ t)) v7 (calls' + 1)) := by
          have e1 : q.take t.length = t := by rw [HTL.out]; exact HT.out.symm
          have := HR.out.flushed (by omega) t.length ht3 HK.out (by rw [e1]; exact hB7) hK7 pb po rfl
          rw [e1] at this
          exact this
        clear hB7 hK7 w0 w1 w2 w3 y0 y1 y2 yf
        go_wp2
        all_goals
          go_roundw
          case rel => exact ⟨q.drop t.length, [], out' ++ (pend' ++ t), _, _, v7, calls' + 1, k + t.length, by rw [List.length_drop], by go_num, by have := HKQ.out; rw [Hid, List.length_drop]; omega, HD.out⟩
          case measure =>
            rw [mz_eq HD.out.bw_, mz_eq HB.out]
            simp [hpe]
            omega

end Go.Proofs.YbulkdyjwDoor
