import Derived.Test.YbulkdyjwDoorStrF
namespace Go.Proofs.YbulkdyjwDoor
open Go.RowKit

def strLen : Value → Nat
  | .string s => s.size
  | _ => 0
def mzs (bw : Nat) (pv : Value) (w : World) : Nat := 2 * strLen pv + nz (w.cell? ⟨bw, 2, none⟩)
theorem mzs_eq {w : World} {bw bb br size : Nat} {errv : Value} {pend : List UInt8} {v failv : Value} {calls : Int} {out : List UInt8} (h : BW w bw bb br size errv pend v failv calls out) (s : ByteArray) :
    mzs bw (.string s) w = 2 * s.size + (if pend.length = 0 then 0 else 1) := by
  rw [mzs, h.w2]
  simp [strLen, nz]

theorem ex_toList (q : ByteArray) (n : Nat) : (q.extract n q.size).data.toList = q.data.toList.drop n := by
  rw [ByteArray.data_extract, Array.toList_extract, List.extract_eq_take_drop]
  show List.take (q.data.size - n) _ = _
  apply List.take_of_length_le
  rw [List.length_drop, Array.length_toList]
  exact Nat.le_refl _
theorem ex_size (q : ByteArray) (n : Nat) : (q.extract n q.size).size = q.size - n := by
  rw [← dl, ex_toList, List.length_drop, dl]

structure RelS (w : World) (bw bb br size : Nat) (v : Value) (calls M : Int) (all : List UInt8) (wr : World) (q : ByteArray) (pend' out' : List UInt8) (v' : Value) (calls' : Int) : Prop where
  bw_ : BW wr bw bb br size .nilIface pend' v' .nilIface calls' out'
  all_ : out' ++ pend' ++ q.data.toList = all
  c0 : calls ≤ calls'
  c1 : calls' + 2 * (q.size : Int) + (if pend'.length = 0 then 0 else 1) ≤ M
  kept : Kept bw bb br w v wr v'
section
variable {w : World} {bw bb br size : Nat} {v : Value} {calls M : Int} {all : List UInt8} {wr : World} {q : ByteArray} {pend' out' : List UInt8} {v' : Value} {calls' : Int}
theorem RelS.len (h : RelS w bw bb br size v calls M all wr q pend' out' v' calls') : out'.length + pend'.length + q.size = all.length := by
  rw [← h.all_, ← dl]; simp; omega
/-- Behind a copy and a flush. -/
theorem RelS.flushed (h : RelS w bw bb br size v calls M all wr q pend' out' v' calls') (n : Nat) (hn : n < q.size) (hp : 0 < pend'.length + n) {w3 w7 : World} {v7 : Value} (hk3 : Kept bw bb br wr v' w3 v')
    (hb : BW w7 bw bb br size .nilIface [] v7 .nilIface (calls' + 1) (out' ++ (pend' ++ q.data.toList.take n))) (hk : Kept bw bb br w3 v' w7 v7) :
    RelS w bw bb br size v calls M all w7 (q.extract n q.size) [] (out' ++ (pend' ++ q.data.toList.take n)) v7 (calls' + 1) := by
  have h1 := h.c1
  have h0 := h.c0
  have hk7 := hk3.trans hk
  refine ⟨hb, ?_, by omega, ?_, h.kept.trans hk7⟩
  · rw [ex_toList, ← h.all_]
    simp [List.take_append_drop]
  · rw [ex_size, List.length_nil]
    split at h1 <;> simp <;> omega
end

set_option maxHeartbeats 8000000 in
set_option maxRecDepth 8000 in
theorem str_ok {w : World} {bw bb br size : Nat} {pend : List UInt8} {v : Value} {calls : Int} {out : List UInt8} (h : BW w bw bb br size .nilIface pend v .nilIface calls out) (hs : size ≤ 65536) (hs0 : 0 < size) (hc0 : 0 ≤ calls)
    (s : ByteArray) (hc1 : calls + 2 * (s.size : Int) + 1 ≤ 1000000000) (hall : out.length + pend.length + s.size ≤ 1000000000) :
    Calls Ybad.prog 15 #[.pointer (some ⟨bw, 0, none⟩), .string s] w fun e w' => e = .returned (.tuple #[.int .i64 (s.size : Int), .nilIface]) ∧
      ∃ pend' v' calls' out', BW w' bw bb br size .nilIface pend' v' .nilIface calls' out' ∧ out' ++ pend' = out ++ pend ++ s.data.toList ∧ calls ≤ calls' ∧ calls' ≤ calls + 2 * (s.size : Int) + 1 ∧ Kept bw bb br w v w' v' := by
  have HR : Hid (RelS w bw bb br size v calls (calls + 2 * (s.size : Int) + 1) (out ++ pend ++ s.data.toList) w s pend out v calls) :=
    ⟨h, rfl, Int.le_refl _, by split <;> omega, Kept.refl _ _ _ _ _⟩
  have hta := assert_no
  have HALL : Hid ((out ++ pend ++ s.data.toList).length ≤ 1000000000) := by rw [Hid, List.length_append, List.length_append, dl]; omega
  clear h hall
  go_enter Ybad.func15, Ybad.ntmps15
  go_wp2
  go_loopw [1, 6, 7, 8] (fun pv sw tr nn wr => ∃ (q : ByteArray) (pend' out' : List UInt8) (b : Bool) (v' : Value) (calls' : Int) (k : Nat), pv = .string q ∧ sw = .nilIface ∧ tr = .bool b ∧ nn = .int .i64 k ∧ Hid (k + q.size = s.size) ∧ Hid (RelS w bw bb br size v calls (calls + 2 * (s.size : Int) + 1) (out ++ pend ++ s.data.toList) wr q pend' out' v' calls'))
    (fun pv _ _ _ wr => mzs bw pv wr)
  case atStart => exact ⟨s, pend, out, _, v, calls, 0, rfl, rfl, rfl, rfl, Nat.zero_add _, HR⟩
  case round =>
    clear HR
    obtain ⟨q, pend', out', b, v', calls', k, rfl, rfl, rfl, rfl, HKQ, HR⟩ := hrel
    have HB : Hid (BW wr bw bb br size .nilIface pend' v' .nilIface calls' out') := HR.out.bw_
    have w0 := HB.out.w0
    have w1 := HB.out.w1
    have w2 := HB.out.w2
    have w3 := HB.out.w3
    have hle := HB.out.le
    have hpl : (pend'.length : Int) ≤ (size : Int) := by omega
    have hlen := HR.out.len
    have hqb : out'.length + pend'.length + q.size ≤ 1000000000 := by rw [hlen]; exact HALL.out
    have hkq : k + q.size ≤ 1000000000 := by rw [HKQ.out]; omega
    have hcc0 := HR.out.c0
    have hcc1 : calls' ≤ 1000000000 := by have := HR.out.c1; split at this <;> omega
    clear hlen
    by_cases hfit : pend'.length + q.size ≤ size
    · have hfit' : ¬ (size : Int) - (pend'.length : Int) < (q.size : Int) := by omega
      go_wp2_with (go_at_call 18; refine (available_any HB.out hs).mono ?_; rintro e w' ⟨rfl, m, rfl⟩)
      go_region_held3 (fun w' => w'.cell? ⟨bw, 1, none⟩ = some (.slice (some ⟨bb, 0, none⟩) size size) ∧ w'.cell? ⟨bw, 2, none⟩ = some (.int .i64 (pend'.length : Int))) (exact ⟨by assumption, by assumption⟩)
        (first | (refine step_copy_buf rfl (.tmp 101) (.tmp 102) 22 9 rfl Ybad.underlying22 copy_size HB.out ⟨rfl, rfl, rfl, rfl⟩ _ _ _ rfl rfl (fun hlt => by simp [show ¬ size = pend'.length from by omega]) (.string q) q.size rfl q.data.toList (by rw [dl]; exact (Nat.min_eq_left (by omega)).symm) (len_string _ _ _) (by have := first_string (P := Ybad.prog) (wr.drewN (m + 1)) q q.data.toList.length; rw [List.take_length] at this; exact this) ?_; intro w4 hcop; have y1 := hcop.c1; have y2 := hcop.c2; have y0 := hcop.c0; have yf := hcop.f2))
      generalize (if size = pend'.length then (some ⟨bb, 0, none⟩ : Option Addr) else some ⟨bb, pend'.length, none⟩) = dpv
      have HF := hide hcop.fin
      clear hcop
      rw [dl] at HF ⊢
      go_wp2
      go_ret2
      refine ⟨?_, pend' ++ q.data.toList, v', calls', out', HF.out.1, ?_, hcc0, ?_, HR.out.kept.trans HF.out.2⟩
      · have := HKQ.out
        have e : ((k : Int) + (q.size : Int)) = (s.size : Int) := by omega
        show Ending.returned (.tuple #[.int .i64 ((k : Int) + (q.size : Int)), .nilIface]) = _
        rw [e]
      · have := HR.out.all_
        rw [← this]; simp
      · have := HR.out.c1
        split at this <;> omega
    · have hfit' : (size : Int) - (pend'.length : Int) < (q.size : Int) := by omega
      obtain ⟨t, ht⟩ : ∃ t, t = q.data.toList.take (size - pend'.length) := ⟨_, rfl⟩
      have htl : t.length = size - pend'.length := by rw [ht, List.length_take, dl]; omega
      have HT : Hid (t = q.data.toList.take (size - pend'.length)) := ht
      have HTL : Hid (t.length = size - pend'.length) := htl
      have ht1 : t.length ≤ q.size := by omega
      have ht3 : t.length < q.size := by omega
      have ht4 : 0 < pend'.length + t.length := by omega
      clear ht htl
      by_cases hpe : pend'.length = 0
      · have hpn : pend' = [] := List.eq_nil_of_length_eq_zero hpe
        subst hpn
        have hfit2 : (size : Int) < (q.size : Int) := by rw [List.length_nil] at hfit'; omega
        clear hpe hfit' hpl hle
        cases b
        · go_wp2_with (first | (go_at_call 18; refine (available_any HB.out hs).mono ?_; rintro e w' ⟨rfl, m, rfl⟩) | (go_at_call 10; refine (buffered_any (HB.out.drewN m)).mono ?_; rintro e w6 ⟨rfl, rfl⟩))
          go_region_held3 (fun w' => w'.cell? ⟨bw, 1, none⟩ = some (.slice (some ⟨bb, 0, none⟩) size size) ∧ w'.cell? ⟨bw, 2, none⟩ = some (.int .i64 (([] : List UInt8).length : Int))) (exact ⟨by assumption, by assumption⟩)
            (first | (refine step_copy_buf rfl (.tmp 64) (.tmp 65) 22 9 rfl Ybad.underlying22 copy_size HB.out ⟨rfl, rfl, rfl, rfl⟩ _ _ _ rfl rfl (fun hlt => by simp) (.string q) q.size rfl t (by rw [HTL.out]; exact (Nat.min_eq_right (by omega)).symm) (len_string _ _ _) (by have := first_string (P := Ybad.prog) (wr.drewN (m + 1)) q t.length; rw [HTL.out, ← HT.out, ← HTL.out] at this; exact this) ?_; intro w4 hcop; have y1 := hcop.c1; have y2 := hcop.c2; have y0 := hcop.c0; have yf := hcop.f2))
          have HF : Hid (BW (w4.setCell ⟨bw, 2, none⟩ (.int .i64 ((t.length : Int)))) bw bb br size .nilIface (([] : List UInt8) ++ t) v' .nilIface calls' out') := by have := hcop.fin.1; rw [List.length_nil, Int.natCast_zero, Int.zero_add] at this; exact this
          have HK : Hid (Kept bw bb br wr v' (w4.setCell ⟨bw, 2, none⟩ (.int .i64 ((t.length : Int)))) v') := by have := hcop.fin.2; rw [List.length_nil, Int.natCast_zero, Int.zero_add] at this; exact this
          clear hcop
          go_wp2_with fail
          refine (flush_ok HF.out (by rw [List.length_append]; omega) hs (by omega) (by omega) (by rw [List.length_append]; omega)).mono ?_
          rintro e w7 ⟨rfl, v7, hB7, hK7⟩
          have HD : Hid (RelS w bw bb br size v calls (calls + 2 * (s.size : Int) + 1) (out ++ pend ++ s.data.toList) w7 (q.extract t.length q.size) [] (out' ++ (([] : List UInt8) ++ t)) v7 (calls' + 1)) := by
            have e1 : q.data.toList.take t.length = t := by rw [HTL.out]; exact HT.out.symm
            have := HR.out.flushed t.length ht3 ht4 HK.out (by rw [e1]; exact hB7) hK7
            rw [e1] at this
            exact this
          clear hB7 hK7 w0 w1 w2 w3 y0 y1 y2 yf
          go_wp2
          all_goals
            go_roundw
            case rel => exact ⟨q.extract t.length q.size, [], out' ++ (([] : List UInt8) ++ t), _, v7, calls' + 1, k + t.length, rfl, rfl, rfl, by go_num, by have := HKQ.out; rw [Hid, ex_size]; omega, HD.out⟩
            case measure =>
              rw [mzs_eq HD.out.bw_, mzs_eq HB.out, ex_size]
              rw [List.length_nil] at ht4 ⊢
              omega
        · go_wp2_with (first | (go_at_call 18; refine (available_any HB.out hs).mono ?_; rintro e w' ⟨rfl, m, rfl⟩) | (go_at_call 10; refine (buffered_any (HB.out.drewN m)).mono ?_; rintro e w6 ⟨rfl, rfl⟩))
          go_region_held3 (fun w' => w'.cell? ⟨bw, 1, none⟩ = some (.slice (some ⟨bb, 0, none⟩) size size) ∧ w'.cell? ⟨bw, 2, none⟩ = some (.int .i64 (([] : List UInt8).length : Int))) (exact ⟨by assumption, by assumption⟩)
            (first | (refine step_copy_buf rfl (.tmp 64) (.tmp 65) 22 9 rfl Ybad.underlying22 copy_size HB.out ⟨rfl, rfl, rfl, rfl⟩ _ _ _ rfl rfl (fun hlt => by simp) (.string q) q.size rfl t (by rw [HTL.out]; exact (Nat.min_eq_right (by omega)).symm) (len_string _ _ _) (by have := first_string (P := Ybad.prog) (wr.drewN (m + 1)) q t.length; rw [HTL.out, ← HT.out, ← HTL.out] at this; exact this) ?_; intro w4 hcop; have y1 := hcop.c1; have y2 := hcop.c2; have y0 := hcop.c0; have yf := hcop.f2))
          have HF : Hid (BW (w4.setCell ⟨bw, 2, none⟩ (.int .i64 ((t.length : Int)))) bw bb br size .nilIface (([] : List UInt8) ++ t) v' .nilIface calls' out') := by have := hcop.fin.1; rw [List.length_nil, Int.natCast_zero, Int.zero_add] at this; exact this
          have HK : Hid (Kept bw bb br wr v' (w4.setCell ⟨bw, 2, none⟩ (.int .i64 ((t.length : Int)))) v') := by have := hcop.fin.2; rw [List.length_nil, Int.natCast_zero, Int.zero_add] at this; exact this
          clear hcop
          go_wp2_with fail
          refine (flush_ok HF.out (by rw [List.length_append]; omega) hs (by omega) (by omega) (by rw [List.length_append]; omega)).mono ?_
          rintro e w7 ⟨rfl, v7, hB7, hK7⟩
          have HD : Hid (RelS w bw bb br size v calls (calls + 2 * (s.size : Int) + 1) (out ++ pend ++ s.data.toList) w7 (q.extract t.length q.size) [] (out' ++ (([] : List UInt8) ++ t)) v7 (calls' + 1)) := by
            have e1 : q.data.toList.take t.length = t := by rw [HTL.out]; exact HT.out.symm
            have := HR.out.flushed t.length ht3 ht4 HK.out (by rw [e1]; exact hB7) hK7
            rw [e1] at this
            exact this
          clear hB7 hK7 w0 w1 w2 w3 y0 y1 y2 yf
          go_wp2
          all_goals
            go_roundw
            case rel => exact ⟨q.extract t.length q.size, [], out' ++ (([] : List UInt8) ++ t), _, v7, calls' + 1, k + t.length, rfl, rfl, rfl, by go_num, by have := HKQ.out; rw [Hid, ex_size]; omega, HD.out⟩
            case measure =>
              rw [mzs_eq HD.out.bw_, mzs_eq HB.out, ex_size]
              rw [List.length_nil] at ht4 ⊢
              omega
      · have hn0 : ((pend'.length : Int) == 0) = false := beq_eq_false_iff_ne.2 (by omega)
        go_wp2_with (first | (go_at_call 18; refine (available_any HB.out hs).mono ?_; rintro e w' ⟨rfl, m, rfl⟩) | (go_at_call 10; refine (buffered_any (HB.out.drewN m)).mono ?_; rintro e w6 ⟨rfl, rfl⟩))
        go_region_held3 (fun w' => w'.cell? ⟨bw, 1, none⟩ = some (.slice (some ⟨bb, 0, none⟩) size size) ∧ w'.cell? ⟨bw, 2, none⟩ = some (.int .i64 (pend'.length : Int))) (exact ⟨by assumption, by assumption⟩)
          (first | (refine step_copy_buf rfl (.tmp 64) (.tmp 65) 22 9 rfl Ybad.underlying22 copy_size HB.out ⟨rfl, rfl, rfl, rfl⟩ _ _ _ rfl rfl (fun hlt => by simp [show ¬ size = pend'.length from by omega]) (.string q) q.size rfl t (by rw [HTL.out]; exact (Nat.min_eq_right (by omega)).symm) (len_string _ _ _) (by have := first_string (P := Ybad.prog) (wr.drewN (m + 1)) q t.length; rw [HTL.out, ← HT.out, ← HTL.out] at this; exact this) ?_; intro w4 hcop; have y1 := hcop.c1; have y2 := hcop.c2; have y0 := hcop.c0; have yf := hcop.f2))
        generalize (if size = pend'.length then (some ⟨bb, 0, none⟩ : Option Addr) else some ⟨bb, pend'.length, none⟩) = dpv
        have HF : Hid (BW (w4.setCell ⟨bw, 2, none⟩ (.int .i64 ((pend'.length : Int) + (t.length : Int)))) bw bb br size .nilIface (pend' ++ t) v' .nilIface calls' out') := hcop.fin.1
        have HK : Hid (Kept bw bb br wr v' (w4.setCell ⟨bw, 2, none⟩ (.int .i64 ((pend'.length : Int) + (t.length : Int)))) v') := hcop.fin.2
        clear hcop
        go_wp2_with fail
        refine (flush_ok HF.out (by rw [List.length_append]; omega) hs (by omega) (by omega) (by rw [List.length_append]; omega)).mono ?_
        rintro e w7 ⟨rfl, v7, hB7, hK7⟩
        have HD : Hid (RelS w bw bb br size v calls (calls + 2 * (s.size : Int) + 1) (out ++ pend ++ s.data.toList) w7 (q.extract t.length q.size) [] (out' ++ (pend' ++ t)) v7 (calls' + 1)) := by
          have e1 : q.data.toList.take t.length = t := by rw [HTL.out]; exact HT.out.symm
          have := HR.out.flushed t.length ht3 ht4 HK.out (by rw [e1]; exact hB7) hK7
          rw [e1] at this
          exact this
        clear hB7 hK7 w0 w1 w2 w3 y0 y1 y2 yf
        go_wp2
        all_goals
          go_roundw
          case rel => exact ⟨q.extract t.length q.size, [], out' ++ (pend' ++ t), _, v7, calls' + 1, k + t.length, rfl, rfl, rfl, by go_num, by have := HKQ.out; rw [Hid, ex_size]; omega, HD.out⟩
          case measure =>
            rw [mzs_eq HD.out.bw_, mzs_eq HB.out, ex_size]
            simp [hpe]
            omega

end Go.Proofs.YbulkdyjwDoor
