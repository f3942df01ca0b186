import Derived.Test.YbulkdyjwDoorLaw0
namespace Go.Proofs.YbulkdyjwDoor
open Go.RowKit

set_option maxHeartbeats 16000000 in
set_option maxRecDepth 8000 in
theorem law_ff (verb key : ByteArray) (vao : Option Addr) (n vc : Nat) (val : List UInt8) (hops sil bs : Int) (W : World) (hv : VIn W W.heap.size vao n vc val)
    (ho0 : -9223372036854775808 ≤ hops) (ho1 : hops ≤ 9223372036854775807) (hi0 : -9223372036854775808 ≤ sil) (hi1 : sil ≤ 9223372036854775807) (hb0 : 0 ≤ bs) (hb1 : bs ≤ 65535)
    (hlen : verb.size + key.size + n ≤ 1048576) (htab : Lib.TabIs Ybad.prog W "internal/strconv.uint64pow10" .u64 Lib.pow10Tab) :
    Calls Ybad.prog 3 #[.string verb, .string key, .slice vao n vc, .int .i64 hops, .bool false, .int .i64 sil, .int .u16 bs, .bool false] W fun e W' => e = .returned (.bool true) ∧ Below W.heap.size W W' := by
  obtain ⟨i0, hi, hz0, hz1, hz2⟩ := info_parts info5
  have HV := hide hv
  have HT := hide htab
  have hns := ns_in (final := false) (kl := key.size) (vl := n) ho0 ho1 hi0 hi1 (by omega) (by omega)
  have hhl := fun k hk => hd_len (verb := verb) hns k hk
  have HN := hide hns
  have hlen' : ¬ (1048576 : Int) < (verb.size : Int) + (key.size : Int) + (n : Int) := by omega
  clear hns hv htab
  go_enter Ybad.func3, Ybad.ntmps3
  go_wp2_with fail
  refine (clone_any HV.out (by omega)).mono ?_
  rintro e w1 ⟨ao1, c1, rfl, hown1, hbel1⟩
  have HO1 := hide hown1
  have HB1 := hide hbel1
  clear hown1 hbel1
  go_wp2_with (first | (at_builtin; refine wpList_append_str _ rfl (.const (.slice none 0 0)) (.tmp 42) 22 9 rfl w1.heap.size i0 Ybad.underlying22 Ybad.underlying9 hi hz0 hz1 hz2 (.slice none 0 0) 0 [] rfl (World.ownsRow_nil w1 w1.heap.size 5 1) verb rfl (by omega) (Nat.le_refl _) ?_; intro ao2 c2 w2 hown2 hgrow2))
  rw [Nat.zero_add, List.nil_append] at hown2
  have HO2 := hide (hown2.alloc (.cells #[.int .i64 hops, .int .i64 0, .int .i64 (sil.tdiv 1000000), .int .i64 (key.size : Int), .int .i64 (n : Int)] 25))
  have HB2 := hide ((below_grown hgrow2 (Nat.le_refl w1.heap.size) (fun k hk => by cases hk)).alloc hgrow2.size (.cells #[.int .i64 hops, .int .i64 0, .int .i64 (sil.tdiv 1000000), .int .i64 (key.size : Int), .int .i64 (n : Int)] 25))
  have HA2 : Hid ((w2.alloc (.cells #[.int .i64 hops, .int .i64 0, .int .i64 (sil.tdiv 1000000), .int .i64 (key.size : Int), .int .i64 (n : Int)] 25)).heap[w2.heap.size]? = some (.cells #[.int .i64 hops, .int .i64 0, .int .i64 (sil.tdiv 1000000), .int .i64 (key.size : Int), .int .i64 (n : Int)] 25 (0, 0)) ∧ some w2.heap.size ≠ (Value.slice ao2 verb.size c2).ownBlock) := ⟨by rw [World.alloc]; exact Array.getElem?_push_size, fun e => by have := (own_lt hown2 _ e.symm).2; omega⟩
  have hsz12 : w1.heap.size ≤ w2.heap.size := hgrow2.size
  clear hown2 hgrow2
  go_loopw [20, 22] (fun ev kv wr => ∃ (k : Nat) (ao : Option Addr) (c : Nat), kv = .int .i64 (k : Int) ∧ k ≤ 5 ∧ ev = .slice ao (hd verb (nsOf hops false sil key.size n) k).length c ∧ Hid (wr.ownsRow w1.heap.size 5 1 (.slice ao (hd verb (nsOf hops false sil key.size n) k).length c) (hd verb (nsOf hops false sil key.size n) k).length (bc (hd verb (nsOf hops false sil key.size n) k))) ∧ Hid (Below w1.heap.size w1 wr) ∧ Hid (wr.heap[w2.heap.size]? = some (.cells #[.int .i64 hops, .int .i64 0, .int .i64 (sil.tdiv 1000000), .int .i64 (key.size : Int), .int .i64 (n : Int)] 25 (0, 0)) ∧ some w2.heap.size ≠ (Value.slice ao (hd verb (nsOf hops false sil key.size n) k).length c).ownBlock))
    (fun _ kv _ => 5 - (intOf kv).toNat)
  case atStart =>
    have e0 : hd verb (nsOf hops false sil key.size n) 0 = verb.data.toList := by simp [hd, tail]
    refine ⟨0, ao2, c2, rfl, by omega, by rw [e0, dl], ?_, HB2, ?_⟩
    · rw [Hid, e0, dl]; exact HO2.out
    · rw [Hid, e0, dl]; exact HA2.out
  case round =>
    clear HO2 HB2 HA2
    obtain ⟨k, ao, c, rfl, hk5, rfl, HOk, HBk, HAk⟩ := hrel
    have hlk := hhl k hk5
    have hwsz := HBk.out.size
    by_cases hk : k < 5
    · obtain ⟨xk, hxk⟩ : ∃ x, x = ((nsOf hops false sil key.size n)).getD k 0 := ⟨_, rfl⟩
      have hni := HN.out k
      rw [← hxk] at hni
      have hni0 := hni.1
      have hni1 := hni.2
      have HS := hide (hd_succ verb ((nsOf hops false sil key.size n)) k hk)
      rw [← hxk] at HS
      have HX := hide hxk
      clear hxk hni
      have hlw : w2.heap.size < wr.heap.size := (Array.getElem?_eq_some_iff.1 HAk.out.1).1
      go_wp2_with (first | (at_builtin; refine wpList_append_shape _ rfl (.tmp 56) (.tmp 57) 22 rfl w1.heap.size 5 i0 (.int .u8 0) 1 1 Ybad.underlying22 hi hz0 hz1 hz2 rfl (by decide) (.slice ao (hd verb (nsOf hops false sil key.size n) k).length c) (hd verb (nsOf hops false sil key.size n) k).length (bc (hd verb (nsOf hops false sil key.size n) k)) rfl (HOk.out.alloc _) ⟨wr.heap.size, 0, none⟩ 1 1 [.int .u8 32] rfl rfl (cell_one_new _ _ _) (by simp [Value.oneCell']) (by unfold maxLen; omega) (by omega) (by simp; omega) ?_; intro ao3 c3 w3 hown3 hgrow3 hob3; have HW3 := hide (Own.ofGrown hgrow3 hob3).alloc; have q3 := nums_at (final := false) rfl ((HW3.out.blk _ hlw HAk.out.2).1.trans HAk.out.1) k hk; rw [← HX.out] at q3))
      have HB3 := hide (HBk.out.trans (below_alloc _ (below_grown hgrow3 (by simp; omega) (fun g hg => (own_lt HOk.out g hg).1)) hwsz))
      have hsz3 := HB3.out.size
      refine (dec_any w3 w1.heap.size ((hd verb (nsOf hops false sil key.size n) k).length + 1) xk hni0 hni1 _ _ hown3 hsz3 (by omega)).mono ?_
      rintro e w4 ⟨ao4, c4, rfl, hown4, hb4, hW4⟩
      have eN : (hd verb (nsOf hops false sil key.size n) (k + 1)).length = (hd verb (nsOf hops false sil key.size n) k).length + 1 + (Lib.itoa xk).length := by
        rw [HS.out, List.length_append, List.length_append]; rfl
      have HO4 : Hid (w4.ownsRow w1.heap.size 5 1 (.slice ao4 (hd verb (nsOf hops false sil key.size n) (k + 1)).length c4) (hd verb (nsOf hops false sil key.size n) (k + 1)).length (bc (hd verb (nsOf hops false sil key.size n) (k + 1)))) := by
        rw [Hid, eN, HS.out, bc_append, bc_append]
        exact hown4
      have HB4 := hide (HB3.out.trans hb4)
      have HA4 : Hid (w4.heap[w2.heap.size]? = some (.cells #[.int .i64 hops, .int .i64 0, .int .i64 (sil.tdiv 1000000), .int .i64 (key.size : Int), .int .i64 (n : Int)] 25 (0, 0)) ∧ some w2.heap.size ≠ (Value.slice ao4 (hd verb (nsOf hops false sil key.size n) (k + 1)).length c4).ownBlock) := by
        have := (HW3.out.trans hW4).blk _ hlw HAk.out.2
        rw [Hid, eN]
        exact ⟨this.1.trans HAk.out.1, this.2⟩
      rw [← eN]
      clear hown3 hgrow3 hob3 hown4 hb4 hW4 eN q3
      go_wp2
      go_roundw
      case rel => exact ⟨k + 1, ao4, c4, by go_num, by omega, rfl, HO4, HB4, HA4⟩
      case measure => simp [intOf]; omega
    · obtain rfl : k = 5 := by omega
      go_wp2_with (first
        | (at_builtin; refine wpList_append_shape _ rfl (.tmp 64) (.tmp 65) 22 rfl w1.heap.size 5 i0 (.int .u8 0) 1 1 Ybad.underlying22 hi hz0 hz1 hz2 rfl (by decide) (.slice ao (hd verb (nsOf hops false sil key.size n) 5).length c) (hd verb (nsOf hops false sil key.size n) 5).length (bc (hd verb (nsOf hops false sil key.size n) 5)) rfl (HOk.out.alloc _) ⟨wr.heap.size, 0, none⟩ 1 1 [.int .u8 10] rfl rfl (cell_one_new _ _ _) (by simp [Value.oneCell']) (by unfold maxLen; omega) (by omega) (by simp; omega) ?_; intro ao5 c5 w5 hown5 hgrow5 hob5; have HB5 := hide (HBk.out.trans (below_alloc _ (below_grown hgrow5 (by simp; omega) (fun g hg => (own_lt HOk.out g hg).1)) hwsz)))
        | (at_builtin; refine wpList_append_str _ rfl (.tmp 67) (.tmp 68) 22 9 rfl w1.heap.size i0 Ybad.underlying22 Ybad.underlying9 hi hz0 hz1 hz2 (.slice ao5 ((hd verb (nsOf hops false sil key.size n) 5).length + 1) c5) ((hd verb (nsOf hops false sil key.size n) 5).length + 1) _ rfl hown5 key rfl (by omega) HB5.out.size ?_; intro ao6 c6 w6 hown6 hgrow6; have HB6 := hide (HB5.out.trans (below_grown hgrow6 HB5.out.size (fun g hg => (own_lt hown5 g hg).1))))
        | (at_builtin; refine wpList_append_opt _ rfl (.tmp 70) (.tmp 71) 22 rfl w1.heap.size i0 Ybad.underlying22 hi hz0 hz1 hz2 ao6 ((hd verb (nsOf hops false sil key.size n) 5).length + 1 + key.size) c6 _ rfl hown6 vao n vc W.heap.size val rfl (HV.out.on (HB1.out.trans (HB6.out.mono HB1.out.size))) (by omega) HB6.out.size ?_; intro ao7 c7 w7 hown7 hgrow7; have HB7 := hide (HB6.out.trans (below_grown hgrow7 HB6.out.size (fun g hg => (own_lt hown6 g hg).1))))
        | (go_at_call 6; refine (err_new _ _).mono ?_; rintro e w8 ⟨rfl, rfl⟩))
      have hvl := HV.out.len
      have hfr : frame verb key val hops false sil = hd verb (nsOf hops false sil key.size n) 5 ++ [10] ++ key.data.toList ++ val := by rw [frame, hvl]; rfl
      have eL : (hd verb (nsOf hops false sil key.size n) 5).length + 1 + key.size + n = (frame verb key val hops false sil).length := by
        rw [hfr, List.length_append, List.length_append, List.length_append, dl, hvl]; rfl
      have HO7 : Hid (w7.ownsRow w1.heap.size 5 1 (.slice ao7 (frame verb key val hops false sil).length c7) (frame verb key val hops false sil).length (bc (frame verb key val hops false sil))) := by
        rw [Hid, ← eL, hfr, bc_append, bc_append, bc_append]
        exact hown7
      have hfl : (frame verb key val hops false sil).length ≤ 2000000 := by omega
      rw [eL]
      obtain ⟨size, hsize⟩ : ∃ s : Nat, (s : Int) = 1 + bs % 600 := ⟨(1 + bs % 600).toNat, by omega⟩
      rw [← hsize]
      have hs0 : 0 < size := by omega
      have hs1 : size ≤ 600 := by omega
      clear hown5 hown6 hown7 hgrow5 hgrow6 hgrow7 hob5 HB5 HB6 HBk HOk HAk hlk hfr eL hk hk5 hsize
      obtain ⟨hB8, hrc, hsz8⟩ := two_alloc w7 (.cells #[.string ⟨#[122, 122, 32, 114, 101, 102, 117, 115, 101, 100]⟩] 47) (.cells #[.slice none 0 0, .nilIface, .int .i64 0] 32)
      generalize (w7.alloc (.cells #[.string ⟨#[122, 122, 32, 114, 101, 102, 117, 115, 101, 100]⟩] 47)).alloc (.cells #[.slice none 0 0, .nilIface, .int .i64 0] 32) = w8 at hB8 hrc hsz8 ⊢
      have hwsz7 := HB7.out.size
      refine (new_writer w8 (w7.heap.size + 1) _ hrc size hs0 (by omega)).mono ?_
      rintro e w9 ⟨bw, bb, rfl, hbw, hbb, hBW9, hB9⟩
      have hw1 := HB1.out.size
      have HBW := hide (HB1.out.trans (HB7.out.mono hw1))
      have hB79 : Below W.heap.size w7 w9 := (hB8.mono (by omega)).trans (hB9.mono (by omega))
      have HT9 := hide (Lib.tabBelow_of_tabIs HT.out w9 (HBW.out.trans hB79))
      have HP9 := hide (PS.ofVIn (bw := bw) (bb := bb) (br := w7.heap.size + 1) (v := .slice none 0 0) (HV.out.on (HBW.out.trans hB79)) (by have := hB79.size; omega) (by omega) (by omega) (by omega) rfl)
      have HR9 : Hid (RR bw bb (w7.heap.size + 1) size .nilIface w9 (.slice none 0 0) w9 [] 0 .nilIface [] (.slice none 0 0) 0 []) := ⟨hBW9, Kept.refl _ _ _ _ _, St.start _ (.inl rfl) size⟩
      have HB8 := hide hB8
      have HB9 := hide hB9
      clear hBW9 hB79 hB8 hB9 hrc
      go_wp2_with fail
      have hq := query_any HR9.out (by omega) hs0 HT9.out verb key vao vc val HP9.out hops sil false ho0 ho1 hi0 hi1 (by rw [HV.out.len]; omega)
      rw [hvl] at hq
      refine hq.mono ?_
      clear hq
      rintro e w10 ⟨errv, pend, v, calls, out, rfl, hR10⟩
      have hC10 := chain8 (B := w1.heap.size) hwsz7 HB8.out (Nat.le_succ _) HB9.out hbw hbb hR10.k
      have HBX := hide (HBW.out.trans (hC10.mono hw1))
      have HVV := hide (HV.out.on HBX.out)
      have HVO := hide ((VIn.ofRow HO1.out (Nat.le_refl w1.heap.size)).below (w' := w10) fun k hk _ _ => (HB7.out.trans hC10).block k hk)
      have HB10 := hide hR10.b
      have HK10 := hide hR10.k
      have hst := hR10.st
      clear hC10 hR10
      rcases hst with ⟨_, rfl, hap, hc0, hc1⟩ | ⟨T, x, hx, _⟩
      · obtain ⟨va, vcc, rfl⟩ := HB10.out.shape
        have hpl : out.length + pend.length = (frame verb key val hops false sil).length := by rw [← hap, List.length_append]
        have hsum : (pend.length : Int) + (out.length : Int) = ((frame verb key val hops false sil).length : Int) := by omega
        have hpb : pend.length ≤ 2000000 := by omega
        have hob : out.length ≤ 2000000 := by omega
        have r0 := HB10.out.r0
        have HAP := hide hap
        have HPL := hide hpl
        clear hap hpl
        go_wp2_with (first | (go_at_call 9; refine (equal_any HVV.out HVO.out).mono ?_; rintro e w11 ⟨rfl, rfl⟩))
        go_quiet (first | (go_at_call 10; refine Calls.quiet_of_same (buffered' (HB10.out.drewN _))))
        go_wp2_with fail
        refine (flush_any (HB10.out.drewN nq) (by omega) hc0 (by omega) (by rw [HPL.out]; omega)).mono ?_
        rintro e w12 ⟨rfl, v12, calls12, hBW12, hK12⟩
        rw [HAP.out] at hBW12
        obtain ⟨va12, vc12, rfl⟩ := hBW12.shape
        have HK12 := hide (HK10.out.trans hK12.ofDrewN)
        have hC12 := chain8 (B := w7.heap.size) (Nat.le_refl _) HB8.out (Nat.le_succ _) HB9.out hbw hbb HK12.out
        have HV12 := hide (VIn.ofRow hBW12.row (Nat.le_refl _))
        have HX12 := hide ((VIn.ofRow HO7.out (Nat.le_refl w7.heap.size)).below (w' := w12) fun k hk _ _ => hC12.block k hk)
        have HBY := hide (HBW.out.trans (hC12.mono (by omega)))
        have s0 := hBW12.r0
        clear hBW12 hK12 hC12 r0
        go_wp2_with fail
        refine (equal_any HV12.out HX12.out).mono ?_
        rintro e w13 ⟨rfl, rfl⟩
        go_wp2
        go_ret
        exact ⟨rfl, HBY.out⟩
      · cases hx

end Go.Proofs.YbulkdyjwDoor
