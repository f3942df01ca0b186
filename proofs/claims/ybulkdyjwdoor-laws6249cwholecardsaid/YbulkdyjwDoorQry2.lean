import Derived.Test.YbulkdyjwDoorQry
namespace Go.Proofs.YbulkdyjwDoor
open Go.RowKit

set_option maxHeartbeats 8000000 in
set_option maxRecDepth 8000 in
theorem query_any {bw bb br size : Nat} {failv : Value} {w0 : World} {v0 : Value} {W : World} {errv : Value} {pend : List UInt8} {v : Value} {calls : Int} {out : List UInt8} (h : RR bw bb br size failv w0 v0 W [] 0 errv pend v calls out) (hs : size ≤ 65536) (hs0 : 0 < size)
    (htab : Lib.TabIs Ybad.prog W "internal/strconv.uint64pow10" .u64 Lib.pow10Tab)
    (verb key : ByteArray) (vao : Option Addr) (vc : Nat) (val : List UInt8) (hv : PS W bw bb br v vao vc val) (hops sil : Int) (final : Bool) (ho0 : -9223372036854775808 ≤ hops) (ho1 : hops ≤ 9223372036854775807) (hi0 : -9223372036854775808 ≤ sil) (hi1 : sil ≤ 9223372036854775807)
    (hlen : verb.size + key.size + val.length ≤ 1048576) :
    Calls Ybad.prog 8 #[.pointer (some ⟨bw, 0, none⟩), .agg #[.string verb, .string key, .slice vao val.length vc, .int .i64 hops, .bool final, .int .i64 sil]] W fun e W' => ∃ (errv' : Value) (pend' : List UInt8) (v' : Value) (calls' : Int) (out' : List UInt8), e = .returned errv' ∧
      RR bw bb br size failv w0 v0 W' (frame verb key val hops final sil) 900000000 errv' pend' v' calls' out' := by
  obtain ⟨i0, hi, hz0, hz1, hz2⟩ := info_parts info5
  have HR := hide h
  have HV := hide hv
  have HT := hide htab
  clear h hv htab
  cases final
  · have hmk := make64
    have HO1 := hide (own64 (W.alloc (.cells #[.string verb, .string key, .slice vao val.length vc, .int .i64 hops, .bool false, .int .i64 sil] 38)) (W.heap.size + 1) (W.heap.size + 1) (by simp) (Nat.le_refl _))
    have hns := ns_in (final := false) (kl := key.size) (vl := val.length) ho0 ho1 hi0 hi1 (by omega) (by omega)
    have hhl := fun k hk => hd_len (verb := verb) hns k hk
    have HN := hide hns
    clear hns
    go_enter Ybad.func8, Ybad.ntmps8
    go_wp2
    go_region_law (refine step_append_string rfl (.tmp 13) (.tmp 15) 22 9 rfl (W.heap.size + 1) i0 Ybad.underlying22 Ybad.underlying9 hi hz0 hz1 hz2 (.slice (some ⟨W.heap.size + 1, 0, none⟩) 0 64) 0 [] rfl HO1.out verb rfl (by omega) (by simp) ?_; intro ao1 c1 w1 hown1 hgrow1)
    all_goals
      rw [Nat.zero_add, List.nil_append] at hown1
      have HBL := hide (below_of_box hgrow1 rfl (fun k hk => by cases hk; exact Nat.le_refl _))
      have HQ := hide (box_kept HBL.out)
      have HO2 := hide hown1
      have q0 := cell_of_row _ _ 0 _ _ _ HQ.out
      have q1 := cell_of_row _ _ 1 _ _ _ HQ.out
      have q2 := cell_of_row _ _ 2 _ _ _ HQ.out
      have q3 := cell_of_row _ _ 3 _ _ _ HQ.out
      have q5 := cell_of_row _ _ 5 _ _ _ HQ.out
      clear hown1 hgrow1
      go_wp2
      go_quiet (first | (go_at_call 12; refine Calls.quiet_of_same (millis' _ sil hi0 hi1)))
      go_wp2
      clear q0 q1 q2 q3 q5 HQ
      go_loopw [6, 30] (fun hv kv wr => ∃ (k : Nat) (ao : Option Addr) (c : Nat), kv = .int .i64 (k : Int) ∧ k ≤ 5 ∧ hv = .slice ao (hd verb (nsOf hops false sil key.size val.length) k).length c ∧ Hid (wr.ownsRow (W.heap.size + 1) 5 1 (.slice ao (hd verb (nsOf hops false sil key.size val.length) k).length c) (hd verb (nsOf hops false sil key.size val.length) k).length (bc (hd verb (nsOf hops false sil key.size val.length) k))) ∧ Hid (Below (W.heap.size + 1) (W.alloc (.cells #[.string verb, .string key, .slice vao val.length vc, .int .i64 hops, .bool false, .int .i64 sil] 38)) wr))
        (fun _ kv _ => 5 - (intOf kv).toNat)
      case atStart =>
        have e0 : hd verb (nsOf hops false sil key.size val.length) 0 = verb.data.toList := by simp [hd, tail]
        refine ⟨0, ao1, c1, rfl, by omega, by rw [e0, dl], ?_, ⟨HBL.out.os, HBL.out.tape, HBL.out.output, HBL.out.size, HBL.out.block⟩⟩
        rw [Hid, e0, dl]
        exact HO2.out
      case round =>
        clear HO2 HBL
        obtain ⟨k, ao, c, rfl, hk5, rfl, HOk, HBk⟩ := hrel
        have hlk := hhl k hk5
        have hwsz := HBk.out.size
        simp only [World.size_alloc] at hwsz
        by_cases hk : k < 5
        · obtain ⟨xk, hxk⟩ : ∃ x, x = (nsOf hops false sil key.size val.length).getD k 0 := ⟨_, rfl⟩
          have hix : ∀ w, (Instr.index 54 (.agg #[.int .i64 hops, .int .i64 0, .int .i64 (sil.tdiv 1000000), .int .i64 (key.size : Int), .int .i64 (val.length : Int)]) (.int .i64 (k : Int))).run Ybad.prog w = .ok (.int .i64 xk) w := fun w => by rw [hxk]; exact index54 hops 0 (sil.tdiv 1000000) key.size val.length k hk w
          have hni := HN.out k
          rw [← hxk] at hni
          have hni0 := hni.1
          have hni1 := hni.2
          have HS := hide (hd_succ verb (nsOf hops false sil key.size val.length) k hk)
          rw [← hxk] at HS
          clear hxk hni
          go_wp2_with (first | (at_builtin; refine wpList_append_shape _ rfl (.tmp 33) (.tmp 34) 22 rfl (W.heap.size + 1) 5 i0 (.int .u8 0) 1 1 Ybad.underlying22 hi hz0 hz1 hz2 rfl (by decide) (.slice ao (hd verb (nsOf hops false sil key.size val.length) k).length c) (hd verb (nsOf hops false sil key.size val.length) k).length (bc (hd verb (nsOf hops false sil key.size val.length) k)) rfl (HOk.out.alloc _) ⟨wr.heap.size, 0, none⟩ 1 1 [.int .u8 32] rfl rfl (cell_one_new _ _ _) (by simp [Value.oneCell']) (by unfold maxLen; omega) (by omega) (by simp; omega) ?_; intro ao2 c2 w2 hown2 hgrow2 hob2))
          have HB2 := hide (HBk.out.trans (below_alloc _ (below_grown hgrow2 (by simp; omega) (fun g hg => (own_lt HOk.out g hg).1)) hwsz))
          have hsz2 : W.heap.size + 1 ≤ w2.heap.size := by have := HB2.out.size; simp only [World.size_alloc] at this; omega
          refine (appint w2 (W.heap.size + 1) ((hd verb (nsOf hops false sil key.size val.length) k).length + 1) xk hni0 hni1 _ _ hown2 hsz2 (by omega) (tab_on HT.out HB2.out)).mono ?_
          rintro e w3 ⟨ao3, c3, rfl, hown3, hb3⟩
          have eN : (hd verb (nsOf hops false sil key.size val.length) (k + 1)).length = (hd verb (nsOf hops false sil key.size val.length) k).length + 1 + (Lib.itoa xk).length := by
            rw [HS.out, List.length_append, List.length_append]; rfl
          have HO3 : Hid (w3.ownsRow (W.heap.size + 1) 5 1 (.slice ao3 (hd verb (nsOf hops false sil key.size val.length) (k + 1)).length c3) (hd verb (nsOf hops false sil key.size val.length) (k + 1)).length (bc (hd verb (nsOf hops false sil key.size val.length) (k + 1)))) := by
            rw [Hid, eN, HS.out, bc_append, bc_append]
            exact hown3
          have HB3 := hide (HB2.out.trans hb3)
          rw [← eN]
          clear hown2 hgrow2 hob2 hown3 hb3 eN
          go_wp2
          go_roundw
          case rel => exact ⟨k + 1, ao3, c3, by go_num, by omega, rfl, HO3, HB3⟩
          case measure => simp [intOf]; omega
        · obtain rfl : k = 5 := by omega
          go_wp2_with (first | (at_builtin; refine wpList_append_shape _ rfl (.tmp 40) (.tmp 41) 22 rfl (W.heap.size + 1) 5 i0 (.int .u8 0) 1 1 Ybad.underlying22 hi hz0 hz1 hz2 rfl (by decide) (.slice ao (hd verb (nsOf hops false sil key.size val.length) 5).length c) (hd verb (nsOf hops false sil key.size val.length) 5).length (bc (hd verb (nsOf hops false sil key.size val.length) 5)) rfl (HOk.out.alloc _) ⟨wr.heap.size, 0, none⟩ 1 1 [.int .u8 10] rfl rfl (cell_one_new _ _ _) (by simp [Value.oneCell']) (by unfold maxLen; omega) (by omega) (by simp; omega) ?_; intro ao2 c2 w2 hown2 hgrow2 hob2))
          have HB2 := hide (HBk.out.trans (below_alloc _ (below_grown hgrow2 (by simp; omega) (fun g hg => (own_lt HOk.out g hg).1)) hwsz))
          have hb0 := below_box HB2.out
          have hsz2 := hb0.size
          have l1 := HR.out.b.lw
          have l2 := HR.out.b.lb
          have l3 := HR.out.b.lr
          have l4 := own_lt HR.out.b.row
          obtain ⟨hN, hP⟩ := PS.ofRow (v := v) (bw := bw) (bb := bb) (br := br) (p := hd verb (nsOf hops false sil key.size val.length) 5 ++ [10]) (by rw [bc_append]; exact hown2) (by omega) (by omega) (by omega) (fun g hg => by have := (l4 g hg).2; omega)
          have HR2 : RR bw bb br size failv w2 v w2 [] 0 errv pend v calls out := ⟨HR.out.b.below hb0, Kept.refl _ _ _ _ _, HR.out.st⟩
          rw [hN]
          refine (write_any HR2 hs hs0 ao2 c2 _ hP (by rw [← hN, List.length_nil]; omega) (by rw [← hN]; omega)).mono ?_
          rintro e w4 ⟨n4, errv4, pend4, v4, calls4, out4, rfl, hR4⟩
          rw [List.nil_append] at hR4
          have HQ2 := box_kept HB2.out
          have nq4 : some W.heap.size ≠ v.ownBlock := fun e => by have := (l4 _ e.symm).2; omega
          have HQ4 := hide ((hR4.k.blk W.heap.size (Array.getElem?_eq_some_iff.1 HQ2).1 (by omega) (by omega) (by omega) nq4).1.trans HQ2)
          have q1 := cell_of_row _ _ 1 _ _ _ HQ4.out
          rw [show (#[Value.string verb, .string key, .slice vao val.length vc, .int .i64 hops, .bool false, .int .i64 sil])[1]? = some (.string key) from rfl] at q1
          have HR4 := hide hR4
          have HP3 := hide (HV.out.below hb0)
          have HB0 := hide hb0
          have HQ2' := hide HQ2
          have HNN := hide hN
          have NQ4 := hide nq4
          clear hown2 hgrow2 hob2 HR2 hR4 HQ2 HB2 hb0 hP hN l4 nq4
          go_wp2_with fail
          refine (str_any HR4.out hs hs0 key (by rw [← HNN.out]; omega) (by rw [← HNN.out]; omega)).mono ?_
          rintro e w5 ⟨n5, errv5, pend5, v5, calls5, out5, rfl, hR5⟩
          have HQ5 := hide ((hR5.k.blk W.heap.size (Array.getElem?_eq_some_iff.1 HQ2'.out).1 (by omega) (by omega) (by omega) NQ4.out).1.trans HQ2'.out)
          have q2 := cell_of_row _ _ 2 _ _ _ HQ5.out
          rw [show (#[Value.string verb, .string key, .slice vao val.length vc, .int .i64 hops, .bool false, .int .i64 sil])[2]? = some (.slice vao val.length vc) from rfl] at q2
          have HR5 := hide hR5
          have HP5 := hide (HP3.out.kept hR5.k)
          clear hR5 q1
          go_wp2_with fail
          refine (write_any HR5.out hs hs0 vao vc val HP5.out (by rw [List.length_append, ← HNN.out, dl]; omega) (by rw [← HNN.out]; omega)).mono ?_
          rintro e w6 ⟨n6, errv6, pend6, v6, calls6, out6, rfl, hR6⟩
          have HR6 := hide hR6
          clear hR6 q2
          go_wp2
          go_ret
          refine ⟨errv6, pend6, v6, calls6, out6, rfl, HR6.out.b, (HR.out.k.ofBelow HB0.out).trans HR6.out.k, ?_⟩
          have := HR6.out.st
          exact this.more (by rw [← HNN.out]; omega)
  · have hmk := make64
    have HO1 := hide (own64 (W.alloc (.cells #[.string verb, .string key, .slice vao val.length vc, .int .i64 hops, .bool true, .int .i64 sil] 38)) (W.heap.size + 1) (W.heap.size + 1) (by simp) (Nat.le_refl _))
    have hns := ns_in (final := true) (kl := key.size) (vl := val.length) ho0 ho1 hi0 hi1 (by omega) (by omega)
    have hhl := fun k hk => hd_len (verb := verb) hns k hk
    have HN := hide hns
    clear hns
    go_enter Ybad.func8, Ybad.ntmps8
    go_wp2
    go_region_law (refine step_append_string rfl (.tmp 13) (.tmp 15) 22 9 rfl (W.heap.size + 1) i0 Ybad.underlying22 Ybad.underlying9 hi hz0 hz1 hz2 (.slice (some ⟨W.heap.size + 1, 0, none⟩) 0 64) 0 [] rfl HO1.out verb rfl (by omega) (by simp) ?_; intro ao1 c1 w1 hown1 hgrow1)
    all_goals
      rw [Nat.zero_add, List.nil_append] at hown1
      have HBL := hide (below_of_box hgrow1 rfl (fun k hk => by cases hk; exact Nat.le_refl _))
      have HQ := hide (box_kept HBL.out)
      have HO2 := hide hown1
      have q0 := cell_of_row _ _ 0 _ _ _ HQ.out
      have q1 := cell_of_row _ _ 1 _ _ _ HQ.out
      have q2 := cell_of_row _ _ 2 _ _ _ HQ.out
      have q3 := cell_of_row _ _ 3 _ _ _ HQ.out
      have q5 := cell_of_row _ _ 5 _ _ _ HQ.out
      clear hown1 hgrow1
      go_wp2
      go_quiet (first | (go_at_call 12; refine Calls.quiet_of_same (millis' _ sil hi0 hi1)))
      go_wp2
      clear q0 q1 q2 q3 q5 HQ
      go_loopw [6, 30] (fun hv kv wr => ∃ (k : Nat) (ao : Option Addr) (c : Nat), kv = .int .i64 (k : Int) ∧ k ≤ 5 ∧ hv = .slice ao (hd verb (nsOf hops true sil key.size val.length) k).length c ∧ Hid (wr.ownsRow (W.heap.size + 1) 5 1 (.slice ao (hd verb (nsOf hops true sil key.size val.length) k).length c) (hd verb (nsOf hops true sil key.size val.length) k).length (bc (hd verb (nsOf hops true sil key.size val.length) k))) ∧ Hid (Below (W.heap.size + 1) (W.alloc (.cells #[.string verb, .string key, .slice vao val.length vc, .int .i64 hops, .bool true, .int .i64 sil] 38)) wr))
        (fun _ kv _ => 5 - (intOf kv).toNat)
      case atStart =>
        have e0 : hd verb (nsOf hops true sil key.size val.length) 0 = verb.data.toList := by simp [hd, tail]
        refine ⟨0, ao1, c1, rfl, by omega, by rw [e0, dl], ?_, ⟨HBL.out.os, HBL.out.tape, HBL.out.output, HBL.out.size, HBL.out.block⟩⟩
        rw [Hid, e0, dl]
        exact HO2.out
      case round =>
        clear HO2 HBL
        obtain ⟨k, ao, c, rfl, hk5, rfl, HOk, HBk⟩ := hrel
        have hlk := hhl k hk5
        have hwsz := HBk.out.size
        simp only [World.size_alloc] at hwsz
        by_cases hk : k < 5
        · obtain ⟨xk, hxk⟩ : ∃ x, x = (nsOf hops true sil key.size val.length).getD k 0 := ⟨_, rfl⟩
          have hix : ∀ w, (Instr.index 54 (.agg #[.int .i64 hops, .int .i64 1, .int .i64 (sil.tdiv 1000000), .int .i64 (key.size : Int), .int .i64 (val.length : Int)]) (.int .i64 (k : Int))).run Ybad.prog w = .ok (.int .i64 xk) w := fun w => by rw [hxk]; exact index54 hops 1 (sil.tdiv 1000000) key.size val.length k hk w
          have hni := HN.out k
          rw [← hxk] at hni
          have hni0 := hni.1
          have hni1 := hni.2
          have HS := hide (hd_succ verb (nsOf hops true sil key.size val.length) k hk)
          rw [← hxk] at HS
          clear hxk hni
          go_wp2_with (first | (at_builtin; refine wpList_append_shape _ rfl (.tmp 33) (.tmp 34) 22 rfl (W.heap.size + 1) 5 i0 (.int .u8 0) 1 1 Ybad.underlying22 hi hz0 hz1 hz2 rfl (by decide) (.slice ao (hd verb (nsOf hops true sil key.size val.length) k).length c) (hd verb (nsOf hops true sil key.size val.length) k).length (bc (hd verb (nsOf hops true sil key.size val.length) k)) rfl (HOk.out.alloc _) ⟨wr.heap.size, 0, none⟩ 1 1 [.int .u8 32] rfl rfl (cell_one_new _ _ _) (by simp [Value.oneCell']) (by unfold maxLen; omega) (by omega) (by simp; omega) ?_; intro ao2 c2 w2 hown2 hgrow2 hob2))
          have HB2 := hide (HBk.out.trans (below_alloc _ (below_grown hgrow2 (by simp; omega) (fun g hg => (own_lt HOk.out g hg).1)) hwsz))
          have hsz2 : W.heap.size + 1 ≤ w2.heap.size := by have := HB2.out.size; simp only [World.size_alloc] at this; omega
          refine (appint w2 (W.heap.size + 1) ((hd verb (nsOf hops true sil key.size val.length) k).length + 1) xk hni0 hni1 _ _ hown2 hsz2 (by omega) (tab_on HT.out HB2.out)).mono ?_
          rintro e w3 ⟨ao3, c3, rfl, hown3, hb3⟩
          have eN : (hd verb (nsOf hops true sil key.size val.length) (k + 1)).length = (hd verb (nsOf hops true sil key.size val.length) k).length + 1 + (Lib.itoa xk).length := by
            rw [HS.out, List.length_append, List.length_append]; rfl
          have HO3 : Hid (w3.ownsRow (W.heap.size + 1) 5 1 (.slice ao3 (hd verb (nsOf hops true sil key.size val.length) (k + 1)).length c3) (hd verb (nsOf hops true sil key.size val.length) (k + 1)).length (bc (hd verb (nsOf hops true sil key.size val.length) (k + 1)))) := by
            rw [Hid, eN, HS.out, bc_append, bc_append]
            exact hown3
          have HB3 := hide (HB2.out.trans hb3)
          rw [← eN]
          clear hown2 hgrow2 hob2 hown3 hb3 eN
          go_wp2
          go_roundw
          case rel => exact ⟨k + 1, ao3, c3, by go_num, by omega, rfl, HO3, HB3⟩
          case measure => simp [intOf]; omega
        · obtain rfl : k = 5 := by omega
          go_wp2_with (first | (at_builtin; refine wpList_append_shape _ rfl (.tmp 40) (.tmp 41) 22 rfl (W.heap.size + 1) 5 i0 (.int .u8 0) 1 1 Ybad.underlying22 hi hz0 hz1 hz2 rfl (by decide) (.slice ao (hd verb (nsOf hops true sil key.size val.length) 5).length c) (hd verb (nsOf hops true sil key.size val.length) 5).length (bc (hd verb (nsOf hops true sil key.size val.length) 5)) rfl (HOk.out.alloc _) ⟨wr.heap.size, 0, none⟩ 1 1 [.int .u8 10] rfl rfl (cell_one_new _ _ _) (by simp [Value.oneCell']) (by unfold maxLen; omega) (by omega) (by simp; omega) ?_; intro ao2 c2 w2 hown2 hgrow2 hob2))
          have HB2 := hide (HBk.out.trans (below_alloc _ (below_grown hgrow2 (by simp; omega) (fun g hg => (own_lt HOk.out g hg).1)) hwsz))
          have hb0 := below_box HB2.out
          have hsz2 := hb0.size
          have l1 := HR.out.b.lw
          have l2 := HR.out.b.lb
          have l3 := HR.out.b.lr
          have l4 := own_lt HR.out.b.row
          obtain ⟨hN, hP⟩ := PS.ofRow (v := v) (bw := bw) (bb := bb) (br := br) (p := hd verb (nsOf hops true sil key.size val.length) 5 ++ [10]) (by rw [bc_append]; exact hown2) (by omega) (by omega) (by omega) (fun g hg => by have := (l4 g hg).2; omega)
          have HR2 : RR bw bb br size failv w2 v w2 [] 0 errv pend v calls out := ⟨HR.out.b.below hb0, Kept.refl _ _ _ _ _, HR.out.st⟩
          rw [hN]
          refine (write_any HR2 hs hs0 ao2 c2 _ hP (by rw [← hN, List.length_nil]; omega) (by rw [← hN]; omega)).mono ?_
          rintro e w4 ⟨n4, errv4, pend4, v4, calls4, out4, rfl, hR4⟩
          rw [List.nil_append] at hR4
          have HQ2 := box_kept HB2.out
          have nq4 : some W.heap.size ≠ v.ownBlock := fun e => by have := (l4 _ e.symm).2; omega
          have HQ4 := hide ((hR4.k.blk W.heap.size (Array.getElem?_eq_some_iff.1 HQ2).1 (by omega) (by omega) (by omega) nq4).1.trans HQ2)
          have q1 := cell_of_row _ _ 1 _ _ _ HQ4.out
          rw [show (#[Value.string verb, .string key, .slice vao val.length vc, .int .i64 hops, .bool true, .int .i64 sil])[1]? = some (.string key) from rfl] at q1
          have HR4 := hide hR4
          have HP3 := hide (HV.out.below hb0)
          have HB0 := hide hb0
          have HQ2' := hide HQ2
          have HNN := hide hN
          have NQ4 := hide nq4
          clear hown2 hgrow2 hob2 HR2 hR4 HQ2 HB2 hb0 hP hN l4 nq4
          go_wp2_with fail
          refine (str_any HR4.out hs hs0 key (by rw [← HNN.out]; omega) (by rw [← HNN.out]; omega)).mono ?_
          rintro e w5 ⟨n5, errv5, pend5, v5, calls5, out5, rfl, hR5⟩
          have HQ5 := hide ((hR5.k.blk W.heap.size (Array.getElem?_eq_some_iff.1 HQ2'.out).1 (by omega) (by omega) (by omega) NQ4.out).1.trans HQ2'.out)
          have q2 := cell_of_row _ _ 2 _ _ _ HQ5.out
          rw [show (#[Value.string verb, .string key, .slice vao val.length vc, .int .i64 hops, .bool true, .int .i64 sil])[2]? = some (.slice vao val.length vc) from rfl] at q2
          have HR5 := hide hR5
          have HP5 := hide (HP3.out.kept hR5.k)
          clear hR5 q1
          go_wp2_with fail
          refine (write_any HR5.out hs hs0 vao vc val HP5.out (by rw [List.length_append, ← HNN.out, dl]; omega) (by rw [← HNN.out]; omega)).mono ?_
          rintro e w6 ⟨n6, errv6, pend6, v6, calls6, out6, rfl, hR6⟩
          have HR6 := hide hR6
          clear hR6 q2
          go_wp2
          go_ret
          refine ⟨errv6, pend6, v6, calls6, out6, rfl, HR6.out.b, (HR.out.k.ofBelow HB0.out).trans HR6.out.k, ?_⟩
          have := HR6.out.st
          exact this.more (by rw [← HNN.out]; omega)

end Go.Proofs.YbulkdyjwDoor
