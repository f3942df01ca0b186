import Derived.Test.YbulkdyjwParts
import Derived.WalkSmall
import Derived.Sort.OwnSorted
namespace Go.Proofs.Ybulkdyjw
open Go.RowKit Go.Maps

set_option maxRecDepth 100000 in
set_option maxHeartbeats 8000000 in
theorem law_pos (b off len cap : Nat) (z : List Int) (a1 a2 a3 a4 : Int) (w : World) (hl : len ≤ 65536) (hpos : 0 < len) (hz : len ≤ z.length) (hb : b < w.heap.size)
    (hc : ∀ j, j < len → w.cell? ⟨b, off + j, none⟩ = some (.int .u64 (z.getD j 0))) (hwf : ∀ j, 0 ≤ z.getD j 0 ∧ z.getD j 0 ≤ 18446744073709551615) (ha1 : 0 ≤ a1 ∧ a1 ≤ 18446744073709551615) (ha2 : 0 ≤ a2 ∧ a2 ≤ 18446744073709551615) :
    Calls Yba.prog 3 #[.slice (some ⟨b, off, none⟩) len cap, .int .u64 a1, .int .u64 a2, .int .i64 a3, .int .u64 a4] w fun e w' => e = .returned (.bool true) ∧ Below w.heap.size w w' := by
  have hl' : ¬ (65536 : Int) < (len : Int) := by omega
  have hn0 : ((len : Int) == 0) = false := beq_eq_false_iff_ne.2 (by omega)
  have hmm := @run_makeMap Yba.prog
  have HC : Hid (∀ j, j < len → w.cell? ⟨b, off + j, none⟩ = some (.int .u64 (z.getD j 0))) := hc
  have HW : Hid (∀ j, 0 ≤ z.getD j 0 ∧ z.getD j 0 ≤ 18446744073709551615) := hwf
  have HA1 : Hid (0 ≤ a1 ∧ a1 ≤ 18446744073709551615) := ha1
  have HA2 : Hid (0 ≤ a2 ∧ a2 ≤ 18446744073709551615) := ha2
  clear hc hwf ha1 ha2
  obtain ⟨i0, hi, hz0, hz1, hz2⟩ := info_parts info35
  go_enter Yba.func3, Yba.ntmps3
  go_wp2
  go_loopw [45] (fun i wr => ∃ (k : Nat) (D : DataW Unit) (v : Value), k ≤ len ∧ i = .int .i64 k ∧ Hid (wr.ownsMap Yba.prog 9 gElem w.heap.size k D) ∧ Hid (Graves D z k) ∧ Hid (Yard wr (w.heap.size + 1) (.map (some w.heap.size)) v a3 a4) ∧ Hid (wr.ownsRow (w.heap.size + 2) 35 2 v k (burials k)) ∧ Below w.heap.size w wr)
    (fun i _ => len - (intOf i).toNat)
  case atStart =>
    refine ⟨0, .map [], .slice none 0 0, Nat.zero_le _, rfl, (World.ownsMap_made _ _ _ _).alloc _, Graves.start z, ?_, World.ownsRow_nil _ _ _ _, ((Below.refl _ _).alloc (Nat.le_refl _) _).alloc (by simp) _⟩
    have := heap_alloc_new (w.alloc (.map #[] 0)) (.cells #[.map (some w.heap.size), .slice none 0 0, .int .i64 a3, .int .u64 a4] 28)
    simpa [Hid, Yard] using this
  case round =>
    obtain ⟨k, D, v, hk, rfl, HO, HG, HY, HR, hnx⟩ := hrel
    by_cases hlt : k < len
    · have hck := (hnx.cell (p := ⟨b, off + k, none⟩) hb).trans (HC.out k hlt)
      obtain ⟨x, HX⟩ : ∃ x, Hid (x = z.getD k 0) := ⟨_, rfl⟩
      rw [← HX.out] at hck
      go_wp2_with fail
      refine (key_below k _ (by omega)).mono ?_
      rintro e w1 ⟨rfl, hb1⟩
      have HO1 : Hid (w1.ownsMap Yba.prog 9 gElem w.heap.size k D) := ownsMap_below HO.out hb1
      have HY1 : Hid (Yard w1 (w.heap.size + 1) (.map (some w.heap.size)) v a3 a4) := HY.out.below hb1 HY.out.lt
      have HR1 : Hid (w1.ownsRow (w.heap.size + 2) 35 2 v k (burials k)) := ownsRow_below HR.out hb1
      have hnx1 : Below w.heap.size w w1 := hnx.trans (hb1.mono hnx.size)
      have c10 := HY1.out.c0
      clear hb1 hck
      go_wp2_with (first
        | (at_mapUpdate; refine wpList_mapUpdate_own _ rfl (.tmp 55) (.tmp 56) (.tmp 63) 25 rfl 9 33 law9 Yba.underlying25 gElem w.heap.size k _ rfl HO1.out (by unfold maxLen; omega) _ _ _ rfl rfl (keyOf_key k) _ [] (gElem_mk (x, (k : Int), (k : Int) + 1)) ?_; intro w2 hown2 hg2; have hy2 := hide (HY1.out.kept hg2 (by simp)); have hr2 := hide (HR1.out.kept hg2 (Or.inr (row_ne_low HR1.out (by omega)).symm)); have c21 := (unhide hy2).c1; clear c10)
        | (at_builtin; refine wpList_append_shape _ rfl (.tmp 68) (.tmp 74) 26 rfl (w.heap.size + 2) 35 i0 (.agg #[.string ⟨#[]⟩, .int .u64 0]) 2 24 Yba.underlying26 hi hz0 hz1 hz2 rfl (by decide) v k (burials k) rfl ((unhide hr2).alloc _) ⟨w2.heap.size, 0, none⟩ 1 1 [.string (keyB k), .int .u64 ((k : Int) + 1)] rfl rfl (cell_two_new _ _ _ _) (by simp [Value.oneCell']) (by unfold maxLen; omega) (by omega) (by have := hg2.size; have := HY1.out.lt; simp; omega) ?_; intro ao c' w3 hrow3 hg3; have hy3 := hide (((unhide hy2).alloc _).kept hg3 (row_ne_low (unhide hr2) (by omega))); have c31 := (unhide hy3).c1; have f31 := (unhide hy3).f 1; clear c21))
      go_roundw
      case rel =>
        have hne : some w.heap.size ≠ v.ownBlock := row_ne_low (unhide hr2) (by omega)
        have hG' : Graves (D.put (keyL k) (gDat (x, (k : Int), (k : Int) + 1))) z (k + 1) := by
          have := HG.out.put (HO.out.tidy law9) (by omega : k < 65536)
          rw [show grave z k = (x, (k : Int), (k : Int) + 1) from by rw [HX.out]; rfl] at this
          exact this
        refine ⟨k + 1, _, _, by omega, by go_num, (((hown2.alloc _).kept hg3 hne).setCell (by simp) _), hG', (unhide hy3).set1 _, ownsRow_setCell_below hrow3 (by simp) _, ?_⟩
        refine Below.setCell ?_ (by simp) _
        refine (((hnx1.grown hg2 hnx1.size (fun j hj => by cases hj; exact Nat.le_refl _)).alloc (Nat.le_trans hnx1.size hg2.size) _).grown hg3 (by have := hnx1.size; have := hg2.size; simp; omega) (fun j hj => ?_))
        have := ((unhide hr2).lt j hj).1
        omega
      case measure => simp [intOf]; omega
    · obtain rfl : k = len := by omega
      clear hlt
      have c0 := HY.out.c0
      go_wp2_with fail
      refine (within_any (w.heap.size + 1) w.heap.size k k D z a1 a2 wr hl HG.out c0 HO.out).mono ?_
      rintro e w1 ⟨rfl, hb1⟩
      have HO1 : Hid (w1.ownsMap Yba.prog 9 gElem w.heap.size k D) := ownsMap_below HO.out hb1
      have HY1 : Hid (Yard w1 (w.heap.size + 1) (.map (some w.heap.size)) v a3 a4) := HY.out.below hb1 HY.out.lt
      have HR1 : Hid (w1.ownsRow (w.heap.size + 2) 35 2 v k (burials k)) := ownsRow_below HR.out hb1
      have hnx1 : Below w.heap.size w w1 := hnx.trans (hb1.mono hnx.size)
      clear c0 hb1 hnx
      cases hany : anyIn z k a1 a2
      · have HN : Hid (∀ i, i < k → inHalf (z.getD i 0) a1 a2 = false) := fun i hi => by
          cases h : inHalf (z.getD i 0) a1 a2
          · rfl
          · rw [anyIn_t i hi h] at hany; cases hany
        clear hany
        have hne : a1 ≠ a2 := fun e => by have := HN.out 0 hpos; rw [same_t e] at this; cases this
        have he' : (a1 == a2) = false := by simpa using hne
        have HNE : Hid (a1 ≠ a2) := hne
        clear hne
        go_wp2
        go_loop [16, 85] (fun t i => ∃ (j : Nat), j ≤ k ∧ i = .int .i64 j ∧ t = .bool false) (fun _ i => k - (intOf i).toNat)
        case atStart => exact ⟨0, Nat.zero_le _, rfl, rfl⟩
        case round =>
          obtain ⟨j, hj, rfl, rfl⟩ := hrel
          by_cases hlt : j < k
          · have hck := (hnx1.cell (p := ⟨b, off + j, none⟩) hb).trans (HC.out j hlt)
            have hmf := model_f (HW.out j) HA1.out HA2.out HNE.out (HN.out j hlt)
            generalize z.getD j 0 = x at hck hmf
            go_wp2
            go_round
            case rel => exact ⟨j + 1, by omega, by go_num, rfl⟩
            case measure => simp [intOf]; omega
          · clear he'
            obtain ⟨g, cp, rfl⟩ := ownsRow_pos HR1.out hpos
            have d2 := HY1.out.c2
            have d3 := HY1.out.c3
            have d0 := HY1.out.c0
            have d1 := HY1.out.c1
            have hle := fun ty => HO1.out.len (t := 25) (e := 33) Yba.underlying25 ty
            rw [HG.out.size_] at hle
            go_wp2
            clear d0 d1 d2 d3 hle
            go_loopw [140] (fun i wq => ∃ (q : Nat), q ≤ k ∧ i = .int .i64 q ∧ Below w1.heap.size w1 wq) (fun i _ => k - (intOf i).toNat)
            case atStart => exact ⟨0, Nat.zero_le _, rfl, Below.refl _ _⟩
            case round =>
              obtain ⟨q, hq, rfl, hbq⟩ := hrel
              by_cases hlq : q < k
              · have hnq : Below w.heap.size w wr := hnx1.trans (hbq.mono hnx1.size)
                have hcq := (hnq.cell (p := ⟨b, off + q, none⟩) hb).trans (HC.out q hlq)
                obtain ⟨x, HX⟩ : ∃ x, Hid (x = z.getD q 0) := ⟨_, rfl⟩
                rw [← HX.out] at hcq
                go_wp2_with fail
                refine (key_below q _ (by omega)).mono ?_
                rintro e w3 ⟨rfl, hb3⟩
                have hb13 : Below w1.heap.size w1 w3 := hbq.trans (hb3.mono hbq.size)
                have HO3 : Hid (w3.ownsMap Yba.prog 9 gElem w.heap.size k D) := ownsMap_below HO1.out hb13
                have HY3 : Hid (Yard w3 (w.heap.size + 1) (.map (some w.heap.size)) (.slice (some ⟨g, 0, none⟩) k cp) a3 a4) := HY1.out.below hb13 HY1.out.lt
                have HR3 : Hid (w3.ownsRow (w.heap.size + 2) 35 2 (.slice (some ⟨g, 0, none⟩) k cp) k (burials k)) := ownsRow_below HR1.out hb13
                have c0 := HY3.out.c0
                have c1 := cell_alloc_lt HY3.out.c1
                have e0 := cell_alloc_lt ((HR3.out.cellAt (q * 2) (by omega)).trans (burials_at hlq).1)
                have e1 := cell_alloc_lt ((HR3.out.cellAt (q * 2 + 1) (by omega)).trans (burials_at hlq).2)
                obtain ⟨vv, ps, hrun, hv⟩ := HO3.out.look_ok (t := 25) law9 Yba.underlying25 (zero33 _) (gElem_mk (0, 0, 0)) (keyOf_key q)
                rw [Maps.has_true_of_atKey (HG.out.at_ q hlq)] at hrun
                rw [HG.out.at_ q hlq] at hv
                obtain ⟨c, rfl, hcc⟩ := gElem_inv hv
                simp only [Prod.mk.injEq] at hcc
                obtain rfl : grave z q = c := gDat_inj hcc.1
                have hgv : gVal (grave z q) = .agg #[.int .u64 x, .int .u64 (q : Int), .int .u64 ((q : Int) + 1)] := by rw [HX.out]; rfl
                rw [hgv] at hrun
                clear hv hcc hgv hcq hnq
                go_wp2
                go_roundw
                case rel => exact ⟨q + 1, by omega, by go_num, hb13.alloc hb13.size _⟩
                case measure => simp [intOf]; omega
              · go_wp2
                go_ret
                exact ⟨rfl, hnx1.trans (hbq.mono hnx1.size)⟩
      · have HT : Hid (∃ i, i < k ∧ inHalf (z.getD i 0) a1 a2 = true) := hide (of_decide_eq_true hany)
        clear hany
        go_wp2
        go_loop [16, 85] (fun t i => ∃ (j : Nat), j ≤ k ∧ i = .int .i64 j ∧ t = .bool false ∧ Hid (∀ i', i' < j → inHalf (z.getD i' 0) a1 a2 = false)) (fun _ i => k - (intOf i).toNat)
        case atStart => exact ⟨0, Nat.zero_le _, rfl, rfl, fun i' h => absurd h (Nat.not_lt_zero _)⟩
        case round =>
          obtain ⟨j, hj, rfl, rfl, HS⟩ := hrel
          have hlt : j < k := by
            apply Classical.byContradiction
            intro hn
            obtain ⟨i, hi, h⟩ := HT.out
            rw [HS.out i (by omega)] at h
            cases h
          have hck := (hnx1.cell (p := ⟨b, off + j, none⟩) hb).trans (HC.out j hlt)
          cases hin : inHalf (z.getD j 0) a1 a2
          · have HIN : Hid (inHalf (z.getD j 0) a1 a2 = false) := hin
            clear hin
            have hne : a1 ≠ a2 := fun e => by have := HIN.out; rw [same_t e] at this; cases this
            have he' : (a1 == a2) = false := by simpa using hne
            have hmf := model_f (HW.out j) HA1.out HA2.out hne HIN.out
            have HS' : Hid (∀ i', i' < j + 1 → inHalf (z.getD i' 0) a1 a2 = false) := fun i' h => by
              by_cases e : i' = j
              · subst e; exact HIN.out
              · exact HS.out i' (by omega)
            generalize z.getD j 0 = x at hck hmf
            clear hne
            go_wp2
            go_round
            case rel => exact ⟨j + 1, by omega, by go_num, rfl, HS'⟩
            case measure => simp [intOf]; omega
          · have HIN : Hid (inHalf (z.getD j 0) a1 a2 = true) := hin
            clear hin
            by_cases he : a1 = a2
            · have he' : (a1 == a2) = true := by simpa using he
              have HE : Hid (a1 = a2) := he
              clear he
              generalize z.getD j 0 = x at hck
              obtain ⟨g, cp, rfl⟩ := ownsRow_pos HR1.out hpos
              have d2 := HY1.out.c2
              have d3 := HY1.out.c3
              have d0 := HY1.out.c0
              have d1 := HY1.out.c1
              have hle := fun ty => HO1.out.len (t := 25) (e := 33) Yba.underlying25 ty
              rw [HG.out.size_] at hle
              go_wp2
              clear d0 d1 d2 d3 hle
              go_loopw [140] (fun i wq => ∃ (q : Nat), q ≤ k ∧ i = .int .i64 q ∧ Below w1.heap.size w1 wq) (fun i _ => k - (intOf i).toNat)
              case atStart => exact ⟨0, Nat.zero_le _, rfl, Below.refl _ _⟩
              case round =>
                obtain ⟨q, hq, rfl, hbq⟩ := hrel
                by_cases hlq : q < k
                · have hnq : Below w.heap.size w wr := hnx1.trans (hbq.mono hnx1.size)
                  have hcq := (hnq.cell (p := ⟨b, off + q, none⟩) hb).trans (HC.out q hlq)
                  obtain ⟨x, HX⟩ : ∃ x, Hid (x = z.getD q 0) := ⟨_, rfl⟩
                  rw [← HX.out] at hcq
                  go_wp2_with fail
                  refine (key_below q _ (by omega)).mono ?_
                  rintro e w3 ⟨rfl, hb3⟩
                  have hb13 : Below w1.heap.size w1 w3 := hbq.trans (hb3.mono hbq.size)
                  have HO3 : Hid (w3.ownsMap Yba.prog 9 gElem w.heap.size k D) := ownsMap_below HO1.out hb13
                  have HY3 : Hid (Yard w3 (w.heap.size + 1) (.map (some w.heap.size)) (.slice (some ⟨g, 0, none⟩) k cp) a3 a4) := HY1.out.below hb13 HY1.out.lt
                  have HR3 : Hid (w3.ownsRow (w.heap.size + 2) 35 2 (.slice (some ⟨g, 0, none⟩) k cp) k (burials k)) := ownsRow_below HR1.out hb13
                  have c0 := HY3.out.c0
                  have c1 := cell_alloc_lt HY3.out.c1
                  have e0 := cell_alloc_lt ((HR3.out.cellAt (q * 2) (by omega)).trans (burials_at hlq).1)
                  have e1 := cell_alloc_lt ((HR3.out.cellAt (q * 2 + 1) (by omega)).trans (burials_at hlq).2)
                  obtain ⟨vv, ps, hrun, hv⟩ := HO3.out.look_ok (t := 25) law9 Yba.underlying25 (zero33 _) (gElem_mk (0, 0, 0)) (keyOf_key q)
                  rw [Maps.has_true_of_atKey (HG.out.at_ q hlq)] at hrun
                  rw [HG.out.at_ q hlq] at hv
                  obtain ⟨c, rfl, hcc⟩ := gElem_inv hv
                  simp only [Prod.mk.injEq] at hcc
                  obtain rfl : grave z q = c := gDat_inj hcc.1
                  have hgv : gVal (grave z q) = .agg #[.int .u64 x, .int .u64 (q : Int), .int .u64 ((q : Int) + 1)] := by rw [HX.out]; rfl
                  rw [hgv] at hrun
                  clear hv hcc hgv hcq hnq
                  go_wp2
                  go_roundw
                  case rel => exact ⟨q + 1, by omega, by go_num, hb13.alloc hb13.size _⟩
                  case measure => simp [intOf]; omega
                · go_wp2
                  go_ret
                  exact ⟨rfl, hnx1.trans (hbq.mono hnx1.size)⟩
            · have he' : (a1 == a2) = false := by simpa using he
              have hmt := model_t (HW.out j) HA1.out HA2.out he HIN.out
              clear he
              generalize z.getD j 0 = x at hck hmt
              obtain ⟨g, cp, rfl⟩ := ownsRow_pos HR1.out hpos
              have d2 := HY1.out.c2
              have d3 := HY1.out.c3
              have d0 := HY1.out.c0
              have d1 := HY1.out.c1
              have hle := fun ty => HO1.out.len (t := 25) (e := 33) Yba.underlying25 ty
              rw [HG.out.size_] at hle
              go_wp2
              clear d0 d1 d2 d3 hle
              go_loopw [140] (fun i wq => ∃ (q : Nat), q ≤ k ∧ i = .int .i64 q ∧ Below w1.heap.size w1 wq) (fun i _ => k - (intOf i).toNat)
              case atStart => exact ⟨0, Nat.zero_le _, rfl, Below.refl _ _⟩
              case round =>
                obtain ⟨q, hq, rfl, hbq⟩ := hrel
                by_cases hlq : q < k
                · have hnq : Below w.heap.size w wr := hnx1.trans (hbq.mono hnx1.size)
                  have hcq := (hnq.cell (p := ⟨b, off + q, none⟩) hb).trans (HC.out q hlq)
                  obtain ⟨x, HX⟩ : ∃ x, Hid (x = z.getD q 0) := ⟨_, rfl⟩
                  rw [← HX.out] at hcq
                  go_wp2_with fail
                  refine (key_below q _ (by omega)).mono ?_
                  rintro e w3 ⟨rfl, hb3⟩
                  have hb13 : Below w1.heap.size w1 w3 := hbq.trans (hb3.mono hbq.size)
                  have HO3 : Hid (w3.ownsMap Yba.prog 9 gElem w.heap.size k D) := ownsMap_below HO1.out hb13
                  have HY3 : Hid (Yard w3 (w.heap.size + 1) (.map (some w.heap.size)) (.slice (some ⟨g, 0, none⟩) k cp) a3 a4) := HY1.out.below hb13 HY1.out.lt
                  have HR3 : Hid (w3.ownsRow (w.heap.size + 2) 35 2 (.slice (some ⟨g, 0, none⟩) k cp) k (burials k)) := ownsRow_below HR1.out hb13
                  have c0 := HY3.out.c0
                  have c1 := cell_alloc_lt HY3.out.c1
                  have e0 := cell_alloc_lt ((HR3.out.cellAt (q * 2) (by omega)).trans (burials_at hlq).1)
                  have e1 := cell_alloc_lt ((HR3.out.cellAt (q * 2 + 1) (by omega)).trans (burials_at hlq).2)
                  obtain ⟨vv, ps, hrun, hv⟩ := HO3.out.look_ok (t := 25) law9 Yba.underlying25 (zero33 _) (gElem_mk (0, 0, 0)) (keyOf_key q)
                  rw [Maps.has_true_of_atKey (HG.out.at_ q hlq)] at hrun
                  rw [HG.out.at_ q hlq] at hv
                  obtain ⟨c, rfl, hcc⟩ := gElem_inv hv
                  simp only [Prod.mk.injEq] at hcc
                  obtain rfl : grave z q = c := gDat_inj hcc.1
                  have hgv : gVal (grave z q) = .agg #[.int .u64 x, .int .u64 (q : Int), .int .u64 ((q : Int) + 1)] := by rw [HX.out]; rfl
                  rw [hgv] at hrun
                  clear hv hcc hgv hcq hnq
                  go_wp2
                  go_roundw
                  case rel => exact ⟨q + 1, by omega, by go_num, hb13.alloc hb13.size _⟩
                  case measure => simp [intOf]; omega
                · go_wp2
                  go_ret
                  exact ⟨rfl, hnx1.trans (hbq.mono hnx1.size)⟩

end Go.Proofs.Ybulkdyjw
