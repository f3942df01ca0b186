import Derived.Test.YbulkdyjiAPlain
import Derived.OpenShut
namespace Go.Proofs.Ybulkdyji
open Go.RowKit Go.Maps

theorem wf_getD {z : List Int} (h : ∀ n ∈ z, (Lit.int .i64 n).wf = true) (k : Nat) : (Lit.int .i64 (z.getD k 0)).wf = true := by
  by_cases hk : k < z.length
  · have := h _ (List.getElem_mem hk)
    simpa [List.getD, List.getElem?_eq_getElem hk] using this
  · have : z.getD k 0 = 0 := by simp [List.getD, List.getElem?_eq_none (Nat.le_of_not_lt hk)]
    rw [this]; decide

set_option maxRecDepth 100000 in
set_option maxHeartbeats 8000000 in
theorem walk_vals (hsort : SortSaid) (b off len cap : Nat) (z0 : List Int) (b1 off1 len1 cap1 : Nat) (z1 : List Int) (w : World)
    (hl : len ≤ 1048576) (hpos : 0 < len) (hz : len ≤ z0.length) (hb : b < w.heap.size)
    (hc : ∀ j, j < len → w.cell? ⟨b, off + j, none⟩ = some (.int .i64 (z0.getD j 0))) (hw : ∀ n ∈ z0, (Lit.int .i64 n).wf = true) (hl1 : len1 ≤ 1048576) (hpos1 : 0 < len1) (hb1 : b1 < w.heap.size) (hc1 : ∀ j, j < len1 → w.cell? ⟨b1, off1 + j, none⟩ = some (.int .i64 (z1.getD j 0))) (hw1 : ∀ n ∈ z1, (Lit.int .i64 n).wf = true) :
    Calls Yba.prog 3 #[.slice (some ⟨b, off, none⟩) len cap, .slice (some ⟨b1, off1, none⟩) len1 cap1, .bool false] w fun e w' => e = .returned (.bool true) ∧ Below w.heap.size w w' := by
  have hl' : ¬ (1048576 : Int) < (len : Int) := by omega
  have hn0 : ((len : Int) == 0) = false := beq_eq_false_iff_ne.2 (by omega)
  have hmm := @run_makeMap Yba.prog
  have HC : Hid (∀ j, j < len → w.cell? ⟨b, off + j, none⟩ = some (.int .i64 (z0.getD j 0))) := hc
  have HW : Hid (∀ n ∈ z0, (Lit.int .i64 n).wf = true) := hw
  clear hc hw
  have hl1' : ¬ (1048576 : Int) < (len1 : Int) := by omega
  have hp1' : (0 : Int) < (len1 : Int) := by omega
  have HC1 : Hid (∀ j, j < len1 → w.cell? ⟨b1, off1 + j, none⟩ = some (.int .i64 (z1.getD j 0))) := hc1
  have HW1 : Hid (∀ n ∈ z1, (Lit.int .i64 n).wf = true) := hw1
  clear hc1 hw1
  go_enter Yba.func3, Yba.ntmps3
  go_wp2
  go_loopw [39] (fun i wr => ∃ (k : Nat) (D : DataW Unit), k ≤ len ∧ i = .int .i64 k ∧ Hid (wr.ownsMap Yba.prog 3 (plainElem Yba.prog 3) w.heap.size k D) ∧ Hid (wr.ownsMap Yba.prog 3 (plainElem Yba.prog 3) (w.heap.size + 1) k D) ∧ Hid (Keys D (z0.take k)) ∧ Below w.heap.size w wr)
    (fun i _ => len - (intOf i).toNat)
  case atStart =>
    exact ⟨0, .map [], Nat.zero_le _, rfl, (World.ownsMap_made _ _ _ _).alloc _, by have := World.ownsMap_made (H := Unit) (w.alloc (.map #[] 0)) Yba.prog 3 (plainElem Yba.prog 3); simpa [Hid] using this, Keys.start, ((Below.refl _ _).alloc (Nat.le_refl _) _).alloc (by simp) _⟩
  case round =>
    obtain ⟨k, D, hk, rfl, HO1, HO2, HK, hnx⟩ := hrel
    by_cases hlt : k < len
    · have hck := (hnx.cell (p := ⟨b, off + k, none⟩) hb).trans (HC.out k hlt)
      obtain ⟨z, HZ⟩ : ∃ z, Hid (z = z0.getD k 0) := ⟨_, rfl⟩
      have hwz : (Lit.int .i64 z).wf = true := by rw [HZ.out]; exact wf_getD HW.out k
      rw [← HZ.out] at hck
      have m0 : 0 ≤ (k : Int) % (len1 : Int) := Int.emod_nonneg _ (by omega)
      have m1 : (k : Int) % (len1 : Int) < (len1 : Int) := Int.emod_lt_of_pos _ (by omega)
      have hcv := (hnx.cell (p := ⟨b1, off1 + k % len1, none⟩) hb1).trans (HC1.out (k % len1) (Nat.mod_lt _ hpos1))
      have hwv := wf_getD HW1.out (k % len1)
      generalize z1.getD (k % len1) 0 = v at hcv hwv
      go_wp2_with (first
        | (at_mapUpdate; refine wpList_mapUpdate_own _ rfl (.tmp 54) (.tmp 55) (.tmp 56) 24 rfl 3 3 law3 Yba.underlying24 _ w.heap.size k _ rfl HO1.out (by unfold maxLen; omega) _ _ _ rfl rfl (keyOf_int_mk Yba.underlying3 hwz) _ [] (plainElem_int Yba.underlying3 hwv) ?_; intro w1 hown1 hg1)
        | (at_mapUpdate; refine wpList_mapUpdate_own _ rfl (.tmp 57) (.tmp 58) (.tmp 59) 23 rfl 3 3 law3 Yba.underlying23 _ (w.heap.size + 1) k _ rfl (HO2.out.kept hg1 (by simp)) (by unfold maxLen; omega) _ _ _ rfl rfl (keyOf_int_mk Yba.underlying3 hwz) _ [] (plainElem_int Yba.underlying3 hwv) ?_; intro w2 hown2 hg2))
      go_roundw
      case rel =>
        have hK' : Keys (D.put (.int .i64 z) (.lit (.int .i64 v))) (z0.take (k + 1)) := by
          rw [take_succ_getD z0 k (by omega), ← HZ.out]
          exact Keys.put HO1.out.isMap HK.out z _
        exact ⟨k + 1, _, by omega, by go_num, hown1.kept hg2 (by simp), hown2, hK', (hnx.grown hg1 hnx.size (fun j hj => by cases hj; exact Nat.le_refl _)).grown hg2 (Nat.le_trans hnx.size hg1.size) (fun j hj => by cases hj; exact Nat.le_succ _)⟩
      case measure => simp [intOf]; omega
    · obtain rfl : k = len := by omega
      clear hlt
      go_wp2
      go_loop [12, 63] (fun t i => ∃ (j : Nat) (m : Int), j ≤ k ∧ i = .int .i64 j ∧ t = .int .i64 m ∧ Hid (MaxTo z0 j m)) (fun _ i => k - (intOf i).toNat)
      case atStart => exact ⟨0, -1, Nat.zero_le _, rfl, rfl, MaxTo.start z0⟩
      case round =>
        obtain ⟨j, m, hj, rfl, rfl, HM⟩ := hrel
        by_cases hlt : j < k
        · have hck := (hnx.cell (p := ⟨b, off + j, none⟩) hb).trans (HC.out j hlt)
          obtain ⟨z, HZ⟩ : ∃ z, Hid (z = z0.getD j 0) := ⟨_, rfl⟩
          rw [← HZ.out] at hck
          by_cases h0 : j = 0
          · have e0 : ((j : Int) == 0) = true := beq_iff_eq.2 (by omega)
            have HM' : Hid (MaxTo z0 (j + 1) z) := HM.out.up (by omega) HZ.out (.inl h0)
            have H0 : Hid (j = 0) := h0
            clear h0
            go_wp2
            go_round
            case rel => exact ⟨j + 1, z, by omega, by go_num, rfl, HM'⟩
            case measure => simp [intOf]; omega
          · have e0 : ((j : Int) == 0) = false := beq_eq_false_iff_ne.2 (by omega)
            by_cases hg : m < z
            · have HM' : Hid (MaxTo z0 (j + 1) z) := HM.out.up (by omega) HZ.out (.inr hg)
              go_wp2
              go_round
              case rel => exact ⟨j + 1, z, by omega, by go_num, rfl, HM'⟩
              case measure => simp [intOf]; omega
            · have HM' : Hid (MaxTo z0 (j + 1) m) := HM.out.stay (by omega) HZ.out h0 (by omega)
              go_wp2
              go_round
              case rel => exact ⟨j + 1, m, by omega, by go_num, rfl, HM'⟩
              case measure => simp [intOf]; omega
        · obtain rfl : j = k := by omega
          clear hlt
          have hsz : Maps.size D ≤ 1048576 := Nat.le_trans HO1.out.size_le hl
          go_wp2_with fail
          refine (max_any hsort w.heap.size j D wr HO1.out hsz).mono ?_
          rintro e w2 ⟨m', rfl, hmm', hb2⟩
          obtain rfl : m' = m := max_one hpos HK.out HM.out hmm'
          have HO1' : Hid (w2.ownsMap Yba.prog 3 (plainElem Yba.prog 3) w.heap.size j D) := ownsMap_below HO1.out hb2
          have HO2' : Hid (w2.ownsMap Yba.prog 3 (plainElem Yba.prog 3) (w.heap.size + 1) j D) := ownsMap_below HO2.out hb2
          have hnx2 : Below w.heap.size w w2 := hnx.trans (hb2.mono hnx.size)
          have hl1 := fun ty => HO1'.out.len (t := 24) (e := 3) Yba.underlying24 ty
          have hl2 := fun ty => HO2'.out.len (t := 23) (e := 3) Yba.underlying23 ty
          have hq1 := fun r => run_eql_map_nil (P := Yba.prog) w2 24 3 3 r Yba.underlying24
          have hq2 := fun r => run_eql_map_nil (P := Yba.prog) w2 23 3 3 r Yba.underlying23
          clear hmm' hb2 hnx
          go_wp2
          go_loop [96] (fun i => ∃ (i' : Nat), i' ≤ j ∧ i = .int .i64 i') (fun i => j - (intOf i).toNat)
          case atStart => exact ⟨0, Nat.zero_le _, rfl⟩
          case round =>
            clear hl1 hl2 hq1 hq2
            obtain ⟨i, hi, rfl⟩ := hrel
            by_cases hlt : i < j
            · have hck := (hnx2.cell (p := ⟨b, off + i, none⟩) hb).trans (HC.out i hlt)
              obtain ⟨z, HZ⟩ : ∃ z, Hid (z = z0.getD i 0) := ⟨_, rfl⟩
              have hwz : (Lit.int .i64 z).wf = true := by rw [HZ.out]; exact wf_getD HW.out i
              rw [← HZ.out] at hck
              have hhas : Maps.has D (.int .i64 z) = true := by
                refine (HK.out z).2 ?_
                rw [HZ.out]
                have hi' : i < z0.length := by omega
                have : z0.getD i 0 = z0[i] := by simp [List.getD, List.getElem?_eq_getElem hi']
                rw [this]
                exact List.mem_take_iff_getElem.2 ⟨i, by omega, rfl⟩
              obtain ⟨cv, hrun2, hat2, _⟩ := HO2'.out.lookup_int (t := 23) law3 Yba.underlying23 Yba.underlying3 (zero3 _) (keyOf_int_mk Yba.underlying3 hwz)
              obtain ⟨vv, ps, hrun1, hv1⟩ := HO1'.out.look_ok (t := 24) law3 Yba.underlying24 (zero3 _) (plainElem_int Yba.underlying3 (a := 0) (by decide)) (keyOf_int_mk Yba.underlying3 hwz)
              rw [hat2] at hv1
              obtain ⟨c1, rfl, hc1, _⟩ := plainElem_int_inv Yba.underlying3 hv1
              simp only [Prod.mk.injEq, DataW.lit.injEq, Lit.int.injEq, true_and] at hc1
              obtain ⟨rfl, _⟩ := hc1
              rw [hhas] at hrun1
              clear hv1 hat2 hhas
              go_wp2
              go_round
              case rel => exact ⟨i + 1, by omega, by go_num⟩
              case measure => simp [intOf]; omega
            · go_wp2
              go_ret
              exact ⟨rfl, hnx2⟩

set_option maxRecDepth 100000 in
set_option maxHeartbeats 8000000 in
theorem walk_vals_t (hsort : SortSaid) (b off len cap : Nat) (z0 : List Int) (b1 off1 len1 cap1 : Nat) (z1 : List Int) (w : World)
    (hl : len ≤ 1048576) (hpos : 0 < len) (hz : len ≤ z0.length) (hb : b < w.heap.size)
    (hc : ∀ j, j < len → w.cell? ⟨b, off + j, none⟩ = some (.int .i64 (z0.getD j 0))) (hw : ∀ n ∈ z0, (Lit.int .i64 n).wf = true) (hl1 : len1 ≤ 1048576) (hpos1 : 0 < len1) (hb1 : b1 < w.heap.size) (hc1 : ∀ j, j < len1 → w.cell? ⟨b1, off1 + j, none⟩ = some (.int .i64 (z1.getD j 0))) (hw1 : ∀ n ∈ z1, (Lit.int .i64 n).wf = true) :
    Calls Yba.prog 3 #[.slice (some ⟨b, off, none⟩) len cap, .slice (some ⟨b1, off1, none⟩) len1 cap1, .bool true] w fun e w' => e = .returned (.bool true) ∧ Below w.heap.size w w' := by
  have hl' : ¬ (1048576 : Int) < (len : Int) := by omega
  have hn0 : ((len : Int) == 0) = false := beq_eq_false_iff_ne.2 (by omega)
  have hmm := @run_makeMap Yba.prog
  have HC : Hid (∀ j, j < len → w.cell? ⟨b, off + j, none⟩ = some (.int .i64 (z0.getD j 0))) := hc
  have HW : Hid (∀ n ∈ z0, (Lit.int .i64 n).wf = true) := hw
  clear hc hw
  have hl1' : ¬ (1048576 : Int) < (len1 : Int) := by omega
  have hp1' : (0 : Int) < (len1 : Int) := by omega
  have HC1 : Hid (∀ j, j < len1 → w.cell? ⟨b1, off1 + j, none⟩ = some (.int .i64 (z1.getD j 0))) := hc1
  have HW1 : Hid (∀ n ∈ z1, (Lit.int .i64 n).wf = true) := hw1
  clear hc1 hw1
  go_enter Yba.func3, Yba.ntmps3
  go_wp2
  go_loopw [39] (fun i wr => ∃ (k : Nat) (D : DataW Unit), k ≤ len ∧ i = .int .i64 k ∧ Hid (wr.ownsMap Yba.prog 3 (plainElem Yba.prog 3) w.heap.size k D) ∧ Hid (wr.ownsMap Yba.prog 3 (plainElem Yba.prog 3) (w.heap.size + 1) k D) ∧ Hid (Keys D (z0.take k)) ∧ Below w.heap.size w wr)
    (fun i _ => len - (intOf i).toNat)
  case atStart =>
    exact ⟨0, .map [], Nat.zero_le _, rfl, (World.ownsMap_made _ _ _ _).alloc _, by have := World.ownsMap_made (H := Unit) (w.alloc (.map #[] 0)) Yba.prog 3 (plainElem Yba.prog 3); simpa [Hid] using this, Keys.start, ((Below.refl _ _).alloc (Nat.le_refl _) _).alloc (by simp) _⟩
  case round =>
    obtain ⟨k, D, hk, rfl, HO1, HO2, HK, hnx⟩ := hrel
    by_cases hlt : k < len
    · have hck := (hnx.cell (p := ⟨b, off + k, none⟩) hb).trans (HC.out k hlt)
      obtain ⟨z, HZ⟩ : ∃ z, Hid (z = z0.getD k 0) := ⟨_, rfl⟩
      have hwz : (Lit.int .i64 z).wf = true := by rw [HZ.out]; exact wf_getD HW.out k
      rw [← HZ.out] at hck
      have m0 : 0 ≤ (k : Int) % (len1 : Int) := Int.emod_nonneg _ (by omega)
      have m1 : (k : Int) % (len1 : Int) < (len1 : Int) := Int.emod_lt_of_pos _ (by omega)
      have hcv := (hnx.cell (p := ⟨b1, off1 + k % len1, none⟩) hb1).trans (HC1.out (k % len1) (Nat.mod_lt _ hpos1))
      have hwv := wf_getD HW1.out (k % len1)
      generalize z1.getD (k % len1) 0 = v at hcv hwv
      go_wp2_with (first
        | (at_mapUpdate; refine wpList_mapUpdate_own _ rfl (.tmp 54) (.tmp 55) (.tmp 56) 24 rfl 3 3 law3 Yba.underlying24 _ w.heap.size k _ rfl HO1.out (by unfold maxLen; omega) _ _ _ rfl rfl (keyOf_int_mk Yba.underlying3 hwz) _ [] (plainElem_int Yba.underlying3 hwv) ?_; intro w1 hown1 hg1)
        | (at_mapUpdate; refine wpList_mapUpdate_own _ rfl (.tmp 57) (.tmp 58) (.tmp 59) 23 rfl 3 3 law3 Yba.underlying23 _ (w.heap.size + 1) k _ rfl (HO2.out.kept hg1 (by simp)) (by unfold maxLen; omega) _ _ _ rfl rfl (keyOf_int_mk Yba.underlying3 hwz) _ [] (plainElem_int Yba.underlying3 hwv) ?_; intro w2 hown2 hg2))
      go_roundw
      case rel =>
        have hK' : Keys (D.put (.int .i64 z) (.lit (.int .i64 v))) (z0.take (k + 1)) := by
          rw [take_succ_getD z0 k (by omega), ← HZ.out]
          exact Keys.put HO1.out.isMap HK.out z _
        exact ⟨k + 1, _, by omega, by go_num, hown1.kept hg2 (by simp), hown2, hK', (hnx.grown hg1 hnx.size (fun j hj => by cases hj; exact Nat.le_refl _)).grown hg2 (Nat.le_trans hnx.size hg1.size) (fun j hj => by cases hj; exact Nat.le_succ _)⟩
      case measure => simp [intOf]; omega
    · obtain rfl : k = len := by omega
      clear hlt
      go_wp2
      go_loop [12, 63] (fun t i => ∃ (j : Nat) (m : Int), j ≤ k ∧ i = .int .i64 j ∧ t = .int .i64 m ∧ Hid (MaxTo z0 j m)) (fun _ i => k - (intOf i).toNat)
      case atStart => exact ⟨0, -1, Nat.zero_le _, rfl, rfl, MaxTo.start z0⟩
      case round =>
        obtain ⟨j, m, hj, rfl, rfl, HM⟩ := hrel
        by_cases hlt : j < k
        · have hck := (hnx.cell (p := ⟨b, off + j, none⟩) hb).trans (HC.out j hlt)
          obtain ⟨z, HZ⟩ : ∃ z, Hid (z = z0.getD j 0) := ⟨_, rfl⟩
          rw [← HZ.out] at hck
          by_cases h0 : j = 0
          · have e0 : ((j : Int) == 0) = true := beq_iff_eq.2 (by omega)
            have HM' : Hid (MaxTo z0 (j + 1) z) := HM.out.up (by omega) HZ.out (.inl h0)
            have H0 : Hid (j = 0) := h0
            clear h0
            go_wp2
            go_round
            case rel => exact ⟨j + 1, z, by omega, by go_num, rfl, HM'⟩
            case measure => simp [intOf]; omega
          · have e0 : ((j : Int) == 0) = false := beq_eq_false_iff_ne.2 (by omega)
            by_cases hg : m < z
            · have HM' : Hid (MaxTo z0 (j + 1) z) := HM.out.up (by omega) HZ.out (.inr hg)
              go_wp2
              go_round
              case rel => exact ⟨j + 1, z, by omega, by go_num, rfl, HM'⟩
              case measure => simp [intOf]; omega
            · have HM' : Hid (MaxTo z0 (j + 1) m) := HM.out.stay (by omega) HZ.out h0 (by omega)
              go_wp2
              go_round
              case rel => exact ⟨j + 1, m, by omega, by go_num, rfl, HM'⟩
              case measure => simp [intOf]; omega
        · obtain rfl : j = k := by omega
          clear hlt
          have hsz : Maps.size D ≤ 1048576 := Nat.le_trans HO1.out.size_le hl
          go_wp2_with fail
          refine (max_any hsort w.heap.size j D wr HO1.out hsz).mono ?_
          rintro e w2 ⟨m', rfl, hmm', hb2⟩
          obtain rfl : m' = m := max_one hpos HK.out HM.out hmm'
          have HO1' : Hid (w2.ownsMap Yba.prog 3 (plainElem Yba.prog 3) w.heap.size j D) := ownsMap_below HO1.out hb2
          have HO2' : Hid (w2.ownsMap Yba.prog 3 (plainElem Yba.prog 3) (w.heap.size + 1) j D) := ownsMap_below HO2.out hb2
          have hnx2 : Below w.heap.size w w2 := hnx.trans (hb2.mono hnx.size)
          have hl1 := fun ty => HO1'.out.len (t := 24) (e := 3) Yba.underlying24 ty
          have hl2 := fun ty => HO2'.out.len (t := 23) (e := 3) Yba.underlying23 ty
          have hq1 := fun r => run_eql_map_nil (P := Yba.prog) w2 24 3 3 r Yba.underlying24
          have hq2 := fun r => run_eql_map_nil (P := Yba.prog) w2 23 3 3 r Yba.underlying23
          clear hmm' hb2 hnx
          go_wp2
          go_loop [96] (fun i => ∃ (i' : Nat), i' ≤ j ∧ i = .int .i64 i') (fun i => j - (intOf i).toNat)
          case atStart => exact ⟨0, Nat.zero_le _, rfl⟩
          case round =>
            clear hl1 hl2 hq1 hq2
            obtain ⟨i, hi, rfl⟩ := hrel
            by_cases hlt : i < j
            · have hck := (hnx2.cell (p := ⟨b, off + i, none⟩) hb).trans (HC.out i hlt)
              obtain ⟨z, HZ⟩ : ∃ z, Hid (z = z0.getD i 0) := ⟨_, rfl⟩
              have hwz : (Lit.int .i64 z).wf = true := by rw [HZ.out]; exact wf_getD HW.out i
              rw [← HZ.out] at hck
              have hhas : Maps.has D (.int .i64 z) = true := by
                refine (HK.out z).2 ?_
                rw [HZ.out]
                have hi' : i < z0.length := by omega
                have : z0.getD i 0 = z0[i] := by simp [List.getD, List.getElem?_eq_getElem hi']
                rw [this]
                exact List.mem_take_iff_getElem.2 ⟨i, by omega, rfl⟩
              obtain ⟨cv, hrun2, hat2, _⟩ := HO2'.out.lookup_int (t := 23) law3 Yba.underlying23 Yba.underlying3 (zero3 _) (keyOf_int_mk Yba.underlying3 hwz)
              obtain ⟨vv, ps, hrun1, hv1⟩ := HO1'.out.look_ok (t := 24) law3 Yba.underlying24 (zero3 _) (plainElem_int Yba.underlying3 (a := 0) (by decide)) (keyOf_int_mk Yba.underlying3 hwz)
              rw [hat2] at hv1
              obtain ⟨c1, rfl, hc1, _⟩ := plainElem_int_inv Yba.underlying3 hv1
              simp only [Prod.mk.injEq, DataW.lit.injEq, Lit.int.injEq, true_and] at hc1
              obtain ⟨rfl, _⟩ := hc1
              rw [hhas] at hrun1
              clear hv1 hat2 hhas
              go_wp2
              go_round
              case rel => exact ⟨i + 1, by omega, by go_num⟩
              case measure => simp [intOf]; omega
            · go_wp2
              go_ret
              exact ⟨rfl, hnx2⟩

end Go.Proofs.Ybulkdyji
