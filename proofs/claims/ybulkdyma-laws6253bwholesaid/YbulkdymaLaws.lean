import Derived.Test.YbulkdymaWalks
import Derived.Laws.IdiomStrings
namespace Go.Proofs.Ybulkdyma
open Go.RowKit

/-- Where an owned row of the five kinds can be read. -/
theorem row_cells {w : World} {base g c : Nat} (h : w.ownsRow base 25 1 (.slice (some ⟨g, 0, none⟩) 5 c) 5 (kv 5)) : ∀ j, j < 5 → w.cell? ⟨g, j, none⟩ = some (.int .i64 ((ks 5).getD j 0)) := fun j hj => by
  rw [h.cellAt j (by omega), kv_at hj]
  simp [List.getD, ks_at hj]
theorem row_below {w w' : World} {base e size : Nat} {v : Value} {n : Nat} {xs : List Value} (h : w.ownsRow base e size v n xs) (hb : Below w.heap.size w w') : w'.ownsRow base e size v n xs := by
  obtain ⟨h1, h2⟩ := h
  refine ⟨h1, ?_⟩
  rcases h2 with h2 | ⟨g, cap, cur, r1, r2, r3, r4⟩
  · exact .inl h2
  · exact .inr ⟨g, cap, cur, r1, r2, (hb.block g (Array.getElem?_eq_some_iff.1 r3).1).trans r3, r4⟩
theorem row_lt {w : World} {base e size g n c : Nat} {xs : List Value} (h : w.ownsRow base e size (.slice (some ⟨g, 0, none⟩) n c) n xs) : base ≤ g ∧ g < w.heap.size := by
  rcases h.2 with ⟨h0, _⟩ | ⟨g', cap, cur, hv, hb, hg, _⟩
  · cases h0
  · cases hv
    exact ⟨hb, (Array.getElem?_eq_some_iff.1 hg).1⟩

set_option maxHeartbeats 2000000 in
theorem whole_walk (w : World) : Calls Yba.prog 3 #[] w fun e w' => e = .returned (.bool true) ∧ Below w.heap.size w w' := by
  have hq := fun w a n c => Lib.run_eql_slice_nil (P := Yba.prog) w 22 25 a n c 0 0 Yba.underlying22
  go_enter Yba.func3, Yba.ntmps3
  go_wp2_with fail
  refine (kinds_any _).mono ?_
  rintro e w1 ⟨g, c, rfl, hr1, hb1⟩
  have HR1 : Hid (w1.ownsRow w.heap.size 25 1 (.slice (some ⟨g, 0, none⟩) 5 c) 5 (kv 5)) := hr1
  clear hr1
  go_wp2_with fail
  refine (model_any _).mono ?_
  rintro e w2 ⟨rfl, hr2, hb2⟩
  have HR12 : Hid (w2.ownsRow w.heap.size 25 1 (.slice (some ⟨g, 0, none⟩) 5 c) 5 (kv 5)) := row_below HR1.out hb2
  have HR2 : Hid (w2.ownsRow w1.heap.size 25 1 (.slice (some ⟨w1.heap.size, 0, none⟩) 5 5) 5 (kv 5)) := hr2
  clear hr2
  go_wp2_with fail
  refine (eq_any g c w1.heap.size 5 5 (ks 5) (Nat.le_refl _) _ (row_cells HR12.out) (row_cells HR2.out)).mono ?_
  rintro e w3 ⟨rfl, m, rfl⟩
  obtain ⟨W, hW⟩ : ∃ W, W = (w2.drewN m).alloc (.cells #[.int .i64 1, .int .i64 2, .int .i64 3, .int .i64 4, .int .i64 5] 25) := ⟨_, rfl⟩
  have HRW : Hid (W.ownsRow w.heap.size 25 1 (.slice (some ⟨g, 0, none⟩) 5 c) 5 (kv 5)) := by rw [hW]; exact World.ownsRow.alloc (w := w2.drewN m) HR12.out _
  have HC2 : Hid (∀ j, j < 5 → W.cell? ⟨w2.heap.size, j, none⟩ = some (.int .i64 ((ks 5).getD j 0))) := by
    intro j hj
    rw [hW]
    refine (World.cell?_alloc_mark (w2.drewN m) _ 25 _ j).trans ?_
    match j, hj with
    | 0, _ => rfl
    | 1, _ => rfl
    | 2, _ => rfl
    | 3, _ => rfl
    | 4, _ => rfl
  have HBW : Hid (Below w.heap.size w W) := by
    rw [hW]
    exact (below_drewN (hb1.trans (hb2.mono hb1.size)) m).alloc (Nat.le_trans hb1.size hb2.size) _
  have HW : Hid (W = (w2.drewN m).alloc (.cells #[.int .i64 1, .int .i64 2, .int .i64 3, .int .i64 4, .int .i64 5] 25)) := hW
  clear hW
  go_wp2_with fail
  rw [← HW.out]
  refine (eq_any g c w2.heap.size 5 5 (ks 5) (Nat.le_refl _) _ (by exact row_cells HRW.out) (by exact HC2.out)).mono ?_
  rintro e w4 ⟨rfl, m', rfl⟩
  clear HW
  go_wp2
  go_loop [3] (fun i => ∃ k : Nat, k ≤ 5 ∧ i = .int .i64 k) (fun i => 5 - (intOf i).toNat)
  case atStart => exact ⟨0, by decide, rfl⟩
  case round =>
    obtain ⟨k, hk, rfl⟩ := hrel
    by_cases hlt : k < 5
    · have hc : W.cell? ⟨g, k, none⟩ = some (.int .i64 ((k : Int) + 1)) := (HRW.out.cellAt k (by omega)).trans (kv_at hlt)
      go_wp2_with (go_at_call 8; refine (valid_yes _ _ (by omega) (by omega)).mono ?_; rintro e w' ⟨rfl, rfl⟩)
      go_round
      case rel => exact ⟨k + 1, by omega, by go_num⟩
      case measure => simp [intOf]; omega
    · go_wp2
      go_ret
      exact ⟨rfl, below_drewN HBW.out _⟩

set_option maxHeartbeats 2000000 in
theorem fresh_walk (a0 a1 : Int) (h0 : 0 ≤ a0 ∧ a0 ≤ 255) (w : World) : Calls Yba.prog 4 #[.int .u8 a0, .int .i64 a1] w fun e w' => e = .returned (.bool true) ∧ Below w.heap.size w w' := by
  obtain ⟨h00, h01⟩ := h0
  go_enter Yba.func4, Yba.ntmps4
  go_wp2_with fail
  refine (kinds_any _).mono ?_
  rintro e w1 ⟨g, c, rfl, hr1, hb1⟩
  have HR1 : Hid (w1.ownsRow w.heap.size 25 1 (.slice (some ⟨g, 0, none⟩) 5 c) 5 (kv 5)) := hr1
  clear hr1
  obtain ⟨j, hj⟩ : ∃ j : Nat, a0 % 5 = (j : Int) := ⟨(a0 % 5).toNat, by omega⟩
  have hj5 : j < 5 := by omega
  have HJ : Hid (a0 % 5 = (j : Int)) := hj
  have hcj := (HR1.out.cellAt j (by omega)).trans (kv_at hj5)
  have hfj := HR1.out.frozenAt j
  go_wp2_with fail
  refine (kinds_any _).mono ?_
  rintro e w2 ⟨g2, c2, rfl, hr2, hb2⟩
  obtain ⟨W1, hW1⟩ : ∃ W1, W1 = w1.setCell ⟨g, j, none⟩ (.int .i64 a1) := ⟨_, rfl⟩
  rw [← hW1] at hr2 hb2
  have HBW : Hid (Below w.heap.size w W1) := by rw [hW1]; exact hb1.setCell (row_lt HR1.out).1 _
  have HR2 : Hid (w2.ownsRow W1.heap.size 25 1 (.slice (some ⟨g2, 0, none⟩) 5 c2) 5 (kv 5)) := hr2
  have HB2 : Hid (Below W1.heap.size W1 w2) := hb2
  clear hr2 hb2 hW1 hcj hfj
  go_wp2_with fail
  refine (model_any _).mono ?_
  rintro e w3 ⟨rfl, hr3, hb3⟩
  have HR23 : Hid (w3.ownsRow W1.heap.size 25 1 (.slice (some ⟨g2, 0, none⟩) 5 c2) 5 (kv 5)) := row_below HR2.out hb3
  have HR3 : Hid (w3.ownsRow w2.heap.size 25 1 (.slice (some ⟨w2.heap.size, 0, none⟩) 5 5) 5 (kv 5)) := hr3
  clear hr3
  go_wp2_with fail
  refine (eq_any g2 c2 w2.heap.size 5 5 (ks 5) (Nat.le_refl _) _ (row_cells HR23.out) (row_cells HR3.out)).mono ?_
  rintro e w4 ⟨rfl, m, rfl⟩
  go_wp2
  go_ret
  have s1 := HBW.out.size
  have s2 := HB2.out.size
  exact ⟨rfl, below_drewN ((HBW.out.trans (HB2.out.mono s1)).trans (hb3.mono (by omega))) _⟩

end Go.Proofs.Ybulkdyma
