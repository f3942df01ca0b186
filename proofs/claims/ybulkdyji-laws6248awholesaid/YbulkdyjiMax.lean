import Derived.Test.YbulkdyjiSorted
namespace Go.Proofs.Ybulkdyji
open Go.RowKit Go.Maps Go.Sort

set_option maxRecDepth 100000 in
set_option maxHeartbeats 1000000 in
theorem sorted_nil (hsort : SortSaid) (w : World) :
    Calls Yba.prog 5 #[.map none] w fun e w' => ∃ (g cap : Nat), e = .returned (.slice (some ⟨g, 0, none⟩) 0 cap) ∧ Below w.heap.size w w' := by
  obtain ⟨i0, hi, hz0, hz1, hz2⟩ := info_parts info3
  have hln := fun (w : World) (ty : TypeId) => Maps.len_nil (P := Yba.prog) (w := w) (t := 24) (k := 3) (e := 3) Yba.underlying24 ty
  go_enter Yba.func5, Yba.ntmps5
  go_wp2_with (first
    | (at_make; refine wpList_make_own _ rfl _ _ 22 rfl w.heap.size 3 i0 (.int .i64 0) 1 Yba.underlying22 hi hz0 hz1 _ _ _ 0 rfl rfl rfl (by omega) (Nat.zero_le _) (Nat.le_refl _) ?_; intro w1 hrow1 hg1
       have hrg := run_range_nilMap (P := Yba.prog) w1 24 3 3 Yba.underlying24
       have hnx : ∀ ty, (Instr.next (.pointer (some ⟨w1.heap.size, 0, none⟩)) false ty).run Yba.prog (w1.alloc (.mapIter none 0 #[] 0)) = _ := fun ty => run_next_nilMap _ ty 0 0 #[])
    | go_in)
  refine wp_loop_rounds 1 ?_
  rw [rounds_succ]
  have hrow2 := hrow1.alloc (.mapIter none 0 #[] 0)
  rcases hrow2.2 with ⟨hnil, _⟩ | ⟨g, cap, cur, hv, hbase, hb, h1, h2, h3, h4⟩
  · cases hnil
  cases hv
  have hH : Holds (Value.int .i64) (w1.alloc (.mapIter none 0 #[] 0)) w.heap.size 0 ([] : List Int).toArray := fun j hj => absurd hj (by simp)
  have hc := hsort w.heap.size 0 0 [] _ hH (Array.getElem?_eq_some_iff.1 hb).1 (by decide)
  go_wp2_with (go_at_call 6; refine hc.mono ?_; rintro e w' ⟨rfl, nn, os, rfl⟩)
  go_ret
  exact ⟨_, _, rfl, (((Below.refl _ _).grown hg1 (Nat.le_refl _) (fun j hj => by cases hj)).alloc hg1.size _).grown (grownBy_sortedI _) (by have := hg1.size; simp; omega) (fun j hj => by cases hj; exact Nat.le_refl _)⟩

/-- The last of a sorted list is on the list and no less than any. -/
theorem last_sorted (ss : List Int) (h : 0 < ss.length) : ∃ m, (ss.mergeSort (fun x y => decide (x ≤ y)))[ss.length - 1]? = some m ∧ m ∈ ss ∧ ∀ x ∈ ss, x ≤ m := by
  have hl : (ss.mergeSort (fun x y => decide (x ≤ y))).length = ss.length := List.length_mergeSort _
  have hp := List.mergeSort_perm ss (fun x y => decide (x ≤ y))
  have hs := List.pairwise_mergeSort (le := fun x y : Int => decide (x ≤ y)) (fun a b c h1 h2 => by simp only [decide_eq_true_eq] at *; omega) (fun a b => by simp only [Bool.or_eq_true, decide_eq_true_eq]; omega) ss
  have hlt : ss.length - 1 < (ss.mergeSort (fun x y => decide (x ≤ y))).length := by omega
  refine ⟨_, List.getElem?_eq_getElem hlt, hp.mem_iff.1 (List.getElem_mem hlt), fun x hx => ?_⟩
  obtain ⟨j, hj, rfl⟩ := List.getElem_of_mem (hp.mem_iff.2 hx)
  by_cases e : j = ss.length - 1
  · subst e; exact Int.le_refl _
  · have := List.pairwise_iff_getElem.1 hs j (ss.length - 1) hj hlt (by omega)
    simpa using this

set_option maxRecDepth 100000 in
set_option maxHeartbeats 1000000 in
theorem max_nil (hsort : SortSaid) (w : World) :
    Calls Yba.prog 4 #[.map none] w fun e w' => e = .returned (.int .i64 (-1)) ∧ Below w.heap.size w w' := by
  go_enter Yba.func4, Yba.ntmps4
  go_wp2_with fail
  refine (sorted_nil hsort _).mono ?_
  rintro e w1 ⟨g, cap, rfl, hb⟩
  go_wp2
  go_ret
  exact ⟨rfl, hb⟩

set_option maxRecDepth 100000 in
set_option maxHeartbeats 1000000 in
theorem max_any {H : Type} (hsort : SortSaid) (b n : Nat) (D : DataW H) (w : World) (hown : w.ownsMap Yba.prog 3 (plainElem Yba.prog 3) b n D) (hmax : Maps.size D ≤ 1048576) :
    Calls Yba.prog 4 #[.map (some b)] w fun e w' => ∃ m : Int, e = .returned (.int .i64 m) ∧
      ((∀ x, Maps.has D (.int .i64 x) = false) ∧ m = -1 ∨ Maps.has D (.int .i64 m) = true ∧ ∀ x, Maps.has D (.int .i64 x) = true → x ≤ m) ∧ Below w.heap.size w w' := by
  go_enter Yba.func4, Yba.ntmps4
  go_wp2_with fail
  refine (sorted_any hsort b n D _ hown hmax).mono ?_
  rintro e w1 ⟨g, cap, ss, rfl, hmem, hlen, hrow, hb⟩
  have HM : Hid (∀ x, x ∈ ss ↔ Maps.has D (.int .i64 x) = true) := hmem
  clear hmem
  by_cases h0 : ss.length = 0
  · have hs0 : ss = [] := List.eq_nil_of_length_eq_zero h0
    subst hs0
    clear hrow h0
    go_wp2
    go_ret
    refine ⟨-1, rfl, .inl ⟨fun x => ?_, rfl⟩, hb⟩
    have := (HM.out x)
    cases hx : Maps.has D (.int .i64 x)
    · rfl
    · have := this.2 hx; cases this
  · obtain ⟨m, hm, hin, hge⟩ := last_sorted ss (by omega)
    have hc := hrow.cellAt (ss.length - 1) (by omega)
    rw [List.getElem?_map, hm] at hc
    simp only [Option.map_some] at hc
    obtain ⟨l, hl⟩ : ∃ l, ss.length = l + 1 := ⟨ss.length - 1, by omega⟩
    have HL : Hid (ss.length = l + 1) := hl
    rw [hl] at hc ⊢
    rw [Nat.add_sub_cancel] at hc
    have HG : Hid (∀ x ∈ ss, x ≤ m) := hge
    have hlb : l + 1 ≤ 1048576 := by omega
    clear hm hrow hge h0 hl hlen
    go_wp2
    go_ret
    exact ⟨m, rfl, .inr ⟨(HM.out m).1 hin, fun x hx => HG.out x ((HM.out x).2 hx)⟩, hb⟩

end Go.Proofs.Ybulkdyji
