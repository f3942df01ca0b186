import Derived.Test.YbulkdyjiProg
import Derived.KernelRfl
import Derived.WalkKit
import Derived.WalkSpells
import Derived.Maps.OwnSet
import Derived.Maps.OwnOps
import Derived.Maps.RangeWalk
import Derived.Sort.OwnSortedInts
namespace Go.Proofs.Ybulkdyji
open Go.RowKit Go.Maps Go.Sort

theorem law3 : Keyed Yba.prog 3 := int_keyed Yba.underlying3
theorem zero3 (w : World) : (zeroValue 3).run Yba.prog w = .ok (.int .i64 0) w := by kernel_rfl
theorem info3 : (Yba.prog.info? 3).map (fun i => (i.zero, i.size, i.bytes)) = some (some (.int .i64 0), 1, 8) := by kernel_rfl

/-- WHAT slices.Sort AT []int DOES (its contract; paid in another text). -/
def SortSaid : Prop := ∀ (blk off cap : Nat) (zs : List Int) (w : World), Holds (Value.int .i64) w blk off zs.toArray → blk < w.heap.size → zs.length < 4611686018427387904 →
    Calls Yba.prog 6 #[.slice (some ⟨blk, off, none⟩) zs.length cap] w fun e w' =>
      e = .returned (.tuple #[]) ∧ ∃ n os, w' = grow (putRow (Value.int .i64) (Sort.ahead w n) blk off (zs.mergeSort fun x y => decide (x ≤ y)).toArray) os

/-- Which keys have been collected: those of the map that are no longer to come. -/
def Col {H : Type} (D : DataW H) (left : Lit → Bool) (ss : List Int) : Prop := ∀ x, x ∈ ss ↔ (Maps.has D (.int .i64 x) = true ∧ left (.int .i64 x) = false)
theorem Col.start {H : Type} (D : DataW H) : Col D (Maps.has D) [] := fun x => by cases Maps.has D (.int .i64 x) <;> simp
theorem Col.step {H : Type} {D : DataW H} {left : Lit → Bool} {ss : List Int} (h : Col D left ss) {x : Int} {y : DataW H} (_hlk : left (.int .i64 x) = true) (hat : ∀ zd, D.atKey (.int .i64 x) zd = y) :
    Col D (fun z => left z && !z.sameKey (.int .i64 x)) (ss ++ [x]) := by
  have hhas : Maps.has D (.int .i64 x) = true := Maps.has_true_of_atKey hat
  intro z
  rw [List.mem_append, h z, List.mem_singleton]
  by_cases e : z = x
  · subst e
    simp [hhas, Lit.sameKey]
  · have : Lit.sameKey (.int .i64 z) (.int .i64 x) = false := Maps.sameKey_ne (by simpa using e)
    simp [this, e]

set_option maxRecDepth 100000 in
set_option maxHeartbeats 1000000 in
theorem sorted_any {H : Type} (hsort : SortSaid) (b n : Nat) (D : DataW H) (w : World) (hown : w.ownsMap Yba.prog 3 (plainElem Yba.prog 3) b n D) (hmax : Maps.size D ≤ 1048576) :
    Calls Yba.prog 5 #[.map (some b)] w fun e w' => ∃ (g cap : Nat) (ss : List Int), e = .returned (.slice (some ⟨g, 0, none⟩) ss.length cap) ∧ (∀ x, x ∈ ss ↔ Maps.has D (.int .i64 x) = true) ∧ ss.length ≤ 1048576 ∧
      w'.ownsRow w.heap.size 3 1 (.slice (some ⟨g, 0, none⟩) ss.length cap) ss.length ((ss.mergeSort (fun x y => decide (x ≤ y))).map (Value.int .i64)) ∧ Below w.heap.size w w' := by
  obtain ⟨i0, hi, hz0, hz1, hz2⟩ := info_parts info3
  have hbl := hown.lt
  go_enter Yba.func5, Yba.ntmps5
  go_wp2_with (first
    | (at_len; refine wpList_len_own _ rfl _ 24 rfl 3 3 Yba.underlying24 _ b n _ rfl hown ?_)
    | (at_make; refine wpList_make_own _ rfl _ _ 22 rfl w.heap.size 3 i0 (.int .i64 0) 1 Yba.underlying22 hi hz0 hz1 _ _ _ (Maps.size D) rfl rfl rfl (by rw [hz2]; omega) (by unfold maxLen; omega) (Nat.le_refl _) ?_; intro w1 hrow1 hg1)
    | (at_range; refine wpList_range_own _ rfl _ 24 rfl 3 3 law3 Yba.underlying24 _ b n _ rfl (hown.kept hg1 (by simp)) ?_; intro w0 hrg0 hg0 hs0)
    | go_in)
  go_frame
  go_loopw [3] (fun v wr => ∃ (left : Lit → Bool) (cnt : Nat) (ss : List Int), wr.ranges Yba.prog 3 (plainElem Yba.prog 3) b w1.heap.size n D left cnt ∧ ss.length + cnt ≤ Maps.size D ∧
      wr.ownsRow w.heap.size 3 1 v ss.length (ss.map (Value.int .i64)) ∧ v ≠ .slice none 0 0 ∧ Col D left ss ∧ Below w.heap.size w wr)
    (fun _ wr => wr.rangeLeft b w1.heap.size)
  case atStart =>
    exact ⟨_, _, [], hrg0, by simp, hrow1.kept hg0 (Or.inr (by simp [Value.ownBlock])), by simp, Col.start D,
      ((Below.refl _ _).grown hg1 (Nat.le_refl _) (fun j hj => by cases hj)).grown hg0 hg1.size (fun j hj => by cases hj)⟩
  case round =>
    obtain ⟨left, cnt, ss, hrg, hcs, hrow, hnn, hC, hnx⟩ := hrel
    go_wp2_with (first
      | (at_next; refine wpList_next_ranges_ii _ rfl _ rfl 3 3 .i64 .i64 law3 Yba.underlying3 Yba.underlying3 b w1.heap.size n _ _ _ rfl hrg ?_ ?_)
      | go_in)
    · intro hc0 hl0
      rcases hrow.2 with ⟨hnil, _⟩ | ⟨g, cap, cur, rfl, hbase, hb, h1, h2, h3, h4⟩
      · exact absurd hnil hnn
      have hH : Holds (Value.int .i64) wr g 0 ss.toArray := holds_of_blockI hb (by simpa using h4)
      have hgl : g < wr.heap.size := (Array.getElem?_eq_some_iff.1 hb).1
      have hc := hsort g 0 cap ss wr hH hgl (by omega)
      go_wp2_with (go_at_call 6; refine hc.mono ?_; rintro e w' ⟨rfl, nn, os, rfl⟩)
      go_ret
      refine ⟨g, cap, ss, rfl, fun x => ?_, by omega, ownsRow_sortedI (by simp) hbase hb h1 h2 h3, hnx.grown (grownBy_sortedI _) hnx.size (fun j hj => by cases hj; exact hbase)⟩
      rw [hC x, hl0 _]
      simp
    · intro x c w2 cnt2 hwx hwc hlk hat hrg2 hlt hg2 hs2 hen
      have hrow2 := hrow.kept hg2 (Or.inr (row_ne_iter hrow hrg).symm)
      clear hs2
      go_wp2_with (first
        | (at_builtin; refine wpList_append_own _ rfl _ _ 22 rfl w.heap.size 3 i0 (.int .i64 0) 1 8 Yba.underlying22 hi hz0 hz1 hz2 rfl (by decide) _ _ _ rfl (hrow2.alloc _) ⟨w2.heap.size, 0, none⟩ 1 1 [.int .i64 x] rfl rfl (cell_one_new _ _ _) (by simp [Value.oneCell']) (by unfold maxLen at *; omega) (by omega) (by have := hnx.size; have := hg2.size; simp; omega) ?_; intro v' w3 hown' hg3 hnil3; go_frame)
        | go_in)
      have hrg3 := (hrg2.alloc _).kept hg3 (row_ne_low hrow2 hbl) (row_ne_iter hrow2 hrg2)
      go_roundw
      case rel =>
        refine ⟨_, cnt2, ss ++ [x], hrg3, by simp; omega, by simpa using hown', fun hv' => by have := (hnil3.1 hv').2; omega, hC.step hlk hat, ?_⟩
        exact ((hnx.grown hg2 hnx.size (fun j hj => by cases hj; exact hg1.size)).alloc (by have := hnx.size; have := hg2.size; omega) _).grown hg3 (by have := hnx.size; have := hg2.size; simp; omega) (fun j hj => (hrow2.lt j hj).1)
      case measure => rw [hrg3.left_eq, hrg.left_eq]; exact hlt

end Go.Proofs.Ybulkdyji
