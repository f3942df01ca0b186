import Derived.Test.YbulkdymaProg
import Derived.KernelRfl
import Derived.WalkKit
import Derived.WalkSpells
import Derived.WalkSmall
import Derived.Laws.OwnMore
import Derived.Deep.QuietTactic
import Derived.BigQuiet
namespace Go.Proofs.Ybulkdyma
open Go.RowKit

theorem info25 : (Yba.prog.info? 25).map (fun i => (i.zero, i.size, i.bytes)) = some (some (.int .i64 0), 1, 8) := by kernel_rfl

/-- The first k kinds: 1, 2, .. k. -/
def ks : Nat → List Int
  | 0 => []
  | k + 1 => ks k ++ [(k : Int) + 1]
theorem ks_len : ∀ k, (ks k).length = k
  | 0 => rfl
  | k + 1 => by rw [ks, List.length_append, ks_len k]; rfl
theorem ks_at : ∀ {k j : Nat}, j < k → (ks k)[j]? = some ((j : Int) + 1)
  | 0, _, h => absurd h (Nat.not_lt_zero _)
  | k + 1, j, h => by
    rw [ks]
    by_cases e : j = k
    · subst e
      rw [List.getElem?_append_right (by rw [ks_len]; omega), ks_len, Nat.sub_self]; rfl
    · rw [List.getElem?_append_left (by rw [ks_len]; omega)]
      exact ks_at (by omega)
def kv (k : Nat) : List Value := (ks k).map (Value.int .i64)
theorem kv_succ (k : Nat) : kv (k + 1) = kv k ++ [.int .i64 ((k : Int) + 1)] := by rw [kv, ks, List.map_append]; rfl
theorem kv_at {k j : Nat} (h : j < k) : (kv k)[j]? = some (.int .i64 ((j : Int) + 1)) := by rw [kv, List.getElem?_map, ks_at h]; rfl
theorem kv_len (k : Nat) : (kv k).length = k := by rw [kv, List.length_map, ks_len]

theorem valid_yes (k : Int) (w : World) (h0 : 0 < k) (h1 : k < 6) : Calls Yba.prog 8 #[.int .i64 k] w fun e w' => e = .returned (.bool true) ∧ w = w' := by
  go_enter Yba.func8, Yba.ntmps8
  go_wp2
  go_ret
  exact ⟨rfl, rfl⟩
theorem valid_no (k : Int) (w : World) (h0 : 0 < k) (h1 : ¬ k < 6) : Calls Yba.prog 8 #[.int .i64 k] w fun e w' => e = .returned (.bool false) ∧ w = w' := by
  go_enter Yba.func8, Yba.ntmps8
  go_wp2
  go_ret
  exact ⟨rfl, rfl⟩

set_option maxHeartbeats 1000000 in
theorem kinds_any (w : World) : Calls Yba.prog 5 #[] w fun e w' => ∃ g cap, e = .returned (.slice (some ⟨g, 0, none⟩) 5 cap) ∧ w'.ownsRow w.heap.size 25 1 (.slice (some ⟨g, 0, none⟩) 5 cap) 5 (kv 5) ∧ Below w.heap.size w w' := by
  obtain ⟨i0, hi, hz0, hz1, hz2⟩ := info_parts info25
  go_enter Yba.func5, Yba.ntmps5
  go_wp2_with (at_make; refine wpList_make_own _ rfl _ _ 22 rfl w.heap.size 25 i0 (.int .i64 0) 1 Yba.underlying22 hi hz0 hz1 _ _ _ 6 rfl rfl (by rfl) (by rw [hz2]; decide) (by decide) (Nat.le_refl _) ?_; intro w1 hrow1 hg1)
  go_loopw [1, 2] (fun v i wr => ∃ k : Nat, k ≤ 5 ∧ i = .int .i64 ((k : Int) + 1) ∧ Hid (wr.ownsRow w.heap.size 25 1 v k (kv k)) ∧ Hid (v ≠ .slice none 0 0) ∧ Below w.heap.size w wr) (fun _ i _ => 6 - (intOf i).toNat)
  case atStart => exact ⟨0, by decide, rfl, hrow1, by simp [Hid], (Below.refl _ _).grown hg1 (Nat.le_refl _) (fun j hj => by cases hj)⟩
  case round =>
    clear hrow1 hg1
    obtain ⟨k, hk, rfl, HO, HN, hnx⟩ := hrel
    by_cases hlt : k < 5
    · go_wp2_with (first
        | (go_at_call 8; refine (valid_yes _ _ (by omega) (by omega)).mono ?_; rintro e w' ⟨rfl, rfl⟩)
        | (at_builtin; refine wpList_append_own _ rfl _ _ 22 rfl w.heap.size 25 i0 (.int .i64 0) 1 8 Yba.underlying22 hi hz0 hz1 hz2 rfl (by decide) _ _ _ rfl (HO.out.alloc _) ⟨wr.heap.size, 0, none⟩ 1 1 [.int .i64 ((k : Int) + 1)] rfl rfl (cell_one_new _ _ _) (by simp [Value.oneCell']) (by unfold maxLen; omega) (by omega) (by have := hnx.size; simp; omega) ?_; intro v' w3 hown3 hg3 hnil3))
      go_roundw
      case rel =>
        refine ⟨k + 1, by omega, by go_num, by rw [Hid, kv_succ]; exact hown3, fun hv => absurd (hnil3.1 hv).2 (by decide), ?_⟩
        exact (hnx.alloc hnx.size _).grown hg3 (by have := hnx.size; simp; omega) (fun j hj => (HO.out.lt j hj).1)
      case measure => simp [intOf]; omega
    · obtain rfl : k = 5 := by omega
      go_wp2_with (go_at_call 8; refine (valid_no _ _ (by omega) (by omega)).mono ?_; rintro e w' ⟨rfl, rfl⟩)
      go_ret
      rcases HO.out.2 with ⟨hnil, _⟩ | ⟨g, cap, cur, hv, _⟩
      · exact absurd hnil HN.out
      · subst hv
        exact ⟨g, cap, rfl, HO.out, hnx⟩

set_option maxHeartbeats 1000000 in
theorem model_any (w : World) : Calls Yba.prog 7 #[] w fun e w' => e = .returned (.slice (some ⟨w.heap.size, 0, none⟩) 5 5) ∧ w'.ownsRow w.heap.size 25 1 (.slice (some ⟨w.heap.size, 0, none⟩) 5 5) 5 (kv 5) ∧ Below w.heap.size w w' := by
  obtain ⟨i0, hi, hz0, hz1, hz2⟩ := info_parts info25
  go_enter Yba.func7, Yba.ntmps7
  go_wp2_with (at_make; refine wpList_make_full _ rfl _ _ 22 rfl w.heap.size 25 i0 (.int .i64 0) 1 Yba.underlying22 hi hz0 hz1 _ _ _ _ 5 rfl rfl (by rfl) (by rfl) (by rw [hz2]; decide) (by decide) (Nat.le_refl _) ?_; intro w1 hrow1 hg1)
  go_loopw [3] (fun i wr => ∃ (k : Nat) (r : List Value), k ≤ 5 ∧ i = .int .i64 k ∧ Hid (wr.ownsRow w.heap.size 25 1 (.slice (some ⟨w.heap.size, 0, none⟩) 5 5) 5 (kv k ++ r)) ∧ Hid (r.length = 5 - k) ∧ Below w.heap.size w wr) (fun i _ => 5 - (intOf i).toNat)
  case atStart => exact ⟨0, _, by decide, rfl, hrow1, by simp [Hid, size_madeCells], (Below.refl _ _).grown hg1 (Nat.le_refl _) (fun j hj => by cases hj)⟩
  case round =>
    clear hrow1 hg1
    obtain ⟨k, r, hk, rfl, HO, HL, hnx⟩ := hrel
    by_cases hlt : k < 5
    · obtain ⟨old, r', hr⟩ : ∃ old r', r = old :: r' := by
        cases r with
        | nil => have := HL.out; simp at this; omega
        | cons a b => exact ⟨a, b, rfl⟩
      subst hr
      have hf := HO.out.frozenAt k
      have hcl := HO.out.cellAt k (by omega)
      rw [List.getElem?_append_right (by rw [kv_len]; omega), kv_len, Nat.sub_self, List.getElem?_cons_zero] at hcl
      go_wp2
      go_roundw
      case rel =>
        have hst := HO.out.stored k (.int .i64 ((k : Int) + 1))
        have e1 : (kv k ++ old :: r').set k (.int .i64 ((k : Int) + 1)) = kv (k + 1) ++ r' := by
          rw [List.set_append_right _ _ (by rw [kv_len]; omega), kv_len, Nat.sub_self, kv_succ]; simp
        rw [e1] at hst
        exact ⟨k + 1, r', by omega, by go_num, hst.1, by have := HL.out; simp at this; simp [Hid]; omega, hnx.setCell (Nat.le_refl _) _⟩
      case measure => simp [intOf]; omega
    · obtain rfl : k = 5 := by omega
      have hr : r = [] := List.eq_nil_of_length_eq_zero (by have := HL.out; omega)
      subst hr
      go_wp2
      go_ret
      exact ⟨rfl, by have := HO.out; rwa [List.append_nil] at this, hnx⟩

set_option maxHeartbeats 1000000 in
theorem eq_any (g1 c1 g2 c2 n : Nat) (xs : List Int) (hn : n ≤ 5) (w : World) (h1 : ∀ j, j < n → w.cell? ⟨g1, j, none⟩ = some (.int .i64 (xs.getD j 0))) (h2 : ∀ j, j < n → w.cell? ⟨g2, j, none⟩ = some (.int .i64 (xs.getD j 0))) :
    Calls Yba.prog 6 #[.slice (some ⟨g1, 0, none⟩) n c1, .slice (some ⟨g2, 0, none⟩) n c2] w fun e w' => e = .returned (.bool true) ∧ ∃ m, w' = w.drewN m := by
  have H1 : Hid (∀ j, j < n → w.cell? ⟨g1, j, none⟩ = some (.int .i64 (xs.getD j 0))) := h1
  have H2 : Hid (∀ j, j < n → w.cell? ⟨g2, j, none⟩ = some (.int .i64 (xs.getD j 0))) := h2
  clear h1 h2
  go_enter Yba.func6, Yba.ntmps6
  go_wp2
  go_loopw [5] (fun i wr => ∃ k m : Nat, k ≤ n ∧ i = .int .i64 k ∧ wr = w.drewN m) (fun i _ => n - (intOf i).toNat)
  case atStart => exact ⟨0, 0, Nat.zero_le _, rfl, rfl⟩
  case round =>
    obtain ⟨k, m, hk, rfl, rfl⟩ := hrel
    by_cases hlt : k < n
    · have a1 := H1.out k hlt
      have a2 := H2.out k hlt
      generalize xs.getD k 0 = x at a1 a2
      have hkn : (k : Int) < (n : Int) := by omega
      go_wp2
      go_quiet (fail)
      go_wp2
      go_roundw
      case rel => exact ⟨k + 1, _, by omega, by go_num, rfl⟩
      case measure => simp [intOf]; omega
    · go_wp2
      go_ret
      exact ⟨rfl, m, rfl⟩

end Go.Proofs.Ybulkdyma
