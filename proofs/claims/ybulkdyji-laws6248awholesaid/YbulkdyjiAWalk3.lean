import Derived.Test.YbulkdyjiAWalk2
namespace Go.Proofs.Ybulkdyji
open Go.RowKit Go.Maps

set_option maxRecDepth 100000 in
set_option maxHeartbeats 1000000 in
theorem walk_long (a0 : Option Addr) (len0 cap0 : Nat) (a1 : Option Addr) (len1 cap1 : Nat) (nm : Bool) (w : World) (h : 1048576 < len0 ∨ 1048576 < len1) :
    Calls Yba.prog 3 #[.slice a0 len0 cap0, .slice a1 len1 cap1, .bool nm] w fun e w' => e = .returned (.bool true) ∧ Below w.heap.size w w' := by
  by_cases h0 : 1048576 < len0
  · have h0' : (1048576 : Int) < (len0 : Int) := by omega
    go_enter Yba.func3, Yba.ntmps3
    go_wp2
    go_ret
    exact ⟨rfl, Below.refl _ _⟩
  · have h0' : ¬ (1048576 : Int) < (len0 : Int) := by omega
    have h1' : (1048576 : Int) < (len1 : Int) := by omega
    go_enter Yba.func3, Yba.ntmps3
    go_wp2
    go_ret
    exact ⟨rfl, Below.refl _ _⟩

set_option maxRecDepth 100000 in
set_option maxHeartbeats 2000000 in
theorem walk_nil (hsort : SortSaid) (a0 : Option Addr) (cap0 : Nat) (a1 : Option Addr) (len1 cap1 : Nat) (w : World) (h1 : len1 ≤ 1048576) :
    Calls Yba.prog 3 #[.slice a0 0 cap0, .slice a1 len1 cap1, .bool true] w fun e w' => e = .returned (.bool true) ∧ Below w.heap.size w w' := by
  have h1' : ¬ (1048576 : Int) < (len1 : Int) := by omega
  go_enter Yba.func3, Yba.ntmps3
  go_wp2
  refine wp_loop_rounds 1 ?_
  rw [rounds_succ]
  go_wp2
  refine wp_loop_rounds 1 ?_
  rw [rounds_succ]
  go_wp2_with fail
  refine (max_nil hsort _).mono ?_
  rintro e w2 ⟨rfl, hb2⟩
  have hl1 := fun (ty : TypeId) => Maps.len_nil (P := Yba.prog) (w := w2) (t := 24) (k := 3) (e := 3) Yba.underlying24 ty
  have hl2 := fun (ty : TypeId) => Maps.len_nil (P := Yba.prog) (w := w2) (t := 23) (k := 3) (e := 3) Yba.underlying23 ty
  have hq1 := fun r => run_eql_map_nil (P := Yba.prog) w2 24 3 3 r Yba.underlying24
  have hq2 := fun r => run_eql_map_nil (P := Yba.prog) w2 23 3 3 r Yba.underlying23
  go_wp2
  refine wp_loop_rounds 1 ?_
  rw [rounds_succ]
  go_wp2
  go_ret
  exact ⟨rfl, hb2⟩

set_option maxRecDepth 100000 in
set_option maxHeartbeats 2000000 in
theorem walk_empty (hsort : SortSaid) (a0 : Option Addr) (cap0 : Nat) (a1 : Option Addr) (len1 cap1 : Nat) (w : World) (h1 : len1 ≤ 1048576) :
    Calls Yba.prog 3 #[.slice a0 0 cap0, .slice a1 len1 cap1, .bool false] w fun e w' => e = .returned (.bool true) ∧ Below w.heap.size w w' := by
  have h1' : ¬ (1048576 : Int) < (len1 : Int) := by omega
  have hmm := @run_makeMap Yba.prog
  have HO1 : Hid (((w.alloc (.map #[] 0)).alloc (.map #[] 0)).ownsMap Yba.prog 3 (plainElem Yba.prog 3) w.heap.size 0 (.map [] : DataW Unit)) := (World.ownsMap_made _ _ _ _).alloc _
  have HO2 : Hid (((w.alloc (.map #[] 0)).alloc (.map #[] 0)).ownsMap Yba.prog 3 (plainElem Yba.prog 3) (w.heap.size + 1) 0 (.map [] : DataW Unit)) := by
    have := World.ownsMap_made (H := Unit) (w.alloc (.map #[] 0)) Yba.prog 3 (plainElem Yba.prog 3)
    simpa [Hid] using this
  have HB : Hid (Below w.heap.size w ((w.alloc (.map #[] 0)).alloc (.map #[] 0))) := ((Below.refl _ _).alloc (Nat.le_refl _) _).alloc (by simp) _
  go_enter Yba.func3, Yba.ntmps3
  go_wp2
  refine wp_loop_rounds 1 ?_
  rw [rounds_succ]
  go_wp2
  refine wp_loop_rounds 1 ?_
  rw [rounds_succ]
  go_wp2_with fail
  refine (max_any hsort w.heap.size 0 _ _ HO1.out (by decide)).mono ?_
  rintro e w2 ⟨m', rfl, hmm', hb2⟩
  obtain rfl : m' = -1 := by
    rcases hmm' with ⟨_, h⟩ | ⟨h, _⟩
    · exact h
    · simp [Maps.has] at h
  have HO1' : Hid (w2.ownsMap Yba.prog 3 (plainElem Yba.prog 3) w.heap.size 0 (.map [] : DataW Unit)) := ownsMap_below HO1.out hb2
  have HO2' : Hid (w2.ownsMap Yba.prog 3 (plainElem Yba.prog 3) (w.heap.size + 1) 0 (.map [] : DataW Unit)) := ownsMap_below HO2.out hb2
  have hnx2 : Below w.heap.size w w2 := HB.out.trans (hb2.mono HB.out.size)
  have hl1 := fun ty => HO1'.out.len (t := 24) (e := 3) Yba.underlying24 ty
  have hl2 := fun ty => HO2'.out.len (t := 23) (e := 3) Yba.underlying23 ty
  have hq1 := fun r => run_eql_map_nil (P := Yba.prog) w2 24 3 3 r Yba.underlying24
  have hq2 := fun r => run_eql_map_nil (P := Yba.prog) w2 23 3 3 r Yba.underlying23
  clear hmm' hb2
  go_wp2
  refine wp_loop_rounds 1 ?_
  rw [rounds_succ]
  go_wp2
  go_ret
  exact ⟨rfl, hnx2⟩

end Go.Proofs.Ybulkdyji
