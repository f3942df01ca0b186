import Derived.Test.YbulkdyjwParts
namespace Go.Proofs.Ybulkdyjw
open Go.RowKit Go.Maps

set_option maxRecDepth 100000 in
theorem law_long (a0 : Option Addr) (len cap : Nat) (a1 a2 a3 a4 : Int) (w : World) (hl : 65536 < len) :
    Calls Yba.prog 3 #[.slice a0 len cap, .int .u64 a1, .int .u64 a2, .int .i64 a3, .int .u64 a4] w fun e w' => e = .returned (.bool true) ∧ Below w.heap.size w w' := by
  have hl' : (65536 : Int) < (len : Int) := by omega
  go_enter Yba.func3, Yba.ntmps3
  go_wp2
  go_ret
  exact ⟨rfl, Below.refl _ _⟩

set_option maxRecDepth 100000 in
set_option maxHeartbeats 2000000 in
theorem law_even (a0 : Option Addr) (cap : Nat) (a1 a2 a3 a4 : Int) (w : World) (hev : (a4.tmod 2 == 0) = true) :
    Calls Yba.prog 3 #[.slice a0 0 cap, .int .u64 a1, .int .u64 a2, .int .i64 a3, .int .u64 a4] w fun e w' => e = .returned (.bool true) ∧ Below w.heap.size w w' := by
  have hmm := @run_makeMap Yba.prog
  have HY : Hid (Yard ((w.alloc (.map #[] 0)).alloc (.cells #[.map none, .slice none 0 0, .int .i64 a3, .int .u64 a4] 28)) (w.heap.size + 1) (.map none) (.slice none 0 0) a3 a4) := by
    have := heap_alloc_new (w.alloc (.map #[] 0)) (.cells #[.map none, .slice none 0 0, .int .i64 a3, .int .u64 a4] 28)
    simpa [Hid, Yard] using this
  have HB : Hid (Below w.heap.size w ((w.alloc (.map #[] 0)).alloc (.cells #[.map none, .slice none 0 0, .int .i64 a3, .int .u64 a4] 28))) := ((Below.refl _ _).alloc (Nat.le_refl _) _).alloc (by simp) _
  go_enter Yba.func3, Yba.ntmps3
  go_wp2
  refine wp_loop_rounds 1 ?_
  rw [rounds_succ]
  go_wp2_with fail
  refine (within_nil (w.heap.size + 1) a1 a2 _ HY.out.c0).mono ?_
  rintro e w1 ⟨rfl, hb1⟩
  have HY1 : Hid (Yard w1 (w.heap.size + 1) (.map none) (.slice none 0 0) a3 a4) := HY.out.below hb1 HY.out.lt
  have hnx1 : Below w.heap.size w w1 := HB.out.trans (hb1.mono HB.out.size)
  have hle := fun (ty : TypeId) => Maps.len_nil (P := Yba.prog) (w := w1) (t := 25) (k := 9) (e := 33) Yba.underlying25 ty
  have d2 := HY1.out.c2
  have d3 := HY1.out.c3
  have d0 := HY1.out.c0
  have d1 := HY1.out.c1
  clear hb1
  go_wp2
  refine wp_loop_rounds 1 ?_
  rw [rounds_succ]
  go_wp2
  refine wp_loop_rounds 1 ?_
  rw [rounds_succ]
  go_wp2
  go_ret
  exact ⟨rfl, hnx1⟩

set_option maxRecDepth 100000 in
set_option maxHeartbeats 2000000 in
theorem law_odd (a0 : Option Addr) (cap : Nat) (a1 a2 a3 a4 : Int) (w : World) (hev : (a4.tmod 2 == 0) = false) :
    Calls Yba.prog 3 #[.slice a0 0 cap, .int .u64 a1, .int .u64 a2, .int .i64 a3, .int .u64 a4] w fun e w' => e = .returned (.bool true) ∧ Below w.heap.size w w' := by
  have hmm := @run_makeMap Yba.prog
  have HY : Hid (Yard ((w.alloc (.map #[] 0)).alloc (.cells #[.map (some w.heap.size), .slice none 0 0, .int .i64 a3, .int .u64 a4] 28)) (w.heap.size + 1) (.map (some w.heap.size)) (.slice none 0 0) a3 a4) := by
    have := heap_alloc_new (w.alloc (.map #[] 0)) (.cells #[.map (some w.heap.size), .slice none 0 0, .int .i64 a3, .int .u64 a4] 28)
    simpa [Hid, Yard] using this
  have HB : Hid (Below w.heap.size w ((w.alloc (.map #[] 0)).alloc (.cells #[.map (some w.heap.size), .slice none 0 0, .int .i64 a3, .int .u64 a4] 28))) := ((Below.refl _ _).alloc (Nat.le_refl _) _).alloc (by simp) _
  have HO : Hid (((w.alloc (.map #[] 0)).alloc (.cells #[.map (some w.heap.size), .slice none 0 0, .int .i64 a3, .int .u64 a4] 28)).ownsMap Yba.prog 9 gElem w.heap.size 0 (.map [])) := (World.ownsMap_made _ _ _ _).alloc _
  go_enter Yba.func3, Yba.ntmps3
  go_wp2
  refine wp_loop_rounds 1 ?_
  rw [rounds_succ]
  go_wp2_with fail
  refine (within_any (w.heap.size + 1) w.heap.size 0 0 (.map []) [] a1 a2 _ (by decide) (Graves.start []) HY.out.c0 HO.out).mono ?_
  rintro e w1 ⟨rfl, hb1⟩
  have HY1 : Hid (Yard w1 (w.heap.size + 1) (.map (some w.heap.size)) (.slice none 0 0) a3 a4) := HY.out.below hb1 HY.out.lt
  have hnx1 : Below w.heap.size w w1 := HB.out.trans (hb1.mono HB.out.size)
  have HO1 : Hid (w1.ownsMap Yba.prog 9 gElem w.heap.size 0 (.map [])) := ownsMap_below HO.out hb1
  have hle := fun ty => HO1.out.len (t := 25) (e := 33) Yba.underlying25 ty
  have hsz : Maps.size (.map [] : DataW Unit) = 0 := rfl
  rw [hsz] at hle
  have hany : anyIn [] 0 a1 a2 = false := anyIn_f (fun i hi => absurd hi (Nat.not_lt_zero _))
  rw [hany]
  clear hany hsz
  have d2 := HY1.out.c2
  have d3 := HY1.out.c3
  have d0 := HY1.out.c0
  have d1 := HY1.out.c1
  clear hb1
  go_wp2
  refine wp_loop_rounds 1 ?_
  rw [rounds_succ]
  go_wp2
  refine wp_loop_rounds 1 ?_
  rw [rounds_succ]
  go_wp2
  go_ret
  exact ⟨rfl, hnx1⟩

end Go.Proofs.Ybulkdyjw
