import Derived.Test.YbulkdyjwDoorStrF
import Derived.Lib.ItoaNum
import Derived.Lib.ItoaLen
import Derived.Lib.SmallJoins
import Derived.Lib.Zigzag
namespace Go.Proofs.YbulkdyjwDoor
open Go.RowKit

theorem not_neg (i : Int) (h0 : -9223372036854775808 ≤ i) (h1 : i < 0) : bits .xor .i64 (-1) i = -i - 1 := by
  show IntKind.i64.wrap ((BitVec.ofInt 64 (-1) ^^^ BitVec.ofInt 64 i).toNat : Int) = _
  have h1' : (BitVec.ofInt 64 (-1)).toNat = 2 ^ 64 - 1 := by decide
  have h2 : (BitVec.ofInt 64 i).toNat = (i + 18446744073709551616).toNat := by
    rw [BitVec.toNat_ofInt]
    congr 1
    show i % ((2 ^ 64 : Nat) : Int) = _
    omega
  rw [BitVec.toNat_xor, h1', h2, Lib.xor_ones64 _ (by omega), IntKind.wrap_i64]
  omega

/-- The digits laid so far lie at the end of the row of 24. -/
def TD (w : World) (b : Nat) (ds : List UInt8) : Prop := ∃ pre : List Value, pre.length + ds.length = 24 ∧ w.heap[b]? = some (.cells (pre ++ bc ds).toArray 44 (0, 0))
theorem TD.step {w : World} {b : Nat} {ds : List UInt8} (h : TD w b ds) (d : UInt8) (j : Nat) (hj : j + ds.length + 1 = 24) (x : Int) (hx : x = (d.toNat : Int)) : TD (w.setCell ⟨b, j, none⟩ (.int .u8 x)) b (d :: ds) := by
  subst hx
  obtain ⟨pre, h1, h2⟩ := h
  have hp : pre.length = j + 1 := by omega
  refine ⟨pre.take j, by rw [List.length_take, List.length_cons]; omega, ?_⟩
  rw [heap_setCell_same _ _ _ _ _ _ h2]
  congr 2
  apply Array.ext'
  rw [Array.toList_setIfInBounds]
  show List.set (pre ++ bc ds) j _ = _
  rw [List.set_append_left _ _ (by omega), List.set_eq_take_append_cons_drop, if_pos (by omega), List.drop_eq_nil_of_le (by omega)]
  show _ = pre.take j ++ bc ([d] ++ ds)
  rw [bc_append, ← List.append_assoc]
  rfl
theorem TD.at_ {w : World} {b : Nat} {ds : List UInt8} (h : TD w b ds) (p : Nat) (hp : p + ds.length = 24) : ∀ j u, (bc ds)[j]? = some u → w.cell? ((⟨b, p, none⟩ : Addr).add j) = some u := by
  obtain ⟨pre, h1, h2⟩ := h
  have hp : pre.length = p := by omega
  subst hp
  intro j u hu
  rw [Addr.add_lit, cell_of_row _ _ _ _ _ _ h2]
  rw [List.getElem?_toArray, List.getElem?_append_right (by omega), Nat.add_sub_cancel_left]
  exact hu
theorem TD.cell {w : World} {b : Nat} {ds : List UInt8} (h : TD w b ds) (j : Nat) (hj : j < 24) : ∃ u, w.cell? ⟨b, j, none⟩ = some u := by
  obtain ⟨pre, h1, h2⟩ := h
  rw [cell_of_row _ _ _ _ _ _ h2]
  rw [List.getElem?_toArray]
  exact ⟨_, List.getElem?_eq_getElem (by rw [List.length_append, bc_len]; omega)⟩
theorem TD.frozen {w : World} {b : Nat} {ds : List UInt8} (h : TD w b ds) (j : Nat) : w.frozen? ⟨b, j, none⟩ = false := by
  obtain ⟨pre, h1, h2⟩ := h
  exact frozen_of_row _ _ _ _ _ h2
theorem TD.new (w : World) (cs : Array Value) (h : cs.size = 24) : TD (w.alloc (.cells cs 44)) w.heap.size [] := by
  refine ⟨cs.toList, by simp [h], ?_⟩
  rw [World.alloc]
  simp [Lib.byteCells]

theorem digits_step (m : Nat) (h : ¬ m / 10 = 0) : Lib.decDigits m = Lib.decDigits (m / 10) ++ [UInt8.ofNat (48 + m % 10)] := by
  rw [Lib.decDigits, dif_neg (by omega)]
theorem digits_last (m : Nat) (h : m / 10 = 0) : Lib.decDigits m = [UInt8.ofNat (48 + m % 10)] := by
  rw [Lib.decDigits, dif_pos (by omega), Nat.mod_eq_of_lt (by omega)]
theorem digits_room {U m : Nat} {ds : List UInt8} (hU : U < 18446744073709551616) (h : Lib.decDigits U = Lib.decDigits m ++ ds) : ds.length ≤ 19 := by
  have h1 := congrArg List.length h
  rw [List.length_append, Lib.decDigits_length, Lib.decDigits_length] at h1
  have h2 := Lib.nDigits_pos m
  have h3 := Lib.nDigits_le20 U hU
  omega


theorem arrayLen44 : Ybad.prog.arrayLen 44 = 24 := by kernel_rfl
theorem slice44 (b J : Nat) (w : World) (h : J < 24) : (Instr.sliceAt 44 (.pointer (some ⟨b, 0, none⟩)) (some (.int .i64 (J : Int))) none none).run Ybad.prog w = .ok (.slice (some ⟨b, J, none⟩) (24 - J) (24 - J)) w := by
  have he : Ybad.prog.elem 44 = 5 := by kernel_rfl
  obtain ⟨i0, hi, hz0, hz1, hz2⟩ := info_parts info5
  rw [run_sliceAt_array_l w 44 ⟨b, 0, none⟩ (by rw [arrayLen44, he]; exact Ybad.underlying44) .i64 (J : Int) (by omega) (by rw [arrayLen44]; omega), he, arrayLen44]
  simp [sizeOf, typeInfo, hi, hz1, slicedAt, show ¬ 24 = J by omega, Addr.add_lit, Result.andThen]


/-- WHAT STANDS BEHIND A STEP ON AN OWN SLICE v THAT BECOMES v': every block but v's own. -/
structure Own (w : World) (v : Value) (w' : World) (v' : Value) : Prop where
  os : w'.os = w.os
  tape : w'.tape = w.tape
  output : w'.output = w.output
  size : w.heap.size ≤ w'.heap.size
  blk : ∀ k, k < w.heap.size → some k ≠ v.ownBlock → w'.heap[k]? = w.heap[k]? ∧ some k ≠ v'.ownBlock
theorem Own.refl (w : World) (v : Value) : Own w v w v := ⟨rfl, rfl, rfl, Nat.le_refl _, fun _ _ h => ⟨rfl, h⟩⟩
theorem Own.trans {w w' w'' : World} {v v' v'' : Value} (h : Own w v w' v') (k : Own w' v' w'' v'') : Own w v w'' v'' :=
  ⟨k.os.trans h.os, k.tape.trans h.tape, k.output.trans h.output, Nat.le_trans h.size k.size, fun i hi a => by
    obtain ⟨e1, n1⟩ := h.blk i hi a
    obtain ⟨e2, n2⟩ := k.blk i (Nat.lt_of_lt_of_le hi h.size) n1
    exact ⟨e2.trans e1, n2⟩⟩
theorem Own.ofGrown {w w' : World} {v v' : Value} (hg : w.grownBy w' v.ownBlock) (hob : v'.ownBlock = v.ownBlock ∨ v'.ownBlock = some w.heap.size) : Own w v w' v' :=
  ⟨hg.os, hg.tape, hg.output, hg.size, fun k hk a => ⟨hg.block k hk a, by
    rcases hob with e | e
    · rw [e]; exact a
    · rw [e]; intro e2; cases e2; omega⟩⟩
theorem Own.ofSide {w w' : World} {v : Value} {N : Nat} (hg : w.grownBy w' (some N)) (hN : w.heap.size ≤ N) : Own w v w' v :=
  ⟨hg.os, hg.tape, hg.output, hg.size, fun k hk a => ⟨hg.block k hk (fun e => by cases e; omega), a⟩⟩
theorem Own.alloc {w w' : World} {v v' : Value} {o : Obj} (h : Own (w.alloc o) v w' v') : Own w v w' v' :=
  ⟨h.os, h.tape, h.output, by have := h.size; simp at this; omega, fun k hk a => by
    obtain ⟨e1, n1⟩ := h.blk k (by simp; omega) a
    exact ⟨e1.trans (Below.heap_alloc w o k hk), n1⟩⟩
theorem Own.sideAlloc {w w' : World} {v : Value} {o : Obj} (hg : (w.alloc o).grownBy w' (some w.heap.size)) : Own w v w' v :=
  ⟨hg.os, hg.tape, hg.output, by have := hg.size; simp at this; omega, fun k hk a => ⟨(hg.block k (by simp; omega) (fun e => by cases e; omega)).trans (Below.heap_alloc w o k hk), a⟩⟩
theorem below_grown {B : Nat} {w w' : World} {row : Option Nat} (hg : w.grownBy w' row) (hB : B ≤ w.heap.size) (h : ∀ k, row = some k → B ≤ k) : Below B w w' :=
  ⟨hg.os, hg.tape, hg.output, hg.size, fun k hk => hg.block k (by omega) (fun e => by have := h k e.symm; omega)⟩
theorem below_alloc {B : Nat} {w w' : World} (o : Obj) (h : Below B (w.alloc o) w') (hB : B ≤ w.heap.size) : Below B w w' :=
  ⟨h.os, h.tape, h.output, by have := h.size; simp at this; omega, fun k hk => (h.block k hk).trans (Below.heap_alloc w o k (by omega))⟩
theorem keep_row {w1 wr : World} {o : Obj} {B : Nat} {v : Value} {n : Nat} {xs : List Value} (HG : (w1.alloc o).grownBy wr (some w1.heap.size)) (h : w1.ownsRow B 5 1 v n xs) (J : Nat) (x : Value) : (wr.setCell ⟨w1.heap.size, J, none⟩ x).ownsRow B 5 1 v n xs :=
  ownsRow_blocks h fun g hg => by
    have hl := (own_lt h g hg).2
    rw [Below.heap_setCell _ _ _ _ (by show g ≠ w1.heap.size; omega), HG.block g (by simp; omega) (fun e => by cases e; omega), Below.heap_alloc w1 o g hl]
theorem keep_grown {w1 wr : World} {o : Obj} (HG : (w1.alloc o).grownBy wr (some w1.heap.size)) (J : Nat) (x : Value) : (w1.alloc o).grownBy (wr.setCell ⟨w1.heap.size, J, none⟩ x) (some w1.heap.size) :=
  ⟨HG.os, HG.tape, HG.output, by have := HG.size; simp [World.setCell] at this ⊢; exact this, fun k hk hne => (Below.heap_setCell _ _ _ _ (fun e => hne (by rw [e]))).trans (HG.block k hk hne)⟩
theorem digit_byte (m : Nat) : 48 + (m : Int) % 10 = ((UInt8.ofNat (48 + m % 10)).toNat : Int) := by
  simp
  omega

set_option maxHeartbeats 2000000 in
theorem dec_any (w : World) (B n : Nat) (i : Int) (h0 : -9223372036854775808 ≤ i) (h1 : i ≤ 9223372036854775807) (sv : Value) (xs : List Value) (hown : w.ownsRow B 5 1 sv n xs) (hB : B ≤ w.heap.size) (hlim : n ≤ 1000000000) :
    Calls Ybad.prog 5 #[sv, .int .i64 i] w fun e w' => ∃ ao c, e = .returned (.slice ao (n + (Lib.itoa i).length) c) ∧ w'.ownsRow B 5 1 (.slice ao (n + (Lib.itoa i).length) c) (n + (Lib.itoa i).length) (xs ++ bc (Lib.itoa i)) ∧ Below B w w' ∧ Own w sv w' (.slice ao (n + (Lib.itoa i).length) c) := by
  obtain ⟨i0, hi, hz0, hz1, hz2⟩ := info_parts info5
  have HO : Hid (w.ownsRow B 5 1 sv n xs) := hown
  clear hown
  by_cases hneg : i < 0
  · go_enter Ybad.func5, Ybad.ntmps5
    go_wp2_with (at_builtin; refine wpList_append_shape _ rfl (.tmp 10) (.tmp 11) 22 rfl B 5 i0 (.int .u8 0) 1 1 Ybad.underlying22 hi hz0 hz1 hz2 rfl (by decide) sv n xs rfl (HO.out.alloc _) ⟨w.heap.size, 0, none⟩ 1 1 [.int .u8 45] rfl rfl (cell_one_new _ _ _) (by simp [Value.oneCell']) (by unfold maxLen; omega) (by omega) (by simp; omega) ?_; intro ao1 c1 w1 hown1 hgrow1 hob1)
    have hnot := not_neg i h0 hneg
    rw [hnot]
    obtain ⟨U, hUe⟩ : ∃ U : Nat, U = i.natAbs := ⟨_, rfl⟩
    have hwu : IntKind.u64.wrap (IntKind.u64.wrap (-i - 1) + 1) = (U : Int) := by rw [IntKind.wrap_u64, IntKind.wrap_u64]; omega
    rw [hwu]
    have hsz1 : w.heap.size ≤ w1.heap.size := by have := hgrow1.size; simp only [World.size_alloc] at this; omega
    have HU : Hid (U < 18446744073709551616) := by rw [Hid]; omega
    have HT := hide (TD.new w1 #[.int .u8 0, .int .u8 0, .int .u8 0, .int .u8 0, .int .u8 0, .int .u8 0, .int .u8 0, .int .u8 0, .int .u8 0, .int .u8 0, .int .u8 0, .int .u8 0, .int .u8 0, .int .u8 0, .int .u8 0, .int .u8 0, .int .u8 0, .int .u8 0, .int .u8 0, .int .u8 0, .int .u8 0, .int .u8 0, .int .u8 0, .int .u8 0] rfl)
    go_loopw [5, 7] (fun u iv wr => ∃ (m j : Nat) (ds : List UInt8), u = .int .u64 (m : Int) ∧ iv = .int .i64 (j : Int) ∧ m ≤ U ∧ j + ds.length = 24 ∧ Hid (Lib.decDigits U = Lib.decDigits m ++ ds) ∧ Hid (TD wr w1.heap.size ds) ∧ Hid ((w1.alloc (.cells #[.int .u8 0, .int .u8 0, .int .u8 0, .int .u8 0, .int .u8 0, .int .u8 0, .int .u8 0, .int .u8 0, .int .u8 0, .int .u8 0, .int .u8 0, .int .u8 0, .int .u8 0, .int .u8 0, .int .u8 0, .int .u8 0, .int .u8 0, .int .u8 0, .int .u8 0, .int .u8 0, .int .u8 0, .int .u8 0, .int .u8 0, .int .u8 0] 44)).grownBy wr (some w1.heap.size)))
      (fun u _ _ => match u with | .int _ m => m.toNat | _ => 0)
    case atStart => exact ⟨U, 24, [], rfl, rfl, Nat.le_refl _, rfl, (List.append_nil _).symm, HT, World.grownBy.refl _ _⟩
    case round =>
      obtain ⟨m, j, ds, rfl, rfl, hmU, hjd, HD, HT2, HG⟩ := hrel
      have hroom := digits_room HU.out HD.out
      have hm64 : m < 18446744073709551616 := Nat.lt_of_le_of_lt hmU HU.out
      obtain ⟨J, rfl⟩ : ∃ J, j = J + 1 := ⟨j - 1, by omega⟩
      obtain ⟨u0, hu0⟩ := HT2.out.cell J (by omega)
      have hf0 := HT2.out.frozen J
      have HT3 := hide (HT2.out.step (UInt8.ofNat (48 + m % 10)) J (by omega) (48 + (m : Int) % 10) (digit_byte m))
      have HG3 := hide (keep_grown HG.out J (.int .u8 (48 + (m : Int) % 10)))
      have HO3 := hide (keep_row HG.out (hown1) J (.int .u8 (48 + (m : Int) % 10)))
      have hsz : B ≤ (wr.setCell ⟨w1.heap.size, J, none⟩ (.int .u8 (48 + (m : Int) % 10))).heap.size := by
        have := HG3.out.size
        simp only [World.size_alloc] at this
        omega
      by_cases hlast : m / 10 = 0
      · have hsl := fun W => slice44 w1.heap.size J W (by omega)
        go_wp2_with (at_builtin; refine wpList_append_shape _ rfl (.tmp 31) (.tmp 33) 22 rfl B 5 i0 (.int .u8 0) 1 1 Ybad.underlying22 hi hz0 hz1 hz2 rfl (by decide) (.slice ao1 (n + 1) c1) (n + 1) (xs ++ [Value.int .u8 45]) rfl HO3.out ⟨w1.heap.size, J, none⟩ (24 - J) (24 - J) (bc (UInt8.ofNat (48 + m % 10) :: ds)) rfl (by rw [bc_len, List.length_cons]; omega) (HT3.out.at_ J (by rw [List.length_cons]; omega)) (bc_one _) (by unfold maxLen; omega) (by omega) hsz ?_; intro ao3 c3 w3 hown3 hgrow3 hob3)
        go_ret
        have hU : Lib.decDigits U = UInt8.ofNat (48 + m % 10) :: ds := by rw [HD.out, digits_last m hlast]; rfl
        have hlen : 24 - J = (Lib.decDigits U).length := by rw [hU, List.length_cons]; omega
        have hit : Lib.itoa i = 45 :: Lib.decDigits U := by rw [Lib.itoa, if_pos hneg, hUe]
        have e1 : n + (Lib.itoa i).length = n + 1 + (24 - J) := by rw [hit, List.length_cons, hlen]; omega
        rw [hit, hU]
        rw [hit, hU] at e1
        rw [e1]
        refine ⟨ao3, c3, rfl, ?_, ?_, ((Own.ofGrown hgrow1 hob1).alloc.trans (Own.sideAlloc HG3.out)).trans (Own.ofGrown hgrow3 hob3)⟩
        · have e2 : xs ++ bc (45 :: UInt8.ofNat (48 + m % 10) :: ds) = (xs ++ [Value.int .u8 45]) ++ bc (UInt8.ofNat (48 + m % 10) :: ds) := by
            rw [List.append_assoc]; rfl
          rw [e2]
          exact hown3
        · exact ((below_alloc _ (below_grown hgrow1 (by simp; omega) (fun k hk => (own_lt HO.out k hk).1)) hB).trans (below_alloc _ (below_grown HG3.out (by simp; omega) (fun k hk => by cases hk; omega)) (by omega))).trans (below_grown hgrow3 hsz (fun k hk => (own_lt HO3.out k hk).1))
      · go_wp2
        constructor
        · refine ⟨m / 10, J, UInt8.ofNat (48 + m % 10) :: ds, by go_num, rfl, by omega, by rw [List.length_cons]; omega, ?_, HT3, HG3⟩
          rw [Hid, HD.out, digits_step m hlast, List.append_assoc]
          rfl
        · show ((m : Int) / 10).toNat < (m : Int).toNat
          omega
  · go_enter Ybad.func5, Ybad.ntmps5
    go_wp2
    obtain ⟨U, hUe⟩ : ∃ U : Nat, U = i.toNat := ⟨_, rfl⟩
    have HU : Hid (U < 18446744073709551616) := by rw [Hid]; omega
    have HT := hide (TD.new w #[.int .u8 0, .int .u8 0, .int .u8 0, .int .u8 0, .int .u8 0, .int .u8 0, .int .u8 0, .int .u8 0, .int .u8 0, .int .u8 0, .int .u8 0, .int .u8 0, .int .u8 0, .int .u8 0, .int .u8 0, .int .u8 0, .int .u8 0, .int .u8 0, .int .u8 0, .int .u8 0, .int .u8 0, .int .u8 0, .int .u8 0, .int .u8 0] rfl)
    go_loopw [5, 7] (fun u iv wr => ∃ (m j : Nat) (ds : List UInt8), u = .int .u64 (m : Int) ∧ iv = .int .i64 (j : Int) ∧ m ≤ U ∧ j + ds.length = 24 ∧ Hid (Lib.decDigits U = Lib.decDigits m ++ ds) ∧ Hid (TD wr w.heap.size ds) ∧ Hid ((w.alloc (.cells #[.int .u8 0, .int .u8 0, .int .u8 0, .int .u8 0, .int .u8 0, .int .u8 0, .int .u8 0, .int .u8 0, .int .u8 0, .int .u8 0, .int .u8 0, .int .u8 0, .int .u8 0, .int .u8 0, .int .u8 0, .int .u8 0, .int .u8 0, .int .u8 0, .int .u8 0, .int .u8 0, .int .u8 0, .int .u8 0, .int .u8 0, .int .u8 0] 44)).grownBy wr (some w.heap.size)))
      (fun u _ _ => match u with | .int _ m => m.toNat | _ => 0)
    case atStart => exact ⟨U, 24, [], by go_num, rfl, Nat.le_refl _, rfl, (List.append_nil _).symm, HT, World.grownBy.refl _ _⟩
    case round =>
      obtain ⟨m, j, ds, rfl, rfl, hmU, hjd, HD, HT2, HG⟩ := hrel
      have hroom := digits_room HU.out HD.out
      have hm64 : m < 18446744073709551616 := Nat.lt_of_le_of_lt hmU HU.out
      obtain ⟨J, rfl⟩ : ∃ J, j = J + 1 := ⟨j - 1, by omega⟩
      obtain ⟨u0, hu0⟩ := HT2.out.cell J (by omega)
      have hf0 := HT2.out.frozen J
      have HT3 := hide (HT2.out.step (UInt8.ofNat (48 + m % 10)) J (by omega) (48 + (m : Int) % 10) (digit_byte m))
      have HG3 := hide (keep_grown HG.out J (.int .u8 (48 + (m : Int) % 10)))
      have HO3 := hide (keep_row HG.out (HO.out) J (.int .u8 (48 + (m : Int) % 10)))
      have hsz : B ≤ (wr.setCell ⟨w.heap.size, J, none⟩ (.int .u8 (48 + (m : Int) % 10))).heap.size := by
        have := HG3.out.size
        simp only [World.size_alloc] at this
        omega
      by_cases hlast : m / 10 = 0
      · have hsl := fun W => slice44 w.heap.size J W (by omega)
        go_wp2_with (at_builtin; refine wpList_append_shape _ rfl (.tmp 31) (.tmp 33) 22 rfl B 5 i0 (.int .u8 0) 1 1 Ybad.underlying22 hi hz0 hz1 hz2 rfl (by decide) _ n xs rfl HO3.out ⟨w.heap.size, J, none⟩ (24 - J) (24 - J) (bc (UInt8.ofNat (48 + m % 10) :: ds)) rfl (by rw [bc_len, List.length_cons]; omega) (HT3.out.at_ J (by rw [List.length_cons]; omega)) (bc_one _) (by unfold maxLen; omega) (by omega) hsz ?_; intro ao3 c3 w3 hown3 hgrow3 hob3)
        go_ret
        have hU : Lib.decDigits U = UInt8.ofNat (48 + m % 10) :: ds := by rw [HD.out, digits_last m hlast]; rfl
        have hlen : 24 - J = (Lib.decDigits U).length := by rw [hU, List.length_cons]; omega
        have hit : Lib.itoa i = Lib.decDigits U := by rw [Lib.itoa, if_neg (by omega), hUe]
        rw [hit, ← hlen, hU]
        exact ⟨ao3, c3, rfl, hown3, (below_alloc _ (below_grown HG3.out (by simp; omega) (fun k hk => by cases hk; omega)) hB).trans (below_grown hgrow3 hsz (fun k hk => (own_lt HO3.out k hk).1)), (Own.sideAlloc HG3.out).trans (Own.ofGrown hgrow3 hob3)⟩
      · go_wp2
        constructor
        · refine ⟨m / 10, J, UInt8.ofNat (48 + m % 10) :: ds, by go_num, rfl, by omega, by rw [List.length_cons]; omega, ?_, HT3, HG3⟩
          rw [Hid, HD.out, digits_step m hlast, List.append_assoc]
          rfl
        · show ((m : Int) / 10).toNat < (m : Int).toNat
          omega

end Go.Proofs.YbulkdyjwDoor
