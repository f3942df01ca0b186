import Derived.Test.YbulkdyjwDoorAny
import Derived.Test.YbulkdyjwDoorDec
import Derived.Test.YbulkdyjwDoorNew
import Derived.Test.YbulkdyjwDoorShelf
import Derived.Lib.AppendStr
import Derived.Deep.RegionLaw
namespace Go.Proofs.YbulkdyjwDoor
open Go.RowKit

theorem itoa_len (i : Int) (h0 : -9223372036854775808 ≤ i) (h1 : i ≤ 9223372036854775807) : 0 < (Lib.itoa i).length ∧ (Lib.itoa i).length ≤ 21 := by
  have a1 := Lib.nDigits_le20 i.natAbs (by omega)
  have a2 := Lib.nDigits_le20 i.toNat (by omega)
  have b2 := Lib.nDigits_pos i.toNat
  unfold Lib.itoa
  split
  · rw [List.length_cons, Lib.decDigits_length]; omega
  · rw [Lib.decDigits_length]; omega

theorem appint (w : World) (B n : Nat) (i : Int) (h0 : -9223372036854775808 ≤ i) (h1 : i ≤ 9223372036854775807) (sv : Value) (xs : List Value) (hown : w.ownsRow B 5 1 sv n xs) (hB : B ≤ w.heap.size) (hlim : n ≤ 1000000000)
    (htab : Lib.TabBelow Ybad.prog B w "internal/strconv.uint64pow10" .u64 Lib.pow10Tab) :
    Calls Ybad.prog 13 #[sv, .int .i64 i, .int .i64 10] w fun e w' => ∃ ao c, e = .returned (.slice ao (n + (Lib.itoa i).length) c) ∧ w'.ownsRow B 5 1 (.slice ao (n + (Lib.itoa i).length) c) (n + (Lib.itoa i).length) (xs ++ bc (Lib.itoa i)) ∧ Below B w w' := by
  refine Calls.mono (Any.strconv_AppendInt_10 Ybad.lays176 B n i h0 h1 sv xs w hown hB (by omega) htab) ?_
  rintro e w' ⟨v', rfl, ho, hb, -⟩
  have hpos := (itoa_len i h0 h1).1
  rcases ho.2 with ⟨rfl, hn0⟩ | ⟨g, cap, cur, rfl, _⟩
  · omega
  · exact ⟨_, _, rfl, ho, hb⟩

theorem step_append_string {P : Program} {ops : Array Oper} {o : Oper} {a : Act} {w : World} {K : Act → World → Prop} {Q : Exit → Act → World → Prop} {E : Prop} (hgd : o.guard = none) (sl x : Operand) (t u : TypeId)
    (ho : o.op = .call { callee := .builtin .append, args := #[sl, x], argTypes := #[t, u] })
    (base : Nat) (i : TypeInfo) (ht : P.underlying t = some (.slice 5)) (hu : P.underlying u = some .string) (hi : P.info? 5 = some i) (hz : i.zero = some (.int .u8 0))
    (hsize : i.size = 1) (hby : i.bytes = 1)
    (v : Value) (n : Nat) (xs : List Value) (hs : a.eval sl = v) (hown : w.ownsRow base 5 1 v n xs) (s : ByteArray) (hx : a.eval x = .string s)
    (hbytes : n + s.size ≤ 1000000000) (hbase : base ≤ w.heap.size)
    (h : ∀ ao c w', w'.ownsRow base 5 1 (.slice ao (n + s.size) c) (n + s.size) (xs ++ bc s.data.toList) → w.grownBy w' v.ownBlock → K (a.put o.dst (.slice ao (n + s.size) c)) w') :
    if Region.wanted o (yielded ops a.tmps) = true then Oper.wp P o a w K Q else E := by
  have hw : Region.wanted o (yielded ops a.tmps) = true := by simp [Region.wanted, hgd]
  rw [if_pos hw]
  obtain ⟨v', w', hr, h2, h3, h4⟩ := Lib.run_append_own_string (P := P) w base t u o.type 5 i ht hu hi hz hsize hby v n xs hown s (by unfold maxLen; omega) (by omega) hbase
  unfold Oper.wp
  simp [execOp, ho, resolve, invoke, builtin, hs, hx, hr, Result.andThen]
  rcases h2.2 with ⟨rfl, h0⟩ | ⟨g, cap, cur, rfl, _⟩
  · have := h none 0 w'
    rw [h0] at this h2
    exact this h2 h3
  · exact h _ _ w' h2 h3

def tail (ns : List Int) : List UInt8 := ns.flatMap fun n => 32 :: Lib.itoa n
def frame (verb key : ByteArray) (val : List UInt8) (hops : Int) (final : Bool) (sil : Int) : List UInt8 :=
  verb.data.toList ++ tail [hops, if final then 1 else 0, sil.tdiv 1000000, key.size, val.length] ++ [10] ++ key.data.toList ++ val

theorem index54_0 (a b c d e : Int) (w : World) : (Instr.index 54 (.agg #[.int .i64 a, .int .i64 b, .int .i64 c, .int .i64 d, .int .i64 e]) (.int .i64 0)).run Ybad.prog w = .ok (.int .i64 a) w := by kernel_rfl
theorem index54_1 (a b c d e : Int) (w : World) : (Instr.index 54 (.agg #[.int .i64 a, .int .i64 b, .int .i64 c, .int .i64 d, .int .i64 e]) (.int .i64 1)).run Ybad.prog w = .ok (.int .i64 b) w := by kernel_rfl
theorem index54_2 (a b c d e : Int) (w : World) : (Instr.index 54 (.agg #[.int .i64 a, .int .i64 b, .int .i64 c, .int .i64 d, .int .i64 e]) (.int .i64 2)).run Ybad.prog w = .ok (.int .i64 c) w := by kernel_rfl
theorem index54_3 (a b c d e : Int) (w : World) : (Instr.index 54 (.agg #[.int .i64 a, .int .i64 b, .int .i64 c, .int .i64 d, .int .i64 e]) (.int .i64 3)).run Ybad.prog w = .ok (.int .i64 d) w := by kernel_rfl
theorem index54_4 (a b c d e : Int) (w : World) : (Instr.index 54 (.agg #[.int .i64 a, .int .i64 b, .int .i64 c, .int .i64 d, .int .i64 e]) (.int .i64 4)).run Ybad.prog w = .ok (.int .i64 e) w := by kernel_rfl
theorem make64 (w : World) : (Instr.makeSlice 22 (.int .i64 0) (.int .i64 64)).run Ybad.prog w = .ok (.slice (some ⟨w.heap.size, 0, none⟩) 0 64) (w.alloc (.cells (madeCells #[.int .u8 0] 64) 5)) := by
  obtain ⟨i0, hi, hz0, hz1, hz2⟩ := info_parts info5
  have := run_make (P := Ybad.prog) w 22 5 i0 (.int .u8 0) Ybad.underlying22 hi hz0 .i64 .i64 0 64 (by decide) (by decide) (by rw [hz2]; decide) (by decide)
  rw [hz1] at this
  exact this
theorem own64 (w : World) (B g : Nat) (hg : w.heap.size = g) (hB : B ≤ g) : (w.alloc (.cells (madeCells #[.int .u8 0] 64) 5)).ownsRow B 5 1 (.slice (some ⟨g, 0, none⟩) 0 64) 0 [] := by
  subst hg
  exact World.ownsRow_made w _ 64 hB (by decide) (size_madeCells _ _)
theorem index54 (a b c d e : Int) (k : Nat) (hk : k < 5) (w : World) : (Instr.index 54 (.agg #[.int .i64 a, .int .i64 b, .int .i64 c, .int .i64 d, .int .i64 e]) (.int .i64 (k : Int))).run Ybad.prog w = .ok (.int .i64 ([a, b, c, d, e].getD k 0)) w := by
  match k, hk with
  | 0, _ => exact index54_0 a b c d e w
  | 1, _ => exact index54_1 a b c d e w
  | 2, _ => exact index54_2 a b c d e w
  | 3, _ => exact index54_3 a b c d e w
  | 4, _ => exact index54_4 a b c d e w

theorem millis' (w : World) (n : Int) (h0 : -9223372036854775808 ≤ n) (h1 : n ≤ 9223372036854775807) : Calls Ybad.prog 12 #[.int .i64 n] w fun e w' => e = .returned (.int .i64 (n.tdiv 1000000)) ∧ w' = w :=
  (millis w n h0 h1).mono fun _ _ h => ⟨h.1, h.2.symm⟩
theorem below_of_box {W w1 : World} {B : Nat} {o p : Obj} {g : Option Nat} (h : ((W.alloc o).alloc p).drew.grownBy w1 g) (hB : B = W.heap.size + 1) (hg : ∀ k, g = some k → B ≤ k) : Below B (W.alloc o) w1 := by
  subst hB
  have h1 : Below (W.heap.size + 1) ((W.alloc o).alloc p) w1 := ⟨h.os, h.tape, h.output, h.size, fun k hk => h.block k (by simp; omega) (fun e => by have := hg k e.symm; omega)⟩
  exact below_alloc p h1 (by simp)
theorem box_kept {W w1 : World} {o : Obj} (h : Below (W.heap.size + 1) (W.alloc o) w1) : w1.heap[W.heap.size]? = some o := by
  rw [h.block _ (Nat.lt_succ_self _), World.alloc]
  exact Array.getElem?_push_size

def nsOf (hops : Int) (final : Bool) (sil : Int) (kl vl : Nat) : List Int := [hops, if final then 1 else 0, sil.tdiv 1000000, kl, vl]
def hd (verb : ByteArray) (ns : List Int) (k : Nat) : List UInt8 := verb.data.toList ++ tail (ns.take k)
theorem hd_succ (verb : ByteArray) (ns : List Int) (k : Nat) (hk : k < ns.length) : hd verb ns (k + 1) = hd verb ns k ++ [32] ++ Lib.itoa (ns.getD k 0) := by
  have e : ns.take (k + 1) = ns.take k ++ [ns.getD k 0] := by
    rw [List.take_add_one, List.getElem?_eq_getElem hk]
    simp [List.getD, List.getElem?_eq_getElem hk]
  rw [hd, e, hd]
  simp [tail]
theorem tdiv_le (n : Int) (h0 : -9223372036854775808 ≤ n) (h1 : n ≤ 9223372036854775807) : -9223372036854775808 ≤ n.tdiv 1000000 ∧ n.tdiv 1000000 ≤ 9223372036854775807 := by
  by_cases hn : 0 ≤ n
  · rw [Int.tdiv_eq_ediv_of_nonneg hn]; omega
  · obtain ⟨m, rfl⟩ : ∃ m : Int, n = -m := ⟨-n, by omega⟩
    rw [Int.neg_tdiv, Int.tdiv_eq_ediv_of_nonneg (by omega)]; omega
theorem ns_in {hops : Int} {final : Bool} {sil : Int} {kl vl : Nat} (ho0 : -9223372036854775808 ≤ hops) (ho1 : hops ≤ 9223372036854775807) (hi0 : -9223372036854775808 ≤ sil) (hi1 : sil ≤ 9223372036854775807) (hk : kl ≤ 1048576) (hv : vl ≤ 1048576) (k : Nat) :
    -9223372036854775808 ≤ (nsOf hops final sil kl vl).getD k 0 ∧ (nsOf hops final sil kl vl).getD k 0 ≤ 9223372036854775807 := by
  have h := tdiv_le sil hi0 hi1
  match k with
  | 0 => exact ⟨ho0, ho1⟩
  | 1 => cases final <;> exact ⟨by show (_ : Int) ≤ (_ : Int); simp [nsOf], by simp [nsOf]⟩
  | 2 => exact h
  | 3 => show _ ≤ ((kl : Nat) : Int) ∧ ((kl : Nat) : Int) ≤ _; omega
  | 4 => show _ ≤ ((vl : Nat) : Int) ∧ ((vl : Nat) : Int) ≤ _; omega
  | k + 5 => exact ⟨by simp [nsOf], by simp [nsOf]⟩
theorem hd_len {verb : ByteArray} {ns : List Int} (hn : ∀ k, -9223372036854775808 ≤ ns.getD k 0 ∧ ns.getD k 0 ≤ 9223372036854775807) : ∀ k, k ≤ ns.length → (hd verb ns k).length ≤ verb.size + 22 * k
  | 0, _ => by rw [hd, List.take_zero]; simp [tail]
  | k + 1, hk => by
    rw [hd_succ verb ns k (by omega), List.length_append, List.length_append]
    have h1 := hd_len (verb := verb) hn k (by omega)
    have h2 := (itoa_len (ns.getD k 0) (hn k).1 (hn k).2).2
    simp only [List.length_cons, List.length_nil]
    omega
theorem PS.below {w w' : World} {bw bb br : Nat} {v : Value} {ao : Option Addr} {c : Nat} {q : List UInt8} (h : PS w bw bb br v ao c q) (hb : Below w.heap.size w w') : PS w' bw bb br v ao c q :=
  ⟨h.le, fun hp => by
    obtain ⟨pb, po, e, n1, s⟩ := h.at_ hp
    refine ⟨pb, po, e, n1, ⟨Nat.lt_of_lt_of_le s.lt hb.size, s.n1, s.n3, s.n4, fun j hj => ?_⟩⟩
    rw [World.cell?_of_block (w := w) (a := ⟨pb, po + j, none⟩) (hb.block pb s.lt)]
    exact s.at_ j hj⟩
theorem PS.ofRow {w : World} {bw bb br B n : Nat} {v : Value} {ao : Option Addr} {c : Nat} {p : List UInt8} (h : w.ownsRow B 5 1 (.slice ao n c) n (bc p)) (h1 : bw < B) (h2 : bb < B) (h3 : br < B) (h4 : ∀ g, v.ownBlock = some g → g < B) : n = p.length ∧ PS w bw bb br v ao c p := by
  have hl : p.length = n := by have := h.1; rw [bc_len] at this; omega
  refine ⟨hl.symm, ?_⟩
  rcases h.2 with ⟨e, h0⟩ | ⟨g, cap, cur, e, hg, hb, hnc, _, hs, ht⟩
  · cases e
    exact ⟨by omega, fun hp => by omega⟩
  · cases e
    refine ⟨by omega, fun _ => ⟨g, 0, rfl, by omega, ⟨(Array.getElem?_eq_some_iff.1 hb).1, by omega, by omega, fun e => by have := h4 g e.symm; omega, fun j hj => ?_⟩⟩⟩
    have := h.cells (g := g) rfl j _ (bc_at p j hj)
    rw [Addr.add_lit] at this
    exact this
theorem below_box {W w2 : World} {o : Obj} (hb : Below (W.heap.size + 1) (W.alloc o) w2) : Below W.heap.size W w2 := below_alloc o (hb.mono (Nat.le_succ _)) (Nat.le_refl _)
theorem tab_on {W w2 : World} {o : Obj} (HT : Lib.TabIs Ybad.prog W "internal/strconv.uint64pow10" .u64 Lib.pow10Tab) (hb : Below (W.heap.size + 1) (W.alloc o) w2) : Lib.TabBelow Ybad.prog (W.heap.size + 1) w2 "internal/strconv.uint64pow10" .u64 Lib.pow10Tab :=
  fun _ h' => Lib.tabBelow_of_tabIs HT _ (below_box (hb.trans h'))
theorem St.more {failv : Value} {size : Nat} {l : List UInt8} {C C' : Int} {errv : Value} {pend : List UInt8} {calls : Int} {out : List UInt8} (h : St failv size l C errv pend calls out) (hC : C ≤ C') : St failv size l C' errv pend calls out := by
  rcases h with ⟨h1, h2, h3, h4, h5⟩ | h
  · exact .inl ⟨h1, h2, h3, h4, by omega⟩
  · exact .inr h


end Go.Proofs.YbulkdyjwDoor
