import Derived.Test.YbulkdyjwDoorProg
import Derived.KernelRfl
import Derived.WalkKit
import Derived.WalkSpells
import Derived.WalkSmall
import Derived.Laws.Rows
import Derived.Laws.OwnMore
import Derived.Lib.UnsafeStr
namespace Go.Proofs.YbulkdyjwDoor
open Go.RowKit

theorem hide {p : Prop} (h : p) : Hid p := h

/-- The cells of bytes. -/
abbrev bc (l : List UInt8) : List Value := Lib.byteCells l
theorem bc_len (l : List UInt8) : (bc l).length = l.length := Lib.byteCells_length l
theorem bc_append (a b : List UInt8) : bc (a ++ b) = bc a ++ bc b := by simp [Lib.byteCells]
theorem bc_at (l : List UInt8) (j : Nat) (h : j < l.length) : (bc l)[j]? = some (.int .u8 (l[j].toNat : Int)) := by simp [Lib.byteCells, List.getElem?_eq_getElem h]
theorem bc_one (l : List UInt8) : ∀ v ∈ bc l, v.oneCell' = true := by
  intro v hv
  simp only [Lib.byteCells, List.mem_map] at hv
  obtain ⟨b, _, rfl⟩ := hv
  rfl

/-- THE WRITER AND ITS RECORDER IN MEMORY: bw: the bufio.Writer; bb: its buffer; br: the recorder. -/
structure BW (w : World) (bw bb br size : Nat) (errv : Value) (pend : List UInt8) (v failv : Value) (calls : Int) (out : List UInt8) : Prop where
  wr : w.heap[bw]? = some (.cells #[errv, .slice (some ⟨bb, 0, none⟩) size size, .int .i64 (pend.length : Int), .iface 30 (.pointer (some ⟨br, 0, none⟩))] 52 (0, 0))
  buf : ∃ rest : List UInt8, w.heap[bb]? = some (.cells (bc (pend ++ rest)).toArray 5 (0, 0)) ∧ (pend ++ rest).length = size
  rc : w.heap[br]? = some (.cells #[v, failv, .int .i64 calls] 32 (0, 0))
  row : w.ownsRow 0 5 1 v out.length (bc out)
  nbb : some bb ≠ v.ownBlock

section
variable {w : World} {bw bb br size : Nat} {errv : Value} {pend : List UInt8} {v failv : Value} {calls : Int} {out : List UInt8}
theorem BW.lw (h : BW w bw bb br size errv pend v failv calls out) : bw < w.heap.size := (Array.getElem?_eq_some_iff.1 h.wr).1
theorem BW.lb (h : BW w bw bb br size errv pend v failv calls out) : bb < w.heap.size := by obtain ⟨_, hb, _⟩ := h.buf; exact (Array.getElem?_eq_some_iff.1 hb).1
theorem BW.lr (h : BW w bw bb br size errv pend v failv calls out) : br < w.heap.size := (Array.getElem?_eq_some_iff.1 h.rc).1
theorem BW.wb (h : BW w bw bb br size errv pend v failv calls out) : bw ≠ bb := fun e => by obtain ⟨_, hb, _⟩ := h.buf; have := h.wr; rw [e, hb] at this; simp at this
theorem BW.wrr (h : BW w bw bb br size errv pend v failv calls out) : bw ≠ br := fun e => by have := h.wr; rw [e, h.rc] at this; cases this
theorem BW.brr (h : BW w bw bb br size errv pend v failv calls out) : bb ≠ br := fun e => by obtain ⟨_, hb, _⟩ := h.buf; rw [e, h.rc] at hb; simp at hb
theorem BW.w0 (h : BW w bw bb br size errv pend v failv calls out) : w.cell? ⟨bw, 0, none⟩ = some errv := by rw [cell_of_row _ _ _ _ _ _ h.wr]; rfl
theorem BW.w1 (h : BW w bw bb br size errv pend v failv calls out) : w.cell? ⟨bw, 1, none⟩ = some (.slice (some ⟨bb, 0, none⟩) size size) := by rw [cell_of_row _ _ _ _ _ _ h.wr]; rfl
theorem BW.w2 (h : BW w bw bb br size errv pend v failv calls out) : w.cell? ⟨bw, 2, none⟩ = some (.int .i64 (pend.length : Int)) := by rw [cell_of_row _ _ _ _ _ _ h.wr]; rfl
theorem BW.w3 (h : BW w bw bb br size errv pend v failv calls out) : w.cell? ⟨bw, 3, none⟩ = some (.iface 30 (.pointer (some ⟨br, 0, none⟩))) := by rw [cell_of_row _ _ _ _ _ _ h.wr]; rfl
theorem BW.wf (h : BW w bw bb br size errv pend v failv calls out) (j : Nat) : w.frozen? ⟨bw, j, none⟩ = false := frozen_of_row _ _ _ _ _ h.wr
theorem BW.r0 (h : BW w bw bb br size errv pend v failv calls out) : w.cell? ⟨br, 0, none⟩ = some v := by rw [cell_of_row _ _ _ _ _ _ h.rc]; rfl
theorem BW.r1 (h : BW w bw bb br size errv pend v failv calls out) : w.cell? ⟨br, 1, none⟩ = some failv := by rw [cell_of_row _ _ _ _ _ _ h.rc]; rfl
theorem BW.r2 (h : BW w bw bb br size errv pend v failv calls out) : w.cell? ⟨br, 2, none⟩ = some (.int .i64 calls) := by rw [cell_of_row _ _ _ _ _ _ h.rc]; rfl
theorem BW.rf (h : BW w bw bb br size errv pend v failv calls out) (j : Nat) : w.frozen? ⟨br, j, none⟩ = false := frozen_of_row _ _ _ _ _ h.rc
theorem BW.le (h : BW w bw bb br size errv pend v failv calls out) : pend.length ≤ size := by obtain ⟨r, _, hl⟩ := h.buf; simp at hl; omega
/-- The block of the recorder's row is no block of the writer's. -/
theorem BW.nw (h : BW w bw bb br size errv pend v failv calls out) : some bw ≠ v.ownBlock := fun e => by
  rcases h.row.2 with ⟨rfl, _⟩ | ⟨g, c, cur, rfl, _, hg, _⟩
  · cases e
  · simp only [Value.ownBlock, Option.some.injEq] at e
    have := h.wr; rw [e, hg] at this; cases this
theorem BW.nr (h : BW w bw bb br size errv pend v failv calls out) : some br ≠ v.ownBlock := fun e => by
  rcases h.row.2 with ⟨rfl, _⟩ | ⟨g, c, cur, rfl, _, hg, _⟩
  · cases e
  · simp only [Value.ownBlock, Option.some.injEq] at e
    have := h.rc; rw [e, hg] at this; cases this
end

/-- WHAT STANDS BEHIND A CALL ON THE WRITER: every block but the writer's four. -/
structure Kept (bw bb br : Nat) (w : World) (v : Value) (w' : World) (v' : Value) : Prop where
  os : w'.os = w.os
  tape : w'.tape = w.tape
  output : w'.output = w.output
  size : w.heap.size ≤ w'.heap.size
  blk : ∀ k, k < w.heap.size → k ≠ bw → k ≠ bb → k ≠ br → some k ≠ v.ownBlock → w'.heap[k]? = w.heap[k]? ∧ some k ≠ v'.ownBlock
section
variable {bw bb br : Nat} {w w' w'' : World} {v v' v'' : Value}
theorem Kept.refl (bw bb br : Nat) (w : World) (v : Value) : Kept bw bb br w v w v := ⟨rfl, rfl, rfl, Nat.le_refl _, fun _ _ _ _ _ h => ⟨rfl, h⟩⟩
theorem Kept.trans (h : Kept bw bb br w v w' v') (k : Kept bw bb br w' v' w'' v'') : Kept bw bb br w v w'' v'' :=
  ⟨k.os.trans h.os, k.tape.trans h.tape, k.output.trans h.output, Nat.le_trans h.size k.size, fun i hi a b c d => by
    obtain ⟨e1, n1⟩ := h.blk i hi a b c d
    obtain ⟨e2, n2⟩ := k.blk i (Nat.lt_of_lt_of_le hi h.size) a b c n1
    exact ⟨e2.trans e1, n2⟩⟩
theorem Kept.drewN (h : Kept bw bb br w v w' v') (n : Nat) : Kept bw bb br w v (w'.drewN n) v' := ⟨h.os, h.tape, h.output, h.size, h.blk⟩
theorem Kept.drew (h : Kept bw bb br w v w' v') : Kept bw bb br w v w'.drew v' := ⟨h.os, h.tape, h.output, h.size, h.blk⟩
theorem Kept.alloc (h : Kept bw bb br w v w' v') (o : Obj) : Kept bw bb br w v (w'.alloc o) v' :=
  ⟨h.os, h.tape, h.output, by simp; exact Nat.le_succ_of_le h.size, fun i hi a b c d => by
    obtain ⟨e1, n1⟩ := h.blk i hi a b c d
    exact ⟨(Below.heap_alloc w' o i (Nat.lt_of_lt_of_le hi h.size)).trans e1, n1⟩⟩
/-- A step that turns one of the writer's own blocks. -/
theorem Kept.grown {row : Option Nat} (h : Kept bw bb br w v w' v') (hg : w'.grownBy w'' row) (hr : ∀ k, row = some k → k = bw ∨ k = bb ∨ k = br) : Kept bw bb br w v w'' v' :=
  ⟨hg.os.trans h.os, hg.tape.trans h.tape, hg.output.trans h.output, Nat.le_trans h.size hg.size, fun i hi a b c d => by
    obtain ⟨e1, n1⟩ := h.blk i hi a b c d
    refine ⟨(hg.block i (Nat.lt_of_lt_of_le hi h.size) (fun e => ?_)).trans e1, n1⟩
    rcases hr i e.symm with h1 | h1 | h1
    · exact a h1
    · exact b h1
    · exact c h1⟩
theorem Kept.set (h : Kept bw bb br w v w' v') (g i : Nat) (x : Value) (hr : g = bw ∨ g = bb ∨ g = br) : Kept bw bb br w v (w'.setCell ⟨g, i, none⟩ x) v' :=
  h.grown (row := some g) ⟨rfl, rfl, rfl, by simp [World.setCell], fun k _ hk => Below.heap_setCell _ _ _ _ (fun e => hk (by simp [e]))⟩ (fun k hk => by cases hk; exact hr)
/-- Old cells outside the writer read as before. -/
theorem Kept.cell (h : Kept bw bb br w v w' v') {p : Addr} (hp : p.block < w.heap.size) (a : p.block ≠ bw) (b : p.block ≠ bb) (c : p.block ≠ br) (d : some p.block ≠ v.ownBlock) : w'.cell? p = w.cell? p :=
  World.cell?_of_block (w := w) (h.blk p.block hp a b c d).1
theorem Kept.below {B : Nat} (h : Kept bw bb br w v w' v') (hB : B ≤ w.heap.size) (a : B ≤ bw) (b : B ≤ bb) (c : B ≤ br) (d : ∀ g, v.ownBlock = some g → B ≤ g) : Below B w w' :=
  ⟨h.os, h.tape, h.output, h.size, fun k hk => (h.blk k (Nat.lt_of_lt_of_le hk hB) (by omega) (by omega) (by omega) (fun e => by have := d k e.symm; omega)).1⟩
end

section
variable {w w' : World} {bw bb br size : Nat} {errv : Value} {pend : List UInt8} {v failv : Value} {calls : Int} {out : List UInt8}
theorem BW.drewN (h : BW w bw bb br size errv pend v failv calls out) (n : Nat) : BW (w.drewN n) bw bb br size errv pend v failv calls out := ⟨h.wr, h.buf, h.rc, h.row, h.nbb⟩
theorem BW.drew (h : BW w bw bb br size errv pend v failv calls out) : BW w.drew bw bb br size errv pend v failv calls out := ⟨h.wr, h.buf, h.rc, h.row, h.nbb⟩
theorem ownsRow_blocks {base e size : Nat} {v : Value} {n : Nat} {xs : List Value} (h : w.ownsRow base e size v n xs) (hb : ∀ g, v.ownBlock = some g → w'.heap[g]? = w.heap[g]?) : w'.ownsRow base e size v n xs := by
  obtain ⟨h1, h2⟩ := h
  refine ⟨h1, ?_⟩
  rcases h2 with h2 | ⟨g, cap, cur, rfl, r2, r3, r4⟩
  · exact .inl h2
  · exact .inr ⟨g, cap, cur, rfl, r2, (hb g rfl).trans r3, r4⟩
theorem BW.blocks (h : BW w bw bb br size errv pend v failv calls out) (h1 : w'.heap[bw]? = w.heap[bw]?) (h2 : w'.heap[bb]? = w.heap[bb]?) (h3 : w'.heap[br]? = w.heap[br]?) (h4 : ∀ g, v.ownBlock = some g → w'.heap[g]? = w.heap[g]?) : BW w' bw bb br size errv pend v failv calls out := by
  obtain ⟨r, hb, hl⟩ := h.buf
  exact ⟨h1.trans h.wr, ⟨r, h2.trans hb, hl⟩, h3.trans h.rc, ownsRow_blocks h.row h4, h.nbb⟩
theorem own_lt {base e size : Nat} {n : Nat} {xs : List Value} (h : w.ownsRow base e size v n xs) : ∀ g, v.ownBlock = some g → base ≤ g ∧ g < w.heap.size := fun g hg => h.lt g hg
theorem BW.below (h : BW w bw bb br size errv pend v failv calls out) (hb : Below w.heap.size w w') : BW w' bw bb br size errv pend v failv calls out :=
  h.blocks (hb.block _ h.lw) (hb.block _ h.lb) (hb.block _ h.lr) (fun g hg => hb.block _ (own_lt h.row g hg).2)
/-- The writer's error is set. -/
theorem BW.setErr (h : BW w bw bb br size errv pend v failv calls out) (x : Value) : BW (w.setCell ⟨bw, 0, none⟩ x) bw bb br size x pend v failv calls out := by
  have ho : ∀ k, k ≠ bw → (w.setCell ⟨bw, 0, none⟩ x).heap[k]? = w.heap[k]? := fun k hk => Below.heap_setCell _ _ _ _ hk
  obtain ⟨r, hb, hl⟩ := h.buf
  exact ⟨heap_setCell_same w bw 0 _ 52 x h.wr, ⟨r, (ho _ h.wb.symm).trans hb, hl⟩, (ho _ h.wrr.symm).trans h.rc, ownsRow_blocks h.row (fun g hg => ho g (fun e => h.nw (by rw [hg, e]))), h.nbb⟩
/-- The buffer is emptied: n = 0. -/
theorem BW.setNone (h : BW w bw bb br size errv pend v failv calls out) : BW (w.setCell ⟨bw, 2, none⟩ (.int .i64 0)) bw bb br size errv [] v failv calls out := by
  have ho : ∀ k, k ≠ bw → (w.setCell ⟨bw, 2, none⟩ (.int .i64 0)).heap[k]? = w.heap[k]? := fun k hk => Below.heap_setCell _ _ _ _ hk
  obtain ⟨r, hb, hl⟩ := h.buf
  exact ⟨heap_setCell_same w bw 2 _ 52 _ h.wr, ⟨pend ++ r, (ho _ h.wb.symm).trans (by simpa using hb), by simpa using hl⟩, (ho _ h.wrr.symm).trans h.rc, ownsRow_blocks h.row (fun g hg => ho g (fun e => h.nw (by rw [hg, e]))), h.nbb⟩
/-- The recorder's count is raised. -/
theorem BW.setCalls (h : BW w bw bb br size errv pend v failv calls out) (c : Int) : BW (w.setCell ⟨br, 2, none⟩ (.int .i64 c)) bw bb br size errv pend v failv c out := by
  have ho : ∀ k, k ≠ br → (w.setCell ⟨br, 2, none⟩ (.int .i64 c)).heap[k]? = w.heap[k]? := fun k hk => Below.heap_setCell _ _ _ _ hk
  obtain ⟨r, hb, hl⟩ := h.buf
  exact ⟨(ho _ h.wrr).trans h.wr, ⟨r, (ho _ h.brr).trans hb, hl⟩, heap_setCell_same w br 2 _ 32 _ h.rc, ownsRow_blocks h.row (fun g hg => ho g (fun e => h.nr (by rw [hg, e]))), h.nbb⟩
/-- What the buffer's cells hold. -/
theorem BW.bufAt (h : BW w bw bb br size errv pend v failv calls out) (j : Nat) (hj : j < pend.length) : w.cell? ⟨bb, j, none⟩ = some (.int .u8 (pend[j].toNat : Int)) := by
  obtain ⟨r, hb, hl⟩ := h.buf
  rw [cell_of_row _ _ _ _ _ _ hb]
  have := bc_at (pend ++ r) j (by simp; omega)
  simp only [List.getElem?_toArray]
  rw [this, List.getElem_append_left hj]
end

end Go.Proofs.YbulkdyjwDoor
