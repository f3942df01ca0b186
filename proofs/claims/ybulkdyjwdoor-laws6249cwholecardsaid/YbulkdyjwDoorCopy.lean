import Derived.Test.YbulkdyjwDoorRec
import Derived.Laws.CopyOwn
import Derived.Lib.BufferWrite
namespace Go.Proofs.YbulkdyjwDoor
open Go.RowKit

/-- 'copy(dst, src)', dst in a row that is known whole; src by its length and its first cells. -/
theorem run_copy_gen {P : Program} (w : World) (dT sT ty elem : TypeId) (src : Value) (sLen dLen dCap : Nat) (dp : Option Addr) (g off : Nat) (cur : List Value) (t : TypeId) (cs : List Value)
    (hu : P.underlying dT = some (.slice elem)) (hs : (P.info? elem).map (·.size) = some 1) (hg : w.heap[g]? = some (.cells cur.toArray t (0, 0)))
    (hlen : (Builtin.lenOf src).run P w = .ok sLen w) (hfirst : (Builtin.firstCells 1 (Nat.min sLen dLen) src).run P w = .ok cs.toArray w) (hn : cs.length = Nat.min sLen dLen)
    (hpos : 0 < cs.length → dp = some ⟨g, off, none⟩) (hfit : off + cs.length ≤ cur.length) (h1 : ∀ v ∈ cs, v.oneCell' = true) :
    ∃ w', (Builtin.copy_ #[dT, sT] ty #[.slice dp dLen dCap, src]).run P w = .ok (goInt cs.length) w' ∧ w'.heap[g]? = some (.cells (splice cur off cs).toArray t (0, 0)) ∧ w.grownBy w' (some g) := by
  cases hq : P.info? elem with
  | none => simp [hq] at hs
  | some i =>
    have hi : i.size = 1 := by simpa [hq] using hs
    by_cases h0 : cs.length = 0
    · obtain rfl : cs = [] := List.eq_nil_of_length_eq_zero h0
      refine ⟨w, ?_, by simpa [splice] using hg, ⟨rfl, rfl, rfl, Nat.le_refl _, fun _ _ _ => rfl⟩⟩
      rw [← hn] at hfirst
      have hf0 : (Builtin.firstCells 1 0 src).run P w = .ok #[] w := hfirst
      cases dp <;> simp [Builtin.copy_, run_underlying hu, hlen, sizeOf, typeInfo, hq, hi, ← hn, hf0, Result.andThen, storeCells]
    · have hdp := hpos (by omega)
      subst hdp
      have hst := run_storeCells_at P g off t cs 0 cur.toArray w hg (by simpa using hfit) h1
      rw [← hn] at hfirst
      refine ⟨w.setRow g (splice cur off cs).toArray, ?_, setRow_heap w g _ _ t _ hg, ⟨rfl, rfl, rfl, by simp [World.setRow], fun k _ hk => setRow_other w g k _ (fun e => hk (by simp [e]))⟩⟩
      simp [Builtin.copy_, run_underlying hu, hlen, sizeOf, typeInfo, hq, hi, ← hn, hfirst]
      rw [hst]
      simp [splice, Result.andThen, List.append_assoc]

theorem first_slice {P : Program} (w : World) (ad : Addr) (sLen sCap n : Nat) (cs : List Value) (hn : cs.length = n) (hc : ∀ j v, cs[j]? = some v → w.cell? (ad.add j) = some v) : (Builtin.firstCells 1 n (.slice (some ad) sLen sCap)).run P w = .ok cs.toArray w := by
  have hl := run_loadCells_list (P := P) w ad cs hc
  simp [Builtin.firstCells, ← hn, hl]
theorem first_nil {P : Program} (w : World) (sLen sCap n : Nat) : (Builtin.firstCells 1 n (.slice none sLen sCap)).run P w = .ok ([] : List Value).toArray w := by simp [Builtin.firstCells]
theorem first_string {P : Program} (w : World) (s : ByteArray) (n : Nat) : (Builtin.firstCells 1 n (.string s)).run P w = .ok (bc (s.data.toList.take n)).toArray w := by
  simp only [Builtin.firstCells, Lib.byteCells, Sem.run_pure]
  congr 1
  apply Array.ext'
  simp

/-- The same as one step of a region that draws its order. -/
theorem step_copy_gen {P : Program} {ops : Array Oper} {o : Oper} {a : Act} {w : World} {K : Act → World → Prop} {Q : Exit → Act → World → Prop} {E : Prop} (hgd : o.guard = none) (d s : Operand) (dT sT : TypeId)
    (ho : o.op = .call { callee := .builtin .copy, args := #[d, s], argTypes := #[dT, sT] }) (elem : TypeId) (hu : P.underlying dT = some (.slice elem)) (hsz : (P.info? elem).map (·.size) = some 1)
    (src : Value) (sLen dLen dCap : Nat) (dp : Option Addr) (hd : a.eval d = .slice dp dLen dCap) (hs : a.eval s = src)
    (g off : Nat) (cur : List Value) (t : TypeId) (hg : w.heap[g]? = some (.cells cur.toArray t (0, 0))) (cs : List Value)
    (hlen : (Builtin.lenOf src).run P w = .ok sLen w) (hfirst : (Builtin.firstCells 1 (Nat.min sLen dLen) src).run P w = .ok cs.toArray w) (hn : cs.length = Nat.min sLen dLen)
    (hpos : 0 < cs.length → dp = some ⟨g, off, none⟩) (hfit : off + cs.length ≤ cur.length) (h1 : ∀ v ∈ cs, v.oneCell' = true)
    (h : ∀ w', Hid (w'.heap[g]? = some (.cells (splice cur off cs).toArray t (0, 0))) → w.grownBy w' (some g) → K (a.put o.dst (goInt cs.length)) w') :
    if Region.wanted o (yielded ops a.tmps) = true then Oper.wp P o a w K Q else E := by
  have hw : Region.wanted o (yielded ops a.tmps) = true := by simp [Region.wanted, hgd]
  rw [if_pos hw]
  obtain ⟨w', hrun, h2, h3⟩ := run_copy_gen (P := P) w dT sT o.type elem src sLen dLen dCap dp g off cur t cs hu hsz hg hlen hfirst hn hpos hfit h1
  unfold Oper.wp
  simp [execOp, ho, resolve, invoke, builtin, hd, hs, hrun, Result.andThen]
  exact h w' h2 h3

/-- BEHIND A copy INTO THE BUFFER AND THE STORE OF n. -/
theorem BW.copied {w w' : World} {bw bb br size : Nat} {errv : Value} {pend : List UInt8} {v failv : Value} {calls : Int} {out : List UInt8} (h : BW w bw bb br size errv pend v failv calls out) {rest q : List UInt8}
    (hl : (pend ++ rest).length = size) (hq : pend.length + q.length ≤ size)
    (hg : w'.heap[bb]? = some (.cells (splice (bc (pend ++ rest)) pend.length (bc q)).toArray 5 (0, 0))) (hgr : w.grownBy w' (some bb)) :
    BW (w'.setCell ⟨bw, 2, none⟩ (.int .i64 ((pend.length : Int) + (q.length : Int)))) bw bb br size errv (pend ++ q) v failv calls out ∧ Kept bw bb br w v (w'.setCell ⟨bw, 2, none⟩ (.int .i64 ((pend.length : Int) + (q.length : Int)))) v := by
  have es : splice (bc (pend ++ rest)) pend.length (bc q) = bc ((pend ++ q) ++ rest.drop q.length) := by
    rw [splice, bc_append, bc_append, bc_append, bc_len]
    have e1 : (bc pend ++ bc rest).take pend.length = bc pend := List.take_left' (bc_len pend)
    have e2 : (bc pend ++ bc rest).drop (pend.length + q.length) = bc (rest.drop q.length) := by
      rw [List.drop_append, bc_len, List.drop_of_length_le (by rw [bc_len]; omega)]
      simp [Lib.byteCells]
    rw [e1, e2, List.append_assoc]
  rw [es] at hg
  have hw' : w'.heap[bw]? = w.heap[bw]? := hgr.block bw h.lw (fun e => h.wb (Option.some.inj e))
  have hr' : w'.heap[br]? = w.heap[br]? := hgr.block br h.lr (fun e => h.brr.symm (Option.some.inj e))
  have hv' : ∀ g, v.ownBlock = some g → w'.heap[g]? = w.heap[g]? := fun g hg => hgr.block g (own_lt h.row g hg).2 (fun e => h.nbb (by rw [hg, ← Option.some.inj e]))
  have ho : ∀ k, k ≠ bw → (w'.setCell ⟨bw, 2, none⟩ (.int .i64 ((pend.length : Int) + (q.length : Int)))).heap[k]? = w'.heap[k]? := fun k hk => Below.heap_setCell _ _ _ _ hk
  refine ⟨⟨?_, ⟨rest.drop q.length, (ho _ h.wb.symm).trans hg, by simp at hl ⊢; omega⟩, (ho _ h.wrr.symm).trans (hr'.trans h.rc), ownsRow_blocks h.row (fun g hg => (ho g (fun e => h.nw (by rw [hg, e]))).trans (hv' g hg)), h.nbb⟩, ?_⟩
  · have := heap_setCell_same w' bw 2 _ 52 (.int .i64 ((pend.length : Int) + (q.length : Int))) (hw'.trans h.wr)
    rw [this]
    simp
  · exact ((Kept.refl bw bb br w v).grown hgr (fun k hk => by cases hk; exact .inr (.inl rfl))).set bw 2 _ (.inl rfl)

end Go.Proofs.YbulkdyjwDoor
