import Derived.Test.YbulkdyjwDoorState
import Derived.Deep.QuietTactic
import Derived.BigQuiet
import Derived.WideShapes
import Derived.Stop.IfaceNil
import Derived.Maps.AppendAt
namespace Go.Proofs.YbulkdyjwDoor
open Go.RowKit

theorem info5 : (Ybad.prog.info? 5).map (fun i => (i.zero, i.size, i.bytes)) = some (some (.int .u8 0), 1, 1) := by kernel_rfl

/-- 'append' onto a row of the call's own, the new slice's shape written out. -/
theorem wpList_append_shape {P : Program} (w : World) {ops : Array Oper} {rest : List Oper} {o : Oper} {a : Act} {Q : Exit → Act → World → Prop} (hgd : o.guard = none) (s x : Operand) (t : TypeId)
    (ho : o.op = .call { callee := .builtin .append, args := #[s, x], argTypes := #[t, t] })
    (base : Nat) (e : TypeId) (i : TypeInfo) (z : Value) (size bytes : Nat) (ht : P.underlying t = some (.slice e)) (hi : P.info? e = some i) (hz : i.zero = some z)
    (hsize : i.size = size) (hby : i.bytes = bytes) (hzs : z.cells.size = size) (hsz : 0 < size)
    (v : Value) (n : Nat) (xs : List Value) (hs : a.eval s = v) (hown : w.ownsRow base e size v n xs)
    (ad : Addr) (m c : Nat) (news : List Value) (hx : a.eval x = .slice (some ad) m c) (hl : news.length = m * size) (hnews : ∀ j u, news[j]? = some u → w.cell? (ad.add j) = some u) (h1 : ∀ u ∈ news, u.oneCell' = true)
    (h63 : n + m ≤ maxLen) (hbytes : (n + m) * bytes ≤ 140737488355328) (hbase : base ≤ w.heap.size)
    (h : ∀ ao c' w', w'.ownsRow base e size (.slice ao (n + m) c') (n + m) (xs ++ news) → w.grownBy w' v.ownBlock → ((Value.slice ao (n + m) c').ownBlock = v.ownBlock ∨ (Value.slice ao (n + m) c').ownBlock = some w.heap.size) → wpList P ops Q rest (a.put o.dst (.slice ao (n + m) c')) w') : wpList P ops Q (o :: rest) a w := by
  refine wpList_append_own_at w hgd s x t ho base e i z size bytes ht hi hz hsize hby hzs hsz v n xs hs hown ad m c news hx hl hnews h1 h63 hbytes hbase fun v' w' h2 h3 _ h5 => ?_
  rcases h2.2 with ⟨rfl, h0⟩ | ⟨g, cap, cur, rfl, _⟩
  · have := h none 0 w'
    rw [h0] at this h2
    exact this h2 h3 h5
  · exact h _ _ w' h2 h3 h5

theorem buffered_any {w : World} {bw bb br size : Nat} {errv : Value} {pend : List UInt8} {v failv : Value} {calls : Int} {out : List UInt8} (h : BW w bw bb br size errv pend v failv calls out) :
    Calls Ybad.prog 10 #[.pointer (some ⟨bw, 0, none⟩)] w fun e w' => e = .returned (.int .i64 (pend.length : Int)) ∧ w = w' := by
  have w2 := h.w2
  clear h
  go_enter Ybad.func10, Ybad.ntmps10
  go_wp2
  go_ret
  exact ⟨rfl, rfl⟩

theorem available_any {w : World} {bw bb br size : Nat} {errv : Value} {pend : List UInt8} {v failv : Value} {calls : Int} {out : List UInt8} (h : BW w bw bb br size errv pend v failv calls out) (hs : size ≤ 65536) :
    Calls Ybad.prog 18 #[.pointer (some ⟨bw, 0, none⟩)] w fun e w' => e = .returned (.int .i64 ((size : Int) - (pend.length : Int))) ∧ ∃ n, w' = w.drewN n := by
  have w1 := h.w1
  have w2 := h.w2
  have hle := h.le
  clear h
  go_enter Ybad.func18, Ybad.ntmps18
  go_wp2
  go_quiet (fail)
  go_wp2
  go_ret
  exact ⟨rfl, _, rfl⟩

/-- A slice of bytes that lies outside the writer. -/
structure Src (w : World) (bw bb br : Nat) (v : Value) (pb po : Nat) (p : List UInt8) : Prop where
  lt : pb < w.heap.size
  n1 : pb ≠ bw
  n3 : pb ≠ br
  n4 : some pb ≠ v.ownBlock
  at_ : ∀ j (h : j < p.length), w.cell? ⟨pb, po + j, none⟩ = some (.int .u8 (p[j].toNat : Int))

theorem news_of {w : World} {pb po : Nat} {p : List UInt8} (h : ∀ j (h : j < p.length), w.cell? ⟨pb, po + j, none⟩ = some (.int .u8 (p[j].toNat : Int))) : ∀ j u, (bc p)[j]? = some u → w.cell? ((⟨pb, po, none⟩ : Addr).add j) = some u := by
  intro j u hj
  have hl : j < p.length := by
    have := (List.getElem?_eq_some_iff.1 hj).1
    simpa [bc_len] using this
  rw [bc_at p j hl] at hj
  rw [WideShapes.add_plain, h j hl]
  exact hj

theorem BW.appended {w1 w2 : World} {bw bb br size : Nat} {errv : Value} {pend : List UInt8} {v failv : Value} {calls : Int} {out : List UInt8} (h : BW w1 bw bb br size errv pend v failv calls out) {p : List UInt8} {v' : Value}
    (hg : w1.grownBy w2 v.ownBlock) (hrow : w2.ownsRow 0 5 1 v' (out.length + p.length) (bc out ++ bc p)) (hob : v'.ownBlock = v.ownBlock ∨ v'.ownBlock = some w1.heap.size) :
    BW (w2.setCell ⟨br, 0, none⟩ v') bw bb br size errv pend v' failv calls (out ++ p) ∧ Kept bw bb br w1 v (w2.setCell ⟨br, 0, none⟩ v') v' := by
  have ne : ∀ k, k < w1.heap.size → some k ≠ v.ownBlock → some k ≠ v'.ownBlock := fun k hk hn e => by
    rcases hob with ho | ho
    · exact hn (e.trans ho)
    · rw [ho] at e
      have := Option.some.inj e
      omega
  have nr' := ne br h.lr h.nr
  have ho : ∀ k, k ≠ br → (w2.setCell ⟨br, 0, none⟩ v').heap[k]? = w2.heap[k]? := fun k hk => Below.heap_setCell _ _ _ _ hk
  have h1 : (w2.setCell ⟨br, 0, none⟩ v').heap[bw]? = w1.heap[bw]? := (ho _ h.wrr).trans (hg.block bw h.lw h.nw)
  have h2 : (w2.setCell ⟨br, 0, none⟩ v').heap[bb]? = w1.heap[bb]? := (ho _ h.brr).trans (hg.block bb h.lb h.nbb)
  have h3 : w2.heap[br]? = w1.heap[br]? := hg.block br h.lr h.nr
  obtain ⟨r, hb, hl⟩ := h.buf
  refine ⟨⟨h1.trans h.wr, ⟨r, h2.trans hb, hl⟩, heap_setCell_same w2 br 0 _ 32 v' (h3.trans h.rc), ?_, ne bb h.lb h.nbb⟩, ⟨hg.os, hg.tape, hg.output, by simpa [World.setCell] using hg.size, fun k hk a b c d => ⟨(ho k c).trans (hg.block k hk d), ne k hk d⟩⟩⟩
  rw [List.length_append, bc_append]
  exact ownsRow_blocks hrow (fun g hg' => ho g (fun e => nr' (by rw [hg', e])))

set_option maxHeartbeats 1000000 in
/-- THE RECORDER TAKES WHAT IT IS GIVEN. -/
theorem rec_ok {w : World} {bw bb br size : Nat} {errv : Value} {pend : List UInt8} {v : Value} {calls : Int} {out : List UInt8} (h : BW w bw bb br size errv pend v .nilIface calls out)
    (hc0 : 0 ≤ calls) (hc1 : calls ≤ 1000000000) (pb po pc : Nat) (p : List UInt8) (hp : Src w bw bb br v pb po p) (hlen : out.length + p.length ≤ 1099511627776) :
    Calls Ybad.prog 46 #[.pointer (some ⟨br, 0, none⟩), .slice (some ⟨pb, po, none⟩) p.length pc] w fun e w' => e = .returned (.tuple #[.int .i64 (p.length : Int), .nilIface]) ∧
      ∃ v', BW w' bw bb br size errv pend v' .nilIface (calls + 1) (out ++ p) ∧ Kept bw bb br w v w' v' := by
  obtain ⟨i0, hi, hz0, hz1, hz2⟩ := info_parts info5
  have r0 := h.r0
  have r1 := h.r1
  have r2 := h.r2
  have rf := h.rf 2
  have H1 : Hid (BW (w.setCell ⟨br, 2, none⟩ (.int .i64 (calls + 1))) bw bb br size errv pend v .nilIface (calls + 1) out) := h.setCalls (calls + 1)
  have HK1 : Hid (Kept bw bb br w v (w.setCell ⟨br, 2, none⟩ (.int .i64 (calls + 1))) v) := (Kept.refl bw bb br w v).set br 2 _ (.inr (.inr rfl))
  have HN : Hid (∀ j u, (bc p)[j]? = some u → (w.setCell ⟨br, 2, none⟩ (.int .i64 (calls + 1))).cell? ((⟨pb, po, none⟩ : Addr).add j) = some u) := by
    refine news_of fun j hj => ?_
    rw [World.cell?_of_block (w := w) (Below.heap_setCell _ _ _ _ hp.n3)]
    exact hp.at_ j hj
  go_enter Ybad.func46, Ybad.ntmps46
  go_wp2_with (at_builtin; refine wpList_append_shape _ rfl (.tmp 26) (.tmp 27) 22 rfl 0 5 i0 (.int .u8 0) 1 1 Ybad.underlying22 hi hz0 hz1 hz2 rfl (by decide) v out.length (bc out) rfl H1.out.row ⟨pb, po, none⟩ p.length pc (bc p) rfl (by rw [bc_len, Nat.mul_one]) HN.out (bc_one p) (by unfold maxLen; omega) (by omega) (Nat.zero_le _) ?_; intro ao c' w2 hrow2 hg2 hob2; have hr2 := hide ((hg2.block br H1.out.lr H1.out.nr).trans H1.out.rc); have c20 := cell_of_row _ br 0 _ _ _ hr2.out; have f20 := frozen_of_row _ br 0 _ _ hr2.out; simp only [List.getElem?_toArray, List.getElem?_cons_zero] at c20)
  have HE := hide (H1.out.appended hg2 hrow2 hob2)
  clear hrow2 hob2
  go_ret2
  exact ⟨rfl, _, HE.out.1, HK1.out.trans HE.out.2⟩

set_option maxHeartbeats 1000000 in
/-- THE RECORDER REFUSES. -/
theorem rec_fail {w : World} {bw bb br size : Nat} {errv : Value} {pend : List UInt8} {v : Value} {calls : Int} {out : List UInt8} (T : TypeId) (x : Value) (h : BW w bw bb br size errv pend v (.iface T x) calls out)
    (hc0 : 0 ≤ calls) (hc1 : calls ≤ 1000000000) (pv : Value) :
    Calls Ybad.prog 46 #[.pointer (some ⟨br, 0, none⟩), pv] w fun e w' => e = .returned (.tuple #[.int .i64 0, .iface T x]) ∧
      BW w' bw bb br size errv pend v (.iface T x) (calls + 1) out ∧ Kept bw bb br w v w' v := by
  have r0 := h.r0
  have r1 := h.r1
  have r2 := h.r2
  have rf := h.rf 2
  have H1 : Hid (BW (w.setCell ⟨br, 2, none⟩ (.int .i64 (calls + 1))) bw bb br size errv pend v (.iface T x) (calls + 1) out) := h.setCalls (calls + 1)
  have HK1 : Hid (Kept bw bb br w v (w.setCell ⟨br, 2, none⟩ (.int .i64 (calls + 1))) v) := (Kept.refl bw bb br w v).set br 2 _ (.inr (.inr rfl))
  go_enter Ybad.func46, Ybad.ntmps46
  go_wp2
  go_quiet (fail)
  go_wp2
  go_ret2
  exact ⟨rfl, H1.out.drewN _, HK1.out.drewN _⟩

end Go.Proofs.YbulkdyjwDoor
