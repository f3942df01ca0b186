import Derived.Test.YbulkdyjwDoorFlush
namespace Go.Proofs.YbulkdyjwDoor
open Go.RowKit

/-- A slice of bytes outside the writer, empty or not. -/
structure PS (w : World) (bw bb br : Nat) (v : Value) (ao : Option Addr) (c : Nat) (q : List UInt8) : Prop where
  le : q.length ≤ c
  at_ : 0 < q.length → ∃ pb po, ao = some ⟨pb, po, none⟩ ∧ pb ≠ bb ∧ Src w bw bb br v pb po q
theorem PS.drewN {w : World} {bw bb br : Nat} {v : Value} {ao : Option Addr} {c : Nat} {q : List UInt8} (h : PS w bw bb br v ao c q) (n : Nat) : PS (w.drewN n) bw bb br v ao c q :=
  ⟨h.le, fun hp => by obtain ⟨pb, po, e, n1, s⟩ := h.at_ hp; exact ⟨pb, po, e, n1, ⟨s.lt, s.n1, s.n3, s.n4, s.at_⟩⟩⟩
theorem PS.kept {w w' : World} {bw bb br : Nat} {v v' : Value} {ao : Option Addr} {c : Nat} {q : List UInt8} (h : PS w bw bb br v ao c q) (k : Kept bw bb br w v w' v') : PS w' bw bb br v' ao c q :=
  ⟨h.le, fun hp => by
    obtain ⟨pb, po, e, n1, s⟩ := h.at_ hp
    refine ⟨pb, po, e, n1, ⟨Nat.lt_of_lt_of_le s.lt k.size, s.n1, s.n3, (k.blk pb s.lt s.n1 n1 s.n3 s.n4).2, fun j hj => ?_⟩⟩
    rw [k.cell (p := ⟨pb, po + j, none⟩) s.lt s.n1 n1 s.n3 s.n4]
    exact s.at_ j hj⟩

theorem PS.first {w : World} {bw bb br : Nat} {v : Value} {ao : Option Addr} {c : Nat} {q : List UInt8} (h : PS w bw bb br v ao c q) {W : World} (hW : ∀ a, W.cell? a = w.cell? a) (n : Nat) (hn : n ≤ q.length) (P : Program) :
    (Builtin.firstCells 1 n (.slice ao q.length c)).run P W = .ok (bc (q.take n)).toArray W := by
  by_cases h0 : n = 0
  · subst h0
    cases ao with
    | none => exact first_nil W _ _ _
    | some ad => exact first_slice W ad _ _ 0 [] rfl (fun j u hj => by cases hj)
  · obtain ⟨pb, po, rfl, _, s⟩ := h.at_ (by omega)
    refine first_slice W _ _ _ n _ (by rw [bc_len, List.length_take]; omega) (news_of fun j hj => ?_)
    rw [hW, s.at_ j (by rw [List.length_take] at hj; omega), List.getElem_take]
theorem copy_size : (Ybad.prog.info? 5).map (·.size) = some 1 := by kernel_rfl
theorem len_slice (P : Program) (W : World) (ao : Option Addr) (n c : Nat) : (Builtin.lenOf (.slice ao n c)).run P W = .ok n W := rfl

/-- BEHIND copy(b.buf[b.n:], src), ahead of the store of n. -/
structure Cop (w0 w' : World) (bw bb br size : Nat) (errv : Value) (pend : List UInt8) (v failv : Value) (calls : Int) (out q : List UInt8) : Prop where
  fin : BW (w'.setCell ⟨bw, 2, none⟩ (.int .i64 ((pend.length : Int) + (q.length : Int)))) bw bb br size errv (pend ++ q) v failv calls out ∧ Kept bw bb br w0 v (w'.setCell ⟨bw, 2, none⟩ (.int .i64 ((pend.length : Int) + (q.length : Int)))) v
  c0 : w'.cell? ⟨bw, 0, none⟩ = some errv
  c1 : w'.cell? ⟨bw, 1, none⟩ = some (.slice (some ⟨bb, 0, none⟩) size size)
  c2 : w'.cell? ⟨bw, 2, none⟩ = some (.int .i64 (pend.length : Int))
  f2 : w'.frozen? ⟨bw, 2, none⟩ = false

theorem step_copy_buf {P : Program} {ops : Array Oper} {o : Oper} {a : Act} {W : World} {K : Act → World → Prop} {Q : Exit → Act → World → Prop} {E : Prop} (hgd : o.guard = none) (d s : Operand) (dT sT : TypeId)
    (ho : o.op = .call { callee := .builtin .copy, args := #[d, s], argTypes := #[dT, sT] }) (hu : P.underlying dT = some (.slice 5)) (hsz : (P.info? 5).map (·.size) = some 1)
    {w0 : World} {bw bb br size : Nat} {errv : Value} {pend : List UInt8} {v failv : Value} {calls : Int} {out : List UInt8} (h : BW w0 bw bb br size errv pend v failv calls out)
    (hW : W.heap = w0.heap ∧ W.os = w0.os ∧ W.tape = w0.tape ∧ W.output = w0.output)
    (dp : Option Addr) (dLen dCap : Nat) (hd : a.eval d = .slice dp dLen dCap) (hdl : dLen = size - pend.length) (hdp : pend.length < size → dp = some ⟨bb, pend.length, none⟩)
    (src : Value) (sLen : Nat) (hs : a.eval s = src) (q : List UInt8) (hq : q.length = Nat.min sLen (size - pend.length))
    (hlen : (Builtin.lenOf src).run P W = .ok sLen W) (hfirst : (Builtin.firstCells 1 q.length src).run P W = .ok (bc q).toArray W)
    (hK : ∀ w', Cop w0 w' bw bb br size errv pend v failv calls out q → K (a.put o.dst (.int .i64 (q.length : Int))) w') :
    if Region.wanted o (yielded ops a.tmps) = true then Oper.wp P o a W K Q else E := by
  obtain ⟨rest, hrb, hrl⟩ := h.buf
  subst hdl
  have hle := h.le
  have hql : q.length ≤ size - pend.length := by rw [hq]; exact Nat.min_le_right _ _
  refine step_copy_gen hgd d s dT sT ho 5 hu hsz src sLen (size - pend.length) dCap dp hd hs bb pend.length (bc (pend ++ rest)) 5 (by rw [hW.1]; exact hrb) (bc q) hlen (by rw [← hq]; exact hfirst) (by rw [bc_len]; exact hq) (fun hpos => hdp (by rw [bc_len] at hpos; omega)) (by rw [bc_len, bc_len, hrl]; omega) (bc_one q) ?_
  intro w' hg' hgr'
  have hgr : w0.grownBy w' (some bb) := ⟨hgr'.os.trans hW.2.1, hgr'.tape.trans hW.2.2.1, hgr'.output.trans hW.2.2.2, by have := hgr'.size; rw [hW.1] at this; exact this, fun k hk hn => (hgr'.block k (by rw [hW.1]; exact hk) hn).trans (by rw [hW.1])⟩
  have hw' : w'.heap[bw]? = w0.heap[bw]? := hgr.block bw h.lw (fun e => h.wb (Option.some.inj e))
  have := hK w' ⟨h.copied hrl (by omega) hg'.out hgr, (World.cell?_of_block hw').trans h.w0, (World.cell?_of_block hw').trans h.w1, (World.cell?_of_block hw').trans h.w2, (World.frozen?_of_block hw').trans (h.wf 2)⟩
  rw [bc_len]
  exact this

set_option maxHeartbeats 2000000 in
/-- What is written fits: it goes into the buffer. -/
theorem write_fits {w : World} {bw bb br size : Nat} {pend : List UInt8} {v failv : Value} {calls : Int} {out : List UInt8} (h : BW w bw bb br size .nilIface pend v failv calls out) (hs : size ≤ 65536)
    (ao : Option Addr) (c : Nat) (p : List UInt8) (hp : PS w bw bb br v ao c p) (hfit : pend.length + p.length ≤ size) :
    Calls Ybad.prog 14 #[.pointer (some ⟨bw, 0, none⟩), .slice ao p.length c] w fun e w' => e = .returned (.tuple #[.int .i64 (p.length : Int), .nilIface]) ∧
      BW w' bw bb br size .nilIface (pend ++ p) v failv calls out ∧ Kept bw bb br w v w' v := by
  have HB : Hid (BW w bw bb br size .nilIface pend v failv calls out) := h
  have HP : Hid (PS w bw bb br v ao c p) := hp
  have hfit' : ¬ (size : Int) - (pend.length : Int) < (p.length : Int) := by omega
  have w0 := h.w0
  have w1 := h.w1
  have w2 := h.w2
  have hpl : (pend.length : Int) ≤ (size : Int) := by omega
  clear h hp
  go_enter Ybad.func14, Ybad.ntmps14
  go_wp2
  refine wp_loop_rounds 1 ?_
  rw [rounds_succ]
  go_wp2_with (go_at_call 18; refine (available_any HB.out hs).mono ?_; rintro e w' ⟨rfl, m, rfl⟩)
  go_region_held3 (fun w' => w'.cell? ⟨bw, 1, none⟩ = some (.slice (some ⟨bb, 0, none⟩) size size) ∧ w'.cell? ⟨bw, 2, none⟩ = some (.int .i64 (pend.length : Int))) (exact ⟨by assumption, by assumption⟩)
    (first | (refine step_copy_buf rfl (.tmp 80) (.tmp 81) 22 22 rfl Ybad.underlying22 copy_size HB.out ⟨rfl, rfl, rfl, rfl⟩ _ _ _ rfl rfl (fun hlt => by simp [show ¬ size = pend.length from by omega]) (.slice ao p.length c) p.length rfl p (Nat.min_eq_left (by omega)).symm (len_slice _ _ _ _ _) (by have := HP.out.first (W := w.drewN (m + 1)) (fun _ => rfl) p.length (Nat.le_refl _) Ybad.prog; rw [List.take_length] at this; exact this) ?_; intro w4 hcop; have y1 := hcop.c1; have y2 := hcop.c2; have y0 := hcop.c0; have yf := hcop.f2))
  go_wp2
  all_goals
    go_ret2
    have hc := hcop.fin
    first
      | exact ⟨rfl, hc.1, hc.2⟩
      | (have hsz : size = pend.length := by assumption
         rw [hsz] at hc
         exact ⟨rfl, hc.1, hc.2⟩)

set_option maxHeartbeats 2000000 in
/-- The writer has an error already: it comes back, and nothing is done. -/
theorem write_bad {w : World} {bw bb br size : Nat} {pend : List UInt8} {v failv : Value} {calls : Int} {out : List UInt8} (T : TypeId) (x : Value) (h : BW w bw bb br size (.iface T x) pend v failv calls out) (hs : size ≤ 65536)
    (ao : Option Addr) (n c : Nat) :
    Calls Ybad.prog 14 #[.pointer (some ⟨bw, 0, none⟩), .slice ao n c] w fun e w' => e = .returned (.tuple #[.int .i64 0, .iface T x]) ∧
      BW w' bw bb br size (.iface T x) pend v failv calls out ∧ Kept bw bb br w v w' v := by
  have HB : Hid (BW w bw bb br size (.iface T x) pend v failv calls out) := h
  have w0 := h.w0
  clear h
  by_cases hfit : (size : Int) - (pend.length : Int) < (n : Int)
  all_goals
    go_enter Ybad.func14, Ybad.ntmps14
    go_wp2
    refine wp_loop_rounds 1 ?_
    rw [rounds_succ]
    go_wp2_with (go_at_call 18; refine (available_any HB.out hs).mono ?_; rintro e w' ⟨rfl, m, rfl⟩)
    go_quiet (fail)
    go_wp2
    go_ret2
    exact ⟨rfl, (HB.out.drewN _).drewN _, ((Kept.refl _ _ _ _ _).drewN _).drewN _⟩

end Go.Proofs.YbulkdyjwDoor
