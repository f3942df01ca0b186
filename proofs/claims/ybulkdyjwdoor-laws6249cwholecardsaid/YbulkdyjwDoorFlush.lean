import Derived.Test.YbulkdyjwDoorCopy
import Derived.Deep.RegionHeld3
namespace Go.Proofs.YbulkdyjwDoor
open Go.RowKit

theorem method_write (a : Addr) (w : World) : (method 205 30 (.pointer (some a)) "Write").run Ybad.prog w = .ok (46, .pointer (some a)) w := by kernel_rfl

theorem flush_none {w : World} {bw bb br size : Nat} {v failv : Value} {calls : Int} {out : List UInt8} (h : BW w bw bb br size .nilIface [] v failv calls out) :
    Calls Ybad.prog 11 #[.pointer (some ⟨bw, 0, none⟩)] w fun e w' => e = .returned .nilIface ∧ w = w' := by
  have w0 := h.w0
  have w2 := h.w2
  clear h
  go_enter Ybad.func11, Ybad.ntmps11
  go_wp2
  go_ret
  exact ⟨rfl, rfl⟩

theorem BW.setSame {w : World} {bw bb br size : Nat} {errv : Value} {pend : List UInt8} {v failv : Value} {calls : Int} {out : List UInt8} (h : BW w bw bb br size errv pend v failv calls out) : BW (w.setCell ⟨bw, 2, none⟩ (.int .i64 (pend.length : Int))) bw bb br size errv pend v failv calls out := by
  have ho : ∀ k, k ≠ bw → (w.setCell ⟨bw, 2, none⟩ (.int .i64 (pend.length : Int))).heap[k]? = w.heap[k]? := fun k hk => Below.heap_setCell _ _ _ _ hk
  obtain ⟨r, hb, hl⟩ := h.buf
  exact ⟨heap_setCell_same w bw 2 _ 52 _ h.wr, ⟨r, (ho _ h.wb.symm).trans hb, hl⟩, (ho _ h.wrr.symm).trans h.rc, ownsRow_blocks h.row (fun g hg => ho g (fun e => h.nw (by rw [hg, e]))), h.nbb⟩
theorem Kept.ofDrew {bw bb br : Nat} {w w' : World} {v v' : Value} (h : Kept bw bb br w.drew v w' v') : Kept bw bb br w v w' v' := ⟨h.os, h.tape, h.output, h.size, h.blk⟩
theorem Kept.ofDrewN {bw bb br : Nat} {w w' : World} {v v' : Value} {n : Nat} (h : Kept bw bb br (w.drewN n) v w' v') : Kept bw bb br w v w' v' := ⟨h.os, h.tape, h.output, h.size, h.blk⟩
/-- The buffer itself is a source that the recorder can read. -/
theorem buf_src {w : World} {bw bb br size : Nat} {errv : Value} {pend : List UInt8} {v failv : Value} {calls : Int} {out : List UInt8} (h : BW w bw bb br size errv pend v failv calls out) : Src w bw bb br v bb 0 pend :=
  ⟨h.lb, h.wb.symm, h.brr, h.nbb, fun j hj => by rw [Nat.zero_add]; exact h.bufAt j hj⟩

set_option maxHeartbeats 2000000 in
theorem flush_ok {w : World} {bw bb br size : Nat} {pend : List UInt8} {v : Value} {calls : Int} {out : List UInt8} (h : BW w bw bb br size .nilIface pend v .nilIface calls out) (hp : 0 < pend.length) (_hs : size ≤ 65536)
    (hc0 : 0 ≤ calls) (hc1 : calls ≤ 1000000000) (hlen : out.length + pend.length ≤ 1099511627776) :
    Calls Ybad.prog 11 #[.pointer (some ⟨bw, 0, none⟩)] w fun e w' => e = .returned .nilIface ∧
      ∃ v', BW w' bw bb br size .nilIface [] v' .nilIface (calls + 1) (out ++ pend) ∧ Kept bw bb br w v w' v' := by
  have w0 := h.w0
  have w1 := h.w1
  have w2 := h.w2
  have w3 := h.w3
  have hle := h.le
  have hn0 : ((pend.length : Int) == 0) = false := beq_eq_false_iff_ne.2 (by omega)
  have HB : Hid (BW w bw bb br size .nilIface pend v .nilIface calls out) := h
  clear h
  have hmw := method_write
  go_enter Ybad.func11, Ybad.ntmps11
  go_wp2
  go_region_held3 (fun w' => w'.cell? ⟨bw, 1, none⟩ = some (.slice (some ⟨bb, 0, none⟩) size size) ∧ w'.cell? ⟨bw, 2, none⟩ = some (.int .i64 (pend.length : Int)) ∧ w'.cell? ⟨bw, 3, none⟩ = some (.iface 30 (.pointer (some ⟨br, 0, none⟩)))) (exact ⟨by assumption, by assumption, by assumption⟩)
    (first | (go_at_call 46; refine (rec_ok HB.out.drew hc0 hc1 bb 0 size pend (buf_src HB.out.drew) hlen).mono ?_; rintro e w' ⟨rfl, v', hB', hK'⟩; have x1 := hB'.w1; have x2 := hB'.w2; have x3 := hB'.w3; have x4 := hB'.wf 2))
  go_wp2
  go_ret
  exact ⟨rfl, v', hB'.setNone, (hK'.ofDrew).set bw 2 _ (.inl rfl)⟩

set_option maxHeartbeats 2000000 in
theorem flush_fail {w : World} {bw bb br size : Nat} {pend : List UInt8} {v : Value} {calls : Int} {out : List UInt8} (T : TypeId) (x : Value) (h : BW w bw bb br size .nilIface pend v (.iface T x) calls out) (hp : 0 < pend.length) (_hs : size ≤ 65536)
    (hc0 : 0 ≤ calls) (hc1 : calls ≤ 1000000000) :
    Calls Ybad.prog 11 #[.pointer (some ⟨bw, 0, none⟩)] w fun e w' => e = .returned (.iface T x) ∧
      BW w' bw bb br size (.iface T x) pend v (.iface T x) (calls + 1) out ∧ Kept bw bb br w v w' v := by
  have w0 := h.w0
  have w1 := h.w1
  have w2 := h.w2
  have w3 := h.w3
  have hle := h.le
  have hn0 : ((pend.length : Int) == 0) = false := beq_eq_false_iff_ne.2 (by omega)
  have hp' : (0 : Int) < (pend.length : Int) := by omega
  have HB : Hid (BW w bw bb br size .nilIface pend v (.iface T x) calls out) := h
  clear h
  have hmw := method_write
  go_enter Ybad.func11, Ybad.ntmps11
  go_wp2
  go_region_held3 (fun w' => w'.cell? ⟨bw, 1, none⟩ = some (.slice (some ⟨bb, 0, none⟩) size size) ∧ w'.cell? ⟨bw, 2, none⟩ = some (.int .i64 (pend.length : Int)) ∧ w'.cell? ⟨bw, 3, none⟩ = some (.iface 30 (.pointer (some ⟨br, 0, none⟩)))) (exact ⟨by assumption, by assumption, by assumption⟩)
    (first | (go_at_call 46; refine (rec_fail T x HB.out.drew hc0 hc1 _).mono ?_; rintro e w' ⟨rfl, hB', hK'⟩; have x1 := hB'.w1; have x2 := hB'.w2; have x3 := hB'.w3; have x4 := hB'.wf 2; have x5 := hB'.wf 0; have x6 := hB'.w0))
  go_wp2
  go_ret
  exact ⟨rfl, hB'.setSame.setErr _, ((hK'.ofDrew).set bw 2 _ (.inl rfl)).set bw 0 _ (.inl rfl)⟩

end Go.Proofs.YbulkdyjwDoor
