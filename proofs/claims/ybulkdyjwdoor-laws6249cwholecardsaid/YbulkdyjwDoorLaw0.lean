import Derived.Test.YbulkdyjwDoorLaw1
import Derived.LaidEql
namespace Go.Proofs.YbulkdyjwDoor
open Go.RowKit

theorem flush_any {w : World} {bw bb br size : Nat} {pend : List UInt8} {v : Value} {calls : Int} {out : List UInt8} (h : BW w bw bb br size .nilIface pend v .nilIface calls out) (hs : size ≤ 65536) (hc0 : 0 ≤ calls) (hc1 : calls ≤ 1000000000) (hl : out.length + pend.length ≤ 1000000000) :
    Calls Ybad.prog 11 #[.pointer (some ⟨bw, 0, none⟩)] w fun e w' => e = .returned .nilIface ∧ ∃ v' calls', BW w' bw bb br size .nilIface [] v' .nilIface calls' (out ++ pend) ∧ Kept bw bb br w v w' v' := by
  by_cases hp : pend.length = 0
  · have hpn : pend = [] := List.eq_nil_of_length_eq_zero hp
    subst hpn
    refine (flush_none h).mono ?_
    rintro e w' ⟨rfl, rfl⟩
    rw [List.append_nil]
    exact ⟨rfl, v, calls, h, Kept.refl _ _ _ _ _⟩
  · refine (flush_ok h (by omega) hs hc0 hc1 (by omega)).mono ?_
    rintro e w' ⟨rfl, v', hb, hk⟩
    exact ⟨rfl, v', _, hb, hk⟩

theorem BW.shape {w : World} {bw bb br size : Nat} {errv : Value} {pend : List UInt8} {v failv : Value} {calls : Int} {out : List UInt8} (h : BW w bw bb br size errv pend v failv calls out) : ∃ a c, v = .slice a out.length c := by
  rcases h.row.2 with ⟨rfl, h0⟩ | ⟨g, cap, cur, rfl, _⟩
  · exact ⟨none, 0, by rw [h0]⟩
  · exact ⟨_, _, rfl⟩

theorem PS.ofVIn {w : World} {B : Nat} {ao : Option Addr} {n c : Nat} {val : List UInt8} (h : VIn w B ao n c val) {bw bb br : Nat} {v : Value} (hB : B ≤ w.heap.size) (h1 : B ≤ bw) (h2 : B ≤ bb) (h3 : B ≤ br) (h4 : v.ownBlock = none) : PS w bw bb br v ao c val :=
  ⟨by rw [h.len]; exact h.le, fun hp => by
    have hn : 0 < n := by have := h.len; omega
    cases ao with
    | none => have := (h.nil rfl).1; omega
    | some a =>
      obtain ⟨pb, po, rfl, hlt, hc⟩ := h.at_ a rfl hn
      exact ⟨pb, po, rfl, by omega, ⟨by omega, by omega, by omega, by rw [h4]; exact (fun e => by cases e), hc⟩⟩⟩

theorem eql_same (a : Addr) (w : World) : (binOp .eql 28 (.iface 45 (.pointer (some a))) (.iface 45 (.pointer (some a)))).run Ybad.prog w = .ok (.bool true) w := by
  have h45 : (Ybad.prog.info? 45).map (fun i => i.comparable) = some true := by kernel_rfl
  have h47 : (Ybad.prog.info? 47).map (fun i => i.size) = some 1 := by kernel_rfl
  obtain ⟨i, hi, hc⟩ := Option.map_eq_some_iff.1 h45
  obtain ⟨j, hj, _⟩ := Option.map_eq_some_iff.1 h47
  exact run_eql_iface_ptr_same w a Ybad.underlying28 Ybad.underlying45 hi hc hj

theorem buffered' {w : World} {bw bb br size : Nat} {errv : Value} {pend : List UInt8} {v failv : Value} {calls : Int} {out : List UInt8} (h : BW w bw bb br size errv pend v failv calls out) :
    Calls Ybad.prog 10 #[.pointer (some ⟨bw, 0, none⟩)] w fun e w' => e = .returned (.int .i64 (pend.length : Int)) ∧ w' = w := (buffered_any h).mono fun _ _ h => ⟨h.1, h.2.symm⟩

theorem St.start (failv : Value) (hf : failv = .nilIface ∨ ∃ T x, failv = .iface T x) (size : Nat) : St failv size [] 0 .nilIface [] 0 [] := by
  rcases hf with rfl | ⟨T, x, rfl⟩
  · exact .inl ⟨rfl, rfl, rfl, Int.le_refl _, Int.le_refl _⟩
  · exact .inr ⟨T, x, rfl, .inl ⟨Nat.zero_le _, rfl, rfl, rfl⟩⟩

/-- WHAT STANDS WHEN THE QUERY HAS BEEN WRITTEN (w7: the world in which exp was whole; w8: with the sentinel and the recorder). -/
theorem chain8 {w7 w8 w9 w10 : World} {bw bb br B : Nat} {v : Value} (hB : B ≤ w7.heap.size) (h8 : Below w7.heap.size w7 w8) (hbr : w7.heap.size ≤ br) (h9 : Below w8.heap.size w8 w9) (hbw : w8.heap.size ≤ bw) (hbb : w8.heap.size ≤ bb) (k : Kept bw bb br w9 (.slice none 0 0) w10 v) : Below B w7 w10 := by
  have s8 := h8.size
  have s9 := h9.size
  exact ((h8.mono hB).trans (h9.mono (by omega))).trans (k.below (by omega) (by omega) (by omega) (by omega) (fun g hg => by cases hg))
theorem two_alloc (w : World) (o p : Obj) : Below w.heap.size w ((w.alloc o).alloc p) ∧ ((w.alloc o).alloc p).heap[w.heap.size + 1]? = some p ∧ ((w.alloc o).alloc p).heap.size = w.heap.size + 2 := by
  have h1 : (w.alloc o).heap.size = w.heap.size + 1 := by simp
  refine ⟨((Below.refl _ w).alloc (Nat.le_refl _) o).alloc (by omega) p, ?_, by simp⟩
  rw [← h1, World.alloc]
  exact Array.getElem?_push_size

end Go.Proofs.YbulkdyjwDoor
