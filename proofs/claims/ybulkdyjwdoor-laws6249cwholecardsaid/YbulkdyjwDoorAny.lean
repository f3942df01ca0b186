import Derived.Test.YbulkdyjwDoorStrO
import Derived.Test.YbulkdyjwDoorWriteF
namespace Go.Proofs.YbulkdyjwDoor
open Go.RowKit

/-- What the writer knows of the bytes l handed to it so far. -/
def St (failv : Value) (size : Nat) (l : List UInt8) (C : Int) (errv : Value) (pend : List UInt8) (calls : Int) (out : List UInt8) : Prop :=
  (failv = .nilIface ∧ errv = .nilIface ∧ out ++ pend = l ∧ 0 ≤ calls ∧ calls ≤ C) ∨
  (∃ T x, failv = .iface T x ∧ ((l.length ≤ size ∧ errv = .nilIface ∧ pend = l ∧ calls = 0) ∨ (size < l.length ∧ errv = .iface T x ∧ calls = 1)))

structure RR (bw bb br size : Nat) (failv : Value) (w0 : World) (v0 : Value) (W : World) (l : List UInt8) (C : Int) (errv : Value) (pend : List UInt8) (v : Value) (calls : Int) (out : List UInt8) : Prop where
  b : BW W bw bb br size errv pend v failv calls out
  k : Kept bw bb br w0 v0 W v
  st : St failv size l C errv pend calls out

theorem Kept.ofBelow {bw bb br : Nat} {w w' w'' : World} {v v' : Value} (h : Kept bw bb br w v w' v') (hb : Below w'.heap.size w' w'') : Kept bw bb br w v w'' v' :=
  ⟨hb.os.trans h.os, hb.tape.trans h.tape, hb.output.trans h.output, Nat.le_trans h.size hb.size, fun i hi a b c d => by
    obtain ⟨e1, n1⟩ := h.blk i hi a b c d
    exact ⟨(hb.block i (Nat.lt_of_lt_of_le hi h.size)).trans e1, n1⟩⟩

section
variable {bw bb br size : Nat} {failv : Value} {w0 : World} {v0 : Value} {W : World} {l : List UInt8} {C : Int} {errv : Value} {pend : List UInt8} {v : Value} {calls : Int} {out : List UInt8}
theorem RR.below (h : RR bw bb br size failv w0 v0 W l C errv pend v calls out) {W' : World} (hb : Below W.heap.size W W') : RR bw bb br size failv w0 v0 W' l C errv pend v calls out :=
  ⟨h.b.below hb, h.k.ofBelow hb, h.st⟩

/-- (*bufio.Writer).Write, whatever the state. -/
theorem write_any (h : RR bw bb br size failv w0 v0 W l C errv pend v calls out) (hs : size ≤ 65536) (hs0 : 0 < size) (ao : Option Addr) (c : Nat) (p : List UInt8) (hp : PS W bw bb br v ao c p)
    (hl : l.length + p.length ≤ 100000000) (hC : C + 2 * (p.length : Int) + 1 ≤ 1000000000) :
    Calls Ybad.prog 14 #[.pointer (some ⟨bw, 0, none⟩), .slice ao p.length c] W fun e W' => ∃ (n : Int) (errv' : Value) (pend' : List UInt8) (v' : Value) (calls' : Int) (out' : List UInt8), e = .returned (.tuple #[.int .i64 n, errv']) ∧
      RR bw bb br size failv w0 v0 W' (l ++ p) (C + 2 * (p.length : Int) + 1) errv' pend' v' calls' out' := by
  obtain ⟨hb, hk, hst⟩ := h
  rcases hst with ⟨rfl, rfl, hap, hc0, hc1⟩ | ⟨T, x, rfl, ⟨hls, rfl, rfl, rfl⟩ | ⟨hls, rfl, rfl⟩⟩
  · have hlen := congrArg List.length hap
    rw [List.length_append] at hlen
    refine (write_ok hb hs hs0 hc0 ao c p hp (by omega) (by omega)).mono ?_
    rintro e W' ⟨rfl, pend', v', calls', out', hb', ha', hd0, hd1, hk'⟩
    exact ⟨_, _, pend', v', calls', out', rfl, hb', hk.trans hk', .inl ⟨rfl, rfl, by rw [ha', hap], by omega, by omega⟩⟩
  · by_cases hfit : pend.length + p.length ≤ size
    · refine (write_fits hb hs ao c p hp hfit).mono ?_
      rintro e W' ⟨rfl, hb', hk'⟩
      exact ⟨_, _, _, _, _, _, rfl, hb', hk.trans hk', .inr ⟨T, x, rfl, .inl ⟨by rw [List.length_append]; exact hfit, rfl, rfl, rfl⟩⟩⟩
    · have hR : size < (pend ++ p).length := by rw [List.length_append]; omega
      by_cases hpd : 0 < pend.length
      · refine (write_fail2 T x hb hpd hs (Int.le_refl _) (by omega) ao c p hp (by omega) (by omega)).mono ?_
        rintro e W' ⟨n, rfl, pend', hb', hk'⟩
        exact ⟨_, _, _, _, _, _, rfl, hb', hk.trans hk', .inr ⟨T, x, rfl, .inr ⟨hR, rfl, rfl⟩⟩⟩
      · have hpn : pend = [] := List.eq_nil_of_length_eq_zero (by omega)
        subst hpn
        refine (write_fail1 T x hb hs (Int.le_refl _) (by omega) ao p.length c (by simpa using hR) hp.le (by omega)).mono ?_
        rintro e W' ⟨n, rfl, pend', hb', hk'⟩
        exact ⟨_, _, _, _, _, _, rfl, hb', hk.trans hk', .inr ⟨T, x, rfl, .inr ⟨hR, rfl, rfl⟩⟩⟩
  · refine (write_bad T x hb hs ao p.length c).mono ?_
    rintro e W' ⟨rfl, hb', hk'⟩
    exact ⟨_, _, _, _, _, _, rfl, hb', hk.trans hk', .inr ⟨T, x, rfl, .inr ⟨by rw [List.length_append]; omega, rfl, rfl⟩⟩⟩

/-- (*bufio.Writer).WriteString, whatever the state. -/
theorem str_any (h : RR bw bb br size failv w0 v0 W l C errv pend v calls out) (hs : size ≤ 65536) (hs0 : 0 < size) (s : ByteArray)
    (hl : l.length + s.size ≤ 100000000) (hC : C + 2 * (s.size : Int) + 1 ≤ 1000000000) :
    Calls Ybad.prog 15 #[.pointer (some ⟨bw, 0, none⟩), .string s] W fun e W' => ∃ (n : Int) (errv' : Value) (pend' : List UInt8) (v' : Value) (calls' : Int) (out' : List UInt8), e = .returned (.tuple #[.int .i64 n, errv']) ∧
      RR bw bb br size failv w0 v0 W' (l ++ s.data.toList) (C + 2 * (s.size : Int) + 1) errv' pend' v' calls' out' := by
  obtain ⟨hb, hk, hst⟩ := h
  rcases hst with ⟨rfl, rfl, hap, hc0, hc1⟩ | ⟨T, x, rfl, ⟨hls, rfl, rfl, rfl⟩ | ⟨hls, rfl, rfl⟩⟩
  · have hlen := congrArg List.length hap
    rw [List.length_append] at hlen
    refine (str_ok hb hs hs0 hc0 s (by omega) (by omega)).mono ?_
    rintro e W' ⟨rfl, pend', v', calls', out', hb', ha', hd0, hd1, hk'⟩
    exact ⟨_, _, pend', v', calls', out', rfl, hb', hk.trans hk', .inl ⟨rfl, rfl, by rw [ha', hap], by omega, by omega⟩⟩
  · by_cases hfit : pend.length + s.size ≤ size
    · refine (str_fits hb hs s hfit).mono ?_
      rintro e W' ⟨rfl, hb', hk'⟩
      exact ⟨_, _, _, _, _, _, rfl, hb', hk.trans hk', .inr ⟨T, x, rfl, .inl ⟨by rw [List.length_append, dl]; exact hfit, rfl, rfl, rfl⟩⟩⟩
    · have hR : size < (pend ++ s.data.toList).length := by rw [List.length_append, dl]; omega
      refine (str_fail T x hb hs hs0 (Int.le_refl _) (by omega) s (by omega) (by omega)).mono ?_
      rintro e W' ⟨n, rfl, pend', hb', hk'⟩
      exact ⟨_, _, _, _, _, _, rfl, hb', hk.trans hk', .inr ⟨T, x, rfl, .inr ⟨hR, rfl, rfl⟩⟩⟩
  · refine (str_bad T x hb hs s).mono ?_
    rintro e W' ⟨rfl, hb', hk'⟩
    exact ⟨_, _, _, _, _, _, rfl, hb', hk.trans hk', .inr ⟨T, x, rfl, .inr ⟨by rw [List.length_append]; omega, rfl, rfl⟩⟩⟩
end

end Go.Proofs.YbulkdyjwDoor
