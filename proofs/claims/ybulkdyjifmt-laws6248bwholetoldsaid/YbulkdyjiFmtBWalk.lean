import Derived.Test.YbulkdyjiFmtBCheck
import Derived.Laws.OwnMore
import Derived.Deep.QuietTactic
import Derived.BigQuiet
import Derived.WalkSmall
import Derived.WideShapes
namespace Go.Proofs.YbulkdyjiFmt
open Go.RowKit Go.Extern.Stop Go.Stop Go.Extern

theorem long_walk (what s : ByteArray) (ao : Option Addr) (len cap : Nat) (raw : Bool) (w : World) (hl : 1048576 < len) :
    Calls Ybaf.prog 3 #[.string what, .string s, .slice ao len cap, .bool raw] w fun e w' => e = .returned (.bool true) ∧ Below w.heap.size w w' := by
  have hl' : (1048576 : Int) < (len : Int) := by omega
  go_enter Ybaf.func3, Ybaf.ntmps3
  go_wp2
  go_ret
  exact ⟨rfl, Below.refl _ _⟩

set_option maxHeartbeats 1000000 in
theorem raw_ok (what s : ByteArray) (ao : Option Addr) (len cap : Nat) (w : World) (hl : len ≤ 1048576) (hs : s.size ≤ maxLen) (hok : okId s = true) :
    Calls Ybaf.prog 3 #[.string what, .string s, .slice ao len cap, .bool true] w fun e w' => e = .returned (.bool true) ∧ Below w.heap.size w w' := by
  have hl' : ¬ (1048576 : Int) < (len : Int) := by omega
  have HO : Hid (okId s = true) := hok
  clear hok
  go_enter Ybaf.func3, Ybaf.ntmps3
  go_wp2_with fail
  refine (check_ok what s _ hs HO.out).mono ?_
  rintro e w1 ⟨rfl, hb⟩
  go_wp2_with fail
  go_quiet ((go_at_call 7; exact Calls.quiet_of_same (model_any _ _ hs)))
  rw [HO.out]
  go_wp2
  go_ret
  exact ⟨rfl, below_drewN hb _⟩

set_option maxHeartbeats 1000000 in
theorem raw_bad (F : Interp) (what s : ByteArray) (ao : Option Addr) (len cap : Nat) (w : World) (hF : F.answers w.tape) (hl : len ≤ 1048576) (hs : s.size ≤ maxLen) (hok : okId s = false) :
    Calls Ybaf.prog 3 #[.string what, .string s, .slice ao len cap, .bool true] w fun e w' => e = .returned (.bool true) ∧ Below w.heap.size w w' := by
  have hl' : ¬ (1048576 : Int) < (len : Int) := by omega
  have HO : Hid (okId s = false) := hok
  clear hok
  go_enter Ybaf.func3, Ybaf.ntmps3
  go_wp2_with fail
  refine (check_bad F what s _ hF hs HO.out).mono ?_
  rintro e w1 ⟨⟨a, rfl⟩, hb⟩
  go_wp2_with fail
  go_quiet ((go_at_call 7; exact Calls.quiet_of_same (model_any _ _ hs)))
  rw [HO.out]
  go_wp2
  go_ret
  exact ⟨rfl, below_drewN hb _⟩

theorem info5 : (Ybaf.prog.info? 5).map (fun i => (i.zero, i.size, i.bytes)) = some (some (.int .u8 0), 1, 1) := by kernel_rfl

/-- The cells of a row of bytes. -/
def byteVals (l : List UInt8) : List Value := l.map (fun b => Value.int .u8 (b.toNat : Int))
theorem byteVals_made (n : Nat) : (madeCells (Value.int IntKind.u8 0).cells (n * 1)).toList = byteVals (List.replicate n 0) := by
  have h : (Value.int IntKind.u8 0).cells = #[.int .u8 0] := rfl
  rw [h, Nat.mul_one, toList_madeCells_one, byteVals, List.map_replicate]
  rfl
theorem byteVals_set (l : List UInt8) (k : Nat) (b : UInt8) : (byteVals l).set k (.int .u8 (b.toNat : Int)) = byteVals (l.set k b) := by
  unfold byteVals
  rw [List.map_set]

set_option maxHeartbeats 2000000 in
theorem pick_walk (F : Interp) (what s : ByteArray) (b off len cap : Nat) (zs : List Int) (w : World) (hF : F.answers w.tape) (hl : len ≤ 1048576)
    (hbw : b < w.heap.size) (hc : ∀ j, j < len → w.cell? ⟨b, off + j, none⟩ = some (.int .u8 (zs.getD j 0))) (hr : ∀ j, j < len → 0 ≤ zs.getD j 0 ∧ zs.getD j 0 ≤ 255) :
    Calls Ybaf.prog 3 #[.string what, .string s, .slice (some ⟨b, off, none⟩) len cap, .bool false] w fun e w' => e = .returned (.bool true) ∧ Below w.heap.size w w' := by
  have hl' : ¬ (1048576 : Int) < (len : Int) := by omega
  obtain ⟨i0, hi, hz0, hz1, hz2⟩ := info_parts info5
  have HC : Hid (∀ j, j < len → w.cell? ⟨b, off + j, none⟩ = some (.int .u8 (zs.getD j 0))) := hc
  have HR : Hid (∀ j, j < len → 0 ≤ zs.getD j 0 ∧ zs.getD j 0 ≤ 255) := hr
  clear hc hr
  go_enter Ybaf.func3, Ybaf.ntmps3
  go_wp2_with (at_make; refine wpList_make_full _ rfl (.tmp 20) (.tmp 20) 22 rfl w.heap.size 5 i0 (.int .u8 0) 1 Ybaf.underlying22 hi hz0 hz1 .i64 .i64 _ _ len rfl rfl rfl rfl (by rw [hz2]; omega) (by unfold maxLen; omega) (Nat.le_refl _) ?_; intro w1 hown0 hg0)
  have hown : w1.ownsRow w.heap.size 5 1 (.slice (some ⟨w.heap.size, 0, none⟩) len len) len (byteVals (List.replicate len 0)) := by rw [← byteVals_made]; exact hown0
  have hbel : Below w.heap.size w w1 := (Below.refl _ w).grown hg0 (Nat.le_refl _) (fun k hk => by cases hk)
  have HOwn : Hid (w1.ownsRow w.heap.size 5 1 (.slice (some ⟨w.heap.size, 0, none⟩) len len) len (byteVals (List.replicate len 0))) := hown
  clear hown0 hg0 hown
  go_loopw [11] (fun i wr => ∃ (k : Nat) (l : List UInt8), k ≤ len ∧ i = .int .i64 k ∧ Hid (l.length = len) ∧ Hid (wr.ownsRow w.heap.size 5 1 (.slice (some ⟨w.heap.size, 0, none⟩) len len) len (byteVals l)) ∧ Below w.heap.size w wr) (fun i _ => len - (intOf i).toNat)
  case atStart => exact ⟨0, _, Nat.zero_le _, rfl, List.length_replicate, HOwn, hbel⟩
  case round =>
    clear hbel HOwn
    obtain ⟨k, l, hk, rfl, HL, HOwn, hbel⟩ := hrel
    by_cases hlt : k < len
    · have hck : wr.cell? ⟨b, off + k, none⟩ = some (.int .u8 (zs.getD k 0)) := (hbel.cell (by exact hbw)).trans (HC.out k hlt)
      have hrk := HR.out k hlt
      generalize zs.getD k 0 = z at hck hrk
      obtain ⟨hr0, hr1⟩ := hrk
      have hf := HOwn.out.frozenAt k
      have hcl := HOwn.out.cellAt k (by omega)
      have hll : k < (byteVals l).length := by rw [byteVals, List.length_map, HL.out]; exact hlt
      rw [List.getElem?_eq_getElem hll] at hcl
      generalize (byteVals l)[k] = old at hcl
      clear hll
      go_wp2_with (go_at_call 5; refine (table_any _ _ hr0 hr1).mono ?_; rintro e w' ⟨⟨bt, rfl⟩, rfl⟩)
      go_roundw
      case rel =>
        have hst := HOwn.out.stored k (.int .u8 (bt.toNat : Int))
        rw [byteVals_set] at hst
        exact ⟨k + 1, l.set k bt, by omega, by go_num, by rw [Hid, List.length_set]; exact HL.out, hst.1, hbel.setCell (Nat.le_refl _) _⟩
      case measure => simp [intOf]; omega
    · have hback := run_convert_bytes_back (P := Ybaf.prog) wr 22 9 5 ⟨w.heap.size, 0, none⟩ len l Ybaf.underlying22 Ybaf.underlying5 Ybaf.underlying9 (fun j hj => by
        have hj' : j < len := by rw [← HL.out]; exact hj
        have := HOwn.out.cellAt j (by omega)
        rw [byteVals, List.getElem?_map, List.getElem?_eq_getElem hj] at this
        rw [WideShapes.add_plain]
        simpa using this)
      rw [HL.out] at hback
      have hsz : (ByteArray.mk l.toArray).size ≤ maxLen := by
        show l.toArray.size ≤ maxLen
        have := HL.out
        unfold maxLen
        simp; omega
      generalize (ByteArray.mk l.toArray) = id at hback hsz
      cases hok : okId id
      · have HO : Hid (okId id = false) := hok
        clear hok
        go_wp2_with fail
        refine (check_bad F what id _ (by rw [hbel.tape]; exact hF) hsz HO.out).mono ?_
        rintro e w2 ⟨⟨a, rfl⟩, hb⟩
        go_wp2_with fail
        go_quiet ((go_at_call 7; exact Calls.quiet_of_same (model_any _ _ hsz)))
        rw [HO.out]
        go_wp2
        go_ret
        exact ⟨rfl, below_drewN (hbel.trans (hb.mono hbel.size)) _⟩
      · have HO : Hid (okId id = true) := hok
        clear hok
        go_wp2_with fail
        refine (check_ok what id _ hsz HO.out).mono ?_
        rintro e w2 ⟨rfl, hb⟩
        go_wp2_with fail
        go_quiet ((go_at_call 7; exact Calls.quiet_of_same (model_any _ _ hsz)))
        rw [HO.out]
        go_wp2
        go_ret
        exact ⟨rfl, below_drewN (hbel.trans (hb.mono hbel.size)) _⟩

set_option maxHeartbeats 2000000 in
theorem none_walk (F : Interp) (what s : ByteArray) (ao : Option Addr) (cap : Nat) (w : World) (hF : F.answers w.tape) :
    Calls Ybaf.prog 3 #[.string what, .string s, .slice ao 0 cap, .bool false] w fun e w' => e = .returned (.bool true) ∧ Below w.heap.size w w' := by
  obtain ⟨i0, hi, hz0, hz1, hz2⟩ := info_parts info5
  go_enter Ybaf.func3, Ybaf.ntmps3
  go_wp2_with (at_make; refine wpList_make_full _ rfl (.tmp 20) (.tmp 20) 22 rfl w.heap.size 5 i0 (.int .u8 0) 1 Ybaf.underlying22 hi hz0 hz1 .i64 .i64 _ _ 0 rfl rfl rfl rfl (by rw [hz2]; omega) (by unfold maxLen; omega) (Nat.le_refl _) ?_; intro w1 hown0 hg0)
  have hbel : Below w.heap.size w w1 := (Below.refl _ w).grown hg0 (Nat.le_refl _) (fun k hk => by cases hk)
  clear hown0 hg0
  have hback := run_convert_bytes_back (P := Ybaf.prog) w1 22 9 5 ⟨w.heap.size, 0, none⟩ 0 [] Ybaf.underlying22 Ybaf.underlying5 Ybaf.underlying9 (fun j hj => by cases hj)
  have hsz : (ByteArray.mk ([] : List UInt8).toArray).size ≤ maxLen := Nat.zero_le _
  have HO : Hid (okId (ByteArray.mk ([] : List UInt8).toArray) = false) := okId_short (by decide)
  rw [List.length_nil] at hback
  generalize (ByteArray.mk ([] : List UInt8).toArray) = id at hback hsz HO
  refine wp_loop_rounds 1 ?_
  rw [rounds_succ]
  go_wp2_with fail
  refine (check_bad F what id _ (by rw [hbel.tape]; exact hF) hsz HO.out).mono ?_
  rintro e w2 ⟨⟨a, rfl⟩, hb⟩
  go_wp2_with fail
  go_quiet ((go_at_call 7; exact Calls.quiet_of_same (model_any _ _ hsz)))
  rw [HO.out]
  go_wp2
  go_ret
  exact ⟨rfl, below_drewN (hbel.trans (hb.mono hbel.size)) _⟩

end Go.Proofs.YbulkdyjiFmt
