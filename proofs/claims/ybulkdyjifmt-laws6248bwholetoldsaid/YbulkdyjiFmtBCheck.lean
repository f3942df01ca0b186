import Derived.Test.YbulkdyjiFmtBMid
namespace Go.Proofs.YbulkdyjiFmt
open Go.RowKit Go.Extern.Stop Go.Stop Go.Extern

set_option maxHeartbeats 400000 in
theorem errorf_any (F : Interp) (what t : ByteArray) (b : Nat) (w : World) (hF : F.answers w.tape)
    (hc0 : w.cell? ⟨b, 0, none⟩ = some (.iface 9 (.string what))) (hc1 : w.cell? ⟨b, 1, none⟩ = some (.iface 9 (.string t))) (hc2 : w.cell? ⟨b, 2, none⟩ = some (.iface 3 (.int .i64 64))) :
    Calls Ybaf.prog 11 #[.string ⟨#[37, 115, 32, 37, 113, 32, 105, 115, 32, 110, 111, 116, 32, 49, 32, 116, 111, 32, 37, 100, 32, 111, 102, 32, 116, 104, 101, 32, 99, 104, 97, 114, 97, 99, 116, 101, 114, 115, 32, 48, 45, 57, 32, 97, 110, 100, 32, 97, 45, 122]⟩, .slice (some ⟨b, 0, none⟩) 3 3] w fun e w' =>
      (∃ a : Addr, e = .returned (.iface 40 (.pointer (some a)))) ∧ Below w.heap.size w w' := by
  have hF' := answers_open hF
  go_enter Ybaf.func11, Ybaf.ntmps11
  go_wp2
  go_ret
  exact ⟨⟨_, rfl⟩, ((Below.refl _ w).alloc (Nat.le_refl _) _).drew⟩

set_option maxHeartbeats 1000000 in
theorem check_ok (what s : ByteArray) (w : World) (hs : s.size ≤ maxLen) (hok : okId s = true) :
    Calls Ybaf.prog 6 #[.string what, .string s] w fun e w' => e = .returned .nilIface ∧ Below w.heap.size w w' := by
  have HO : Hid (okId s = true) := hok
  clear hok
  go_enter Ybaf.func6, Ybaf.ntmps6
  go_wp2_with fail
  refine (isID_any s _ hs).mono ?_
  rintro e w1 ⟨rfl, hb⟩
  rw [HO.out]
  go_wp2
  go_ret
  exact ⟨rfl, hb⟩

set_option maxHeartbeats 1000000 in
theorem check_bad (F : Interp) (what s : ByteArray) (w : World) (hF : F.answers w.tape) (hs : s.size ≤ maxLen) (hok : okId s = false) :
    Calls Ybaf.prog 6 #[.string what, .string s] w fun e w' => (∃ a : Addr, e = .returned (.iface 40 (.pointer (some a)))) ∧ Below w.heap.size w w' := by
  have HO : Hid (okId s = false) := hok
  clear hok
  go_enter Ybaf.func6, Ybaf.ntmps6
  go_wp2_with fail
  refine (isID_any s _ hs).mono ?_
  rintro e w1 ⟨rfl, hb1⟩
  rw [HO.out]
  go_wp2_with fail
  refine (echo_any F s _ (by rw [hb1.tape]; exact hF)).mono ?_
  rintro e w2 ⟨⟨t, rfl⟩, hb2⟩
  go_wp2_with fail
  refine (errorf_any F what t w2.heap.size _ (by show F.answers w2.tape; rw [hb2.tape, hb1.tape]; exact hF) (by simp) (by simp) (by simp)).mono ?_
  rintro e w3 ⟨⟨a, rfl⟩, hb3⟩
  go_wp2
  go_ret
  have s1 := hb1.size
  have s2 := hb2.size
  refine ⟨⟨a, rfl⟩, (hb1.trans (hb2.mono s1)).trans ?_⟩
  exact ((Below.refl _ w2).alloc (by omega) _).trans (hb3.mono (by simp; omega))

end Go.Proofs.YbulkdyjiFmt
