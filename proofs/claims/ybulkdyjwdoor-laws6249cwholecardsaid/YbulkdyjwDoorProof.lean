/-
  The proof of Rows.LawS6249CWholeCardSaid: the row (the walk's law at every input), then the tied card.
-/
import Derived.Test.YbulkdyjwDoorRows
import Derived.Test.YbulkdyjwDoorTie
import Derived.Test.YbulkdyjwDoorCards
import Derived.Test.YbulkdyjwDoorWalk
import Derived.WalkKit
import Derived.ProofKit
import Derived.OpenShut
import Derived.ShutString
import Derived.ChangeOld
import Derived.Below
import Derived.LaidMore
import Derived.Stop.LaidErr
import Derived.Stop.Joined
import Derived.SevenTiedAt
namespace Go.Proofs.YbulkdyjwDoor.lawS6249CWhole
open Go.ChangeShapes Go.WideShapes Go.ChangeAt Go.RowKit Go.Proofs.YbulkdyjwDoor
open Go.ChangeMaps (open_string shut_string)
set_option linter.unusedVariables false

theorem own : ownKnob Ybad.prog.godebug = none := by kernel_rfl
theorem laidOut : laidOutB Ybad.prog = true := by kernel_rfl
theorem door_met (os : Os) (args : Array Value) : laidMetH Ybad.prog Rows.lawS6249CWholeRow.laid ((World.doorLaid Ybad.prog 400 os).forCall (fun _ _ => 0) ⟨#[], args, []⟩).memory :=
  laidMetH_of_parts3 (fuel := 8) (laidMet_of_run' 8 (by kernel_rfl) (by kernel_rfl)) (by kernel_rfl) (by kernel_rfl)

theorem tab_of_laid {W : World} (h : laidMetH Ybad.prog Rows.lawS6249CWholeRow.laid W) : Lib.TabIs Ybad.prog W "internal/strconv.uint64pow10" .u64 Lib.pow10Tab := by
  rw [MakeChecks.laidMetH_plain _ _ _ (by kernel_rfl)] at h
  have h2 := laidMet.tail (laidMet.tail h)
  exact Lib.tabIs_of_head (g := 1) (t := 70) (e := 43) (n := 20) (by kernel_rfl) (by kernel_rfl) (by kernel_rfl) Ybad.underlying43 (by kernel_rfl) (by kernel_rfl) h2

/-- A slice of bytes that came in, as the walk wants it. -/
theorem vin_of {W : World} {a0 : Option Addr} {len0 cap0 : Nat} {zs : List Int}
    (h : (a0 = none ∧ len0 = 0 ∧ cap0 = 0) ∨ ∃ x, a0 = some x ∧ len0 ≤ cap0 ∧ zs.length = cap0 ∧ (∀ i, i < zs.length → W.cell? (x.add i) = some (.int .u8 (zs.getD i 0))) ∧ ∀ n ∈ zs, (Lit.int .u8 n).wf = true) :
    ∃ val : List UInt8, VIn W W.heap.size a0 len0 cap0 val := by
  rcases h with ⟨rfl, rfl, rfl⟩ | ⟨x, rfl, hl, hz, hc, hw⟩
  · exact ⟨[], rfl, Nat.le_refl _, (fun _ e => by cases e), fun _ => ⟨rfl, rfl⟩⟩
  · refine ⟨(zs.take len0).map fun z => UInt8.ofNat z.toNat, by simp; omega, hl, fun a ha hp => ?_, fun e => by cases e⟩
    cases ha
    obtain ⟨b, off, spot⟩ := x
    have hspot : spot = none := by simpa [Addr.add] using World.cell?_spot (hc 0 (by omega))
    subst hspot
    have hc' : ∀ j, j < zs.length → W.cell? ⟨b, off + j, none⟩ = some (.int .u8 (zs.getD j 0)) := fun j hj => by rw [← add_plain]; exact hc j hj
    refine ⟨b, off, rfl, ?_, fun j hj => ?_⟩
    · have h0 := hc' 0 (by omega)
      apply Classical.byContradiction
      intro hn
      have : W.heap[b]? = none := Array.getElem?_eq_none (Nat.le_of_not_lt hn)
      simp [World.cell?, this] at h0
    · have hj' : j < zs.length := by
        rw [List.length_map, List.length_take] at hj
        omega
      have hb := bounds_u8 (hw zs[j] (List.getElem_mem hj'))
      rw [hc' j hj']
      simp [List.getD, hj']
      omega

set_option maxRecDepth 100000 in
theorem lifted (os : Os) (started : os.Started) (H : Type) (enc : TypeId × Value → H) :
    ReturnsInHanded {} Ybad.checked os 3 .any (fun w args => (Rows.lawS6249CWholeSpec.pre enc Ybad.prog Ybad.f3 [] false w args ∧ laidMetH Ybad.prog Rows.lawS6249CWholeRow.laid w) ∧ sizedMet enc Ybad.prog Ybad.f3 (OpenSpec.ofChange Rows.lawS6249CWholeSpec) false w args)
      (Rows.lawS6249CWholeSpec.post enc Ybad.prog Ybad.f3 false true false false) := by
  refine returnsInHanded_of_change_and (C := Ybad.checked) (X := fun w _ => laidMetH Ybad.prog Rows.lawS6249CWholeRow.laid w) (fun _ _ _ hh h => h.of_heap hh) own started (by kernel_rfl) Ybad.func3
    (ChangeSpec.witness_shaped (enc := enc) (C := Ybad.checked) (os := os) (X := fun w _ => laidMetH Ybad.prog Rows.lawS6249CWholeRow.laid w) false (World.doorLaid Ybad.prog 400 os) #[.string ⟨#[]⟩, .string ⟨#[]⟩, .slice none 0 0, .int .i64 0, .bool false, .int .i64 0, .int .u16 0, .bool false] 8 rfl (World.shaped_of_RefB (by kernel_rfl) (by kernel_rfl)) (by kernel_rfl) (by kernel_rfl) (by kernel_rfl) (door_met os _)) ?_
  intro W base args ds gs before hval0 hW _ hsz0 hL _
  have hval : ∀ (j : Nat) t v, Ybad.f3.params[j]? = some t → args[j]? = some v → Value.okWide Ybad.prog W .any base t v := hval0
  have hsz : (DataW.weightsEach Ybad.prog (Ybad.f3.params.toList ++ []) (ds ++ gs)).all (· ≤ reachBytes) = true := hsz0
  have hW' := hW
  obtain ⟨p, q, hA0, hV, rfl, hfz, hnd⟩ := hW
  have hA : DataW.TrodAll enc Ybad.prog W 0 (fun _ => true) true Ybad.f3.params.toList args.toList ds p := hA0
  rw [Ybad.params3] at hA hval hsz
  obtain ⟨v0, vs0, d0, ds0, p0, q0, hargs, rfl, rfl, h0, r0⟩ := trodAll_cons hA
  obtain ⟨v1, vs1, d1, ds1, p1, q1, rfl, rfl, rfl, h1, r1⟩ := trodAll_cons r0
  obtain ⟨v2, vs2, d2, ds2, p2, q2, rfl, rfl, rfl, h2, r2⟩ := trodAll_cons r1
  obtain ⟨v3, vs3, d3, ds3, p3, q3, rfl, rfl, rfl, h3, r3⟩ := trodAll_cons r2
  obtain ⟨v4, vs4, d4, ds4, p4, q4, rfl, rfl, rfl, h4, r4⟩ := trodAll_cons r3
  obtain ⟨v5, vs5, d5, ds5, p5, q5, rfl, rfl, rfl, h5, r5⟩ := trodAll_cons r4
  obtain ⟨v6, vs6, d6, ds6, p6, q6, rfl, rfl, rfl, h6, r6⟩ := trodAll_cons r5
  obtain ⟨v7, vs7, d7, ds7, p7, q7, rfl, rfl, rfl, h7, r7⟩ := trodAll_cons r6
  obtain ⟨rfl, rfl, rfl⟩ := trodAll_nil r7
  obtain rfl : args = #[v0, v1, v2, v3, v4, v5, v6, v7] := by cases args; simp_all
  obtain ⟨rfl, rfl⟩ := trodVars_none hV
  obtain ⟨verb, rfl, rfl, rfl, hs0⟩ := open_string Ybad.underlying9 (hval 0 9 v0 rfl rfl) h0
  obtain ⟨key, rfl, rfl, rfl, hs1⟩ := open_string Ybad.underlying9 (hval 1 9 v1 rfl rfl) h1
  obtain ⟨a2, len2, cap2, rfl⟩ := okWide_slice Ybad.underlying22 (hval 2 22 v2 rfl rfl)
  obtain ⟨hops, rfl, rfl, rfl, w3⟩ := open_int Ybad.underlying3 (hval 3 3 v3 rfl rfl) h3
  obtain ⟨final, rfl, rfl, rfl⟩ := open_bool Ybad.underlying4 (hval 4 4 v4 rfl rfl) h4
  obtain ⟨sil, rfl, rfl, rfl, w5⟩ := open_int Ybad.underlying2 (hval 5 2 v5 rfl rfl) h5
  obtain ⟨bs, rfl, rfl, rfl, w6⟩ := open_int Ybad.underlying23 (hval 6 23 v6 rfl rfl) h6
  obtain ⟨fail, rfl, rfl, rfl⟩ := open_bool Ybad.underlying4 (hval 7 4 v7 rfl rfl) h7
  have k2 := h2
  have lt2 : ∀ x ∈ p2, x.block < W.heap.size := by obtain ⟨m, hm⟩ := k2; exact DataW.trod_lt m _ _ _ hm
  have hu5 : Ybad.prog.bytesOf 5 = 1 := by kernel_rfl
  obtain ⟨hz0, hz1, hz2, val, hv⟩ : verb.size ≤ 140737488355328 ∧ key.size ≤ 140737488355328 ∧ len2 ≤ 140737488355328 ∧ ∃ val, VIn W W.heap.size a2 len2 cap2 val := by
    obtain ⟨fuel, hf⟩ := h2
    rcases open_ints Ybad.underlying22 Ybad.underlying5 (by kernel_rfl) hf with ⟨hcs, hx⟩ | ⟨x, l, c, zs, hcs, _, hl, hm, hz, hx, hcell, hwz⟩
    · simp [Value.cells] at hcs
      obtain ⟨rfl, rfl, rfl⟩ := hcs
      cases hx
      simp [DataW.weightsEach, DataW.weights, reachBytes] at hsz
      exact ⟨by have := of_decide_eq_true hsz.1; omega, by have := of_decide_eq_true hsz.2; omega, by omega, vin_of (zs := []) (.inl ⟨rfl, rfl, rfl⟩)⟩
    · simp [Value.cells] at hcs
      obtain ⟨rfl, rfl, rfl⟩ := hcs
      cases hx
      simp [DataW.weightsEach, DataW.weights, reachBytes, Ybad.underlying22, hu5, lits] at hsz
      have hz' : zs.length = cap2 := by simpa using hz
      exact ⟨by have := of_decide_eq_true hsz.1; omega, by have := of_decide_eq_true hsz.2.1; omega, by have := of_decide_eq_true hsz.2.2.1; omega, vin_of (.inr ⟨x, rfl, hl, hz', hcell, hwz⟩)⟩
  clear hA0 hval0
  refine (law_all verb key a2 len2 cap2 val hops sil bs final fail W hv (bounds_i64 w3).1 (bounds_i64 w3).2 (bounds_i64 w5).1 (bounds_i64 w5).2 (bounds_u16 w6).1 (bounds_u16 w6).2 hz0 hz1 hz2 (tab_of_laid hL)).mono fun e W' ⟨he, bel⟩ => ?_
  subst he
  exact ⟨_, rfl, _, _, _, [], _, [], hW', trodAll_mk1 (shut_bool Ybad.underlying4 _), (trodAll_cons_mk (shut_string Ybad.underlying9 hs0) (trodAll_cons_mk (shut_string Ybad.underlying9 hs1) (trodAll_cons_mk (Below.trod laidOut (by kernel_rfl) (of_decide_eq_true (by kernel_rfl)) k2 bel lt2) (trodAll_cons_mk (shut_int Ybad.underlying3 w3) (trodAll_cons_mk (shut_bool Ybad.underlying4 _) (trodAll_cons_mk (shut_int Ybad.underlying2 w5) (trodAll_cons_mk (shut_int Ybad.underlying23 w6) (trodAll_cons_mk (shut_bool Ybad.underlying4 _) trodAll_mk0)))))))), rfl, bel.frame _, fun h => by cases h⟩

theorem over : Rows.LawS6249CWholeSaid :=
  OpenClaim.holds_of_wide 3 Ybad.f3 rfl rfl rfl rfl rfl rfl rfl ⟨rfl, rfl, rfl, rfl, rfl⟩ rfl rfl rfl rfl rfl (by kernel_rfl) Ybad.func3 (by kernel_rfl)
    (of_decide_eq_true (by kernel_rfl)) (by unfold Func.isWrapper; first | (rw [if_pos (by decide +kernel)]; kernel_rfl) | (rw [if_neg (by decide +kernel)]; exact ⟨rfl, rfl⟩))
    (fun os started H enc _ => lifted os started H enc)

/-- ████ THE STATEMENT: THE TIED CARD ████ -/
theorem proved : Rows.LawS6249CWholeCardSaid :=
  Claim7.holds_tied_plain_at .later [] [.data, .data, .data, .sentinel] true (true, "300e80a021165e47c305d8f4764d5507df81a03f005139de6870e8f53735a92b") true
    over (fun _ h => by cases h) (by kernel_rfl) (fun _ h => by cases h) lawS6249CWhole_row_tie rfl ⟨rfl, rfl⟩ (by kernel_rfl) rfl
    (fun f fn hf hfn => by
      obtain rfl : f = 3 := Option.some.inj ((show Ybad.prog.funcNamed "example.com/ringwise/ringwise/client.LawS6249CWhole" = some 3 by kernel_rfl).symm.trans hf) |>.symm
      obtain rfl : fn = Ybad.f3 := (Option.some.inj (Ybad.func3.symm.trans hfn)).symm
      exact ⟨by kernel_rfl, fun j t ht => by
        rw [Ybad.params3] at ht
        have hm : t ∈ [9, 9, 22, 3, 4, 2, 23, 4] := by simpa using Array.mem_of_getElem? ht
        have hall : ([9, 9, 22, 3, 4, 2, 23, 4].all fun u => !Ybad.prog.wantsStandIn u) = true := by kernel_rfl
        exact (show Ybad.prog.wantsStandIn t = false by simpa using List.all_eq_true.1 hall t hm)⟩)
    (by kernel_rfl)
#print axioms proved
end Go.Proofs.YbulkdyjwDoor.lawS6249CWhole
