import Derived.Test.YbulkdyjiFmtCards
import Derived.Test.YbulkdyjiFmtBWalk
import Derived.ProofKit
import Derived.OpenShut
import Derived.ChangeSlices
import Derived.ChangeSame
import Derived.ChangeMaps5
import Derived.JoinedOf
import Derived.Carry
import Derived.Stop.JoinedAt
import Derived.Stop.Texts
import Derived.Stop.JoinedTold
import Derived.SizedLaws
import Derived.SevenToldRow
namespace Go.Proofs.YbulkdyjiFmt
open Go.ChangeShapes Go.WideShapes Go.ChangeAt Go.RowKit Go.Kit
open Go.ChangeMaps (open_string shut_string)
open Go.Extern.Stop Go.Stop Go.Extern

theorem b_own : ownKnob Ybaf.prog.godebug = none := by kernel_rfl
theorem b_laidOut : laidOutB Ybaf.pinned.checked.prog = true := by kernel_rfl
theorem b_cells5 : Ybaf.prog.cellsOf 5 = 1 := by kernel_rfl

/-- All ways of the law, over a slice that is empty or leads to a row of bytes. -/
theorem b_walk (F : Interp) (what s : ByteArray) (ao : Option Addr) (len cap : Nat) (zs : List Int) (raw : Bool) (w : World) (hF : F.answers w.tape) (hs : s.size ≤ maxLen)
    (hlz : len ≤ zs.length) (hr : 0 < len → ∃ b off, ao = some ⟨b, off, none⟩ ∧ b < w.heap.size ∧ ∀ j, j < len → w.cell? ⟨b, off + j, none⟩ = some (.int .u8 (zs.getD j 0)))
    (hwz : ∀ n ∈ zs, (Lit.int .u8 n).wf = true) :
    Calls Ybaf.prog 3 #[.string what, .string s, .slice ao len cap, .bool raw] w fun e w' => e = .returned (.bool true) ∧ Below w.heap.size w w' := by
  by_cases hl : 1048576 < len
  · exact long_walk what s ao len cap raw w hl
  cases raw with
  | true =>
    cases hok : okId s with
    | true => exact raw_ok what s ao len cap w (by omega) hs hok
    | false => exact raw_bad F what s ao len cap w hF (by omega) hs hok
  | false =>
    by_cases h0 : len = 0
    · subst h0
      exact none_walk F what s ao cap w hF
    · obtain ⟨b, off, rfl, hb, hc⟩ := hr (by omega)
      refine pick_walk F what s b off len cap zs w hF (by omega) hb hc (fun j hj => ?_)
      have hm : zs.getD j 0 ∈ zs := by
        have hj' : j < zs.length := by omega
        simp [List.getD, List.getElem?_eq_getElem hj']
      exact bounds_u8 (hwz _ hm)

set_option maxHeartbeats 1600000 in
set_option maxRecDepth 100000 in
theorem b_lifted (os : Os) (started : os.Started) (H : Type) (enc : TypeId × Value → H) :
    ReturnsInTold none {} Ybaf.checked os 3 .any Input.okWide ((OpenSpec.ofChange Rows.lawS6248BWholeSpec).preRow enc Ybaf.prog Ybaf.f3 [] false []) (fun F => ((OpenSpec.ofChange Rows.lawS6248BWholeSpec).at F).post enc Ybaf.prog Ybaf.f3 false true false false) (aloneAtReturn Ybaf.prog) nothingAlways := by
  refine returnsInTold_of_row (C := Ybaf.checked) (s := OpenSpec.ofChange Rows.lawS6248BWholeSpec) (by kernel_rfl) b_own started (by kernel_rfl) Ybaf.func3
    (OpenSpec.witness_stopped (enc := enc) (C := Ybaf.checked) false ⟨#[], #[.string ⟨#[]⟩, .string ⟨#[]⟩, .slice none 0 0, .bool false], []⟩ 8 (by kernel_rfl) (by kernel_rfl) (by kernel_rfl) (by kernel_rfl)) ?_
  intro F W base args ds gs before _ hF hval0 hW _ _ hsz _ _
  have hval : ∀ (j : Nat) t v, Ybaf.f3.params[j]? = some t → args[j]? = some v → Value.okWide Ybaf.prog W .any base t v := hval0
  have hW' := hW
  obtain ⟨p, q, hA0, hV, rfl, _, _⟩ := hW
  have hA : DataW.TrodAll enc Ybaf.prog W 0 (fun _ => true) true Ybaf.f3.params.toList args.toList ds p := hA0
  rw [Ybaf.params3] at hA hval
  obtain ⟨v0, v1, v2, v3, d0, d1, d2, d3, p0, p1, p2, p3, rfl, rfl, rfl, h0, h1, h2, h3⟩ := trodAll_four hA
  obtain ⟨rfl, rfl⟩ := trodVars_none hV
  obtain ⟨what, rfl, rfl, rfl, hwhat⟩ := open_string Ybaf.underlying9 (hval 0 9 v0 rfl rfl) h0
  obtain ⟨s, rfl, rfl, rfl, hs⟩ := open_string Ybaf.underlying9 (hval 1 9 v1 rfl rfl) h1
  obtain ⟨a0, len, cap, rfl⟩ := okWide_slice Ybaf.underlying22 (hval 2 22 v2 rfl rfl)
  obtain ⟨raw, rfl, rfl, rfl⟩ := open_bool Ybaf.underlying4 (hval 3 4 v3 rfl rfl) h3
  have k2 := h2
  have lt2 : ∀ x ∈ p2, x.block < W.heap.size := by obtain ⟨m, hm⟩ := k2; exact DataW.trod_lt m _ _ _ hm
  obtain ⟨zs, hlz, hr, hwz⟩ : ∃ zs : List Int, len ≤ zs.length ∧ (0 < len → ∃ b off, a0 = some ⟨b, off, none⟩ ∧ b < W.heap.size ∧ ∀ j, j < len → W.cell? ⟨b, off + j, none⟩ = some (.int .u8 (zs.getD j 0))) ∧ ∀ n ∈ zs, (Lit.int .u8 n).wf = true := by
    obtain ⟨fuel, hf⟩ := h2
    rcases open_ints Ybaf.underlying22 Ybaf.underlying5 b_cells5 hf with ⟨hcs, _⟩ | ⟨x, l, c, zs, hcs, _, hl, hm, hz, hx, hcell, hwz⟩
    · simp [Value.cells] at hcs
      obtain ⟨rfl, rfl, rfl⟩ := hcs
      exact ⟨[], Nat.le_refl _, fun h => absurd h (Nat.lt_irrefl _), fun n hn => by cases hn⟩
    · simp [Value.cells] at hcs
      obtain ⟨rfl, rfl, rfl⟩ := hcs
      simp only [if_true] at hz
      refine ⟨zs, by omega, fun hpos => ?_, hwz⟩
      obtain ⟨b, off, spot⟩ := x
      have hspot : spot = none := by simpa [Addr.add] using World.cell?_spot (hcell 0 (by omega))
      subst hspot
      have hcell' : ∀ j, j < zs.length → W.cell? ⟨b, off + j, none⟩ = some (.int .u8 (zs.getD j 0)) := fun j hj => by rw [← add_plain]; exact hcell j hj
      refine ⟨b, off, rfl, ?_, fun j hj => hcell' j (by omega)⟩
      simp only [Prod.mk.injEq] at hx
      obtain ⟨_, rfl⟩ := hx
      exact lt2 (.cell b off) (MemPlace.mem_row.2 ⟨0, by omega, by simp⟩)
  clear hA0 hval0
  refine (b_walk F.told what s a0 len cap zs raw W hF hs hlz hr hwz).mono fun e W' ⟨he, hnx⟩ => ?_
  subst he
  exact ⟨_, rfl, _, _, _, [], _, [], hW', trodAll_mk1 (shut_bool Ybaf.underlying4 _), trodAll_mk4 (shut_string Ybaf.underlying9 hwhat) (shut_string Ybaf.underlying9 hs) (Below.trod b_laidOut (by kernel_rfl) (of_decide_eq_true (by kernel_rfl)) k2 hnx lt2) (shut_bool Ybaf.underlying4 raw), rfl, hnx.frame _, fun h => by cases h⟩

theorem b_stops : Ybaf.pinned.checked.prog.stops = ["fmt.Sprintf", "fmt.errorf"] := by kernel_rfl
theorem b_stopKnobs : Ybaf.pinned.checked.prog.stopKnobs = [] := by kernel_rfl
theorem b_quiet (os : Os) : Stop.quiet Ybaf.pinned.checked.prog os := by
  intro k hk
  rw [b_stopKnobs] at hk
  cases hk

theorem b_told : Rows.LawS6248BWholeToldSaid :=
  Claim7.holds_of_told_any (c := Rows.lawS6248BWholeRow) (s := OpenSpec.ofChange Rows.lawS6248BWholeSpec) 3 Ybaf.f3 "fmt.Sprintf" ["fmt.errorf"] [] _ _ _ (by kernel_rfl) rfl rfl rfl b_laidOut (by kernel_rfl) rfl ⟨rfl, rfl, rfl, rfl, rfl, rfl, rfl⟩ rfl rfl (by kernel_rfl) (by kernel_rfl) Ybaf.func3 (by kernel_rfl)
    (of_decide_eq_true (by kernel_rfl)) (of_decide_eq_true (by kernel_rfl)) b_stops.symm rfl b_stopKnobs.symm (by kernel_rfl)
    (by kernel_rfl) (by kernel_rfl) (by kernel_rfl) (by kernel_rfl) (by kernel_rfl) (by kernel_rfl) (by kernel_rfl) (by kernel_rfl) (by kernel_rfl) rfl (by kernel_rfl) rfl rfl
    rfl rfl
    rfl (by kernel_rfl) (by kernel_rfl) (by kernel_rfl) (by decide) (by kernel_rfl)
    (OpenClaim.moreEntering_of (by kernel_rfl) (by kernel_rfl) (by kernel_rfl) (by kernel_rfl) (by kernel_rfl) (by kernel_rfl) (by kernel_rfl) (by kernel_rfl) (by kernel_rfl) (by kernel_rfl))
    ⟨_, WideRow.started_initial, b_quiet _⟩
    (fun os started _ H enc _ => b_lifted os started H enc)
#print axioms b_told
end Go.Proofs.YbulkdyjiFmt
