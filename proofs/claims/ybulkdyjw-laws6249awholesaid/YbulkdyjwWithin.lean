import Derived.Test.YbulkdyjwLeaf
import Derived.Maps.OwnSet
import Derived.Maps.OwnOps
import Derived.Maps.RangeWalk
import Derived.Sort.KeysCollected
namespace Go.Proofs.Ybulkdyjw
open Go.RowKit Go.Maps

theorem law9 : Keyed Yba.prog 9 := string_keyed Yba.underlying9

/-- How a grave in the map reads: three numbers. -/
def gVal (c : Int × Int × Int) : Value := .agg #[.int .u64 c.1, .int .u64 c.2.1, .int .u64 c.2.2]
def gDat (c : Int × Int × Int) : DataW Unit := .agg [.lit (.int .u64 c.1), .lit (.int .u64 c.2.1), .lit (.int .u64 c.2.2)]
def gList : List Value → Option (DataW Unit × List MemPlace)
  | [.int .u64 a, .int .u64 b, .int .u64 c] => some (gDat (a, b, c), [])
  | _ => none
def gElem : Value → Option (DataW Unit × List MemPlace)
  | .agg cs => gList cs.toList
  | _ => none
theorem gElem_mk (c : Int × Int × Int) : gElem (gVal c) = some (gDat c, []) := rfl
theorem gElem_inv {v : Value} {y : DataW Unit × List MemPlace} (h : gElem v = some y) : ∃ c, v = gVal c ∧ y = (gDat c, []) := by
  cases v with
  | agg cs =>
    obtain ⟨l⟩ := cs
    simp only [gElem] at h
    unfold gList at h
    split at h
    · rename_i a b c
      exact ⟨(a, b, c), rfl, (Option.some.inj h).symm⟩
    · cases h
  | _ => simp [gElem] at h
theorem gDat_inj {c d : Int × Int × Int} (h : gDat c = gDat d) : c = d := by
  obtain ⟨a, b, e⟩ := c
  obtain ⟨a', b', e'⟩ := d
  simpa [gDat] using h

def keyL (i : Nat) : Lit := .string (keyB i).data.toList
theorem keyL_inj {i j : Nat} (hi : i < 65536) (hj : j < 65536) (h : keyL i = keyL j) : i = j := by
  refine keyB_inj hi hj ?_
  simp only [keyL, Lit.string.injEq] at h
  exact WideShapes.bytes_inj h
theorem keyOf_key (i : Nat) : keyOf Yba.prog 9 (.string (keyB i)) = some (keyL i) := Go.WideMaps.keyOf_string_mk Yba.underlying9 (by rw [keyB_size]; decide)

/-- The grave of index i. -/
def grave (z : List Int) (i : Nat) : Int × Int × Int := (z.getD i 0, (i : Int), (i : Int) + 1)
/-- What the map reads as behind k rounds. -/
structure Graves (D : DataW Unit) (z : List Int) (k : Nat) : Prop where
  at_ : ∀ i, i < k → ∀ zd, D.atKey (keyL i) zd = gDat (grave z i)
  has_ : ∀ kl, Maps.has D kl = true → ∃ i, i < k ∧ kl = keyL i
  size_ : Maps.size D = k

theorem Graves.start (z : List Int) : Graves (.map []) z 0 := ⟨fun i h => absurd h (Nat.not_lt_zero _), fun kl h => by simp [Maps.has] at h, rfl⟩
theorem Graves.put {D : DataW Unit} {z : List Int} {k : Nat} (h : Graves D z k) (hD : Maps.Tidy D) (hk : k < 65536) : Graves (D.put (keyL k) (gDat (grave z k))) z (k + 1) := by
  have hno : Maps.has D (keyL k) = false := by
    cases hh : Maps.has D (keyL k)
    · rfl
    · obtain ⟨i, hi, e⟩ := h.has_ _ hh
      have := keyL_inj (by omega) hk e.symm
      omega
  refine ⟨fun i hi zd => ?_, fun kl hkl => ?_, ?_⟩
  · by_cases e : i = k
    · subst e
      exact Maps.atKey_put_same (k := keyL i) hD.isMap trivial _ _
    · rw [Maps.atKey_put_other (fun e' => e (keyL_inj (by omega) hk e'))]
      exact h.at_ i (by omega) zd
  · by_cases e : kl = keyL k
    · exact ⟨k, by omega, e⟩
    · rw [Maps.has_put_other e] at hkl
      obtain ⟨i, hi, e'⟩ := h.has_ _ hkl
      exact ⟨i, by omega, e'⟩
  · rw [Maps.size_put hD, hno, h.size_]
    rfl

/-- Some of the first k numbers lies in the arc. -/
def anyIn (z : List Int) (k : Nat) (a b : Int) : Bool := decide (∃ i, i < k ∧ inHalf (z.getD i 0) a b = true)
theorem anyIn_t {z : List Int} {k : Nat} {a b : Int} (i : Nat) (hi : i < k) (h : inHalf (z.getD i 0) a b = true) : anyIn z k a b = true := decide_eq_true ⟨i, hi, h⟩
theorem anyIn_f {z : List Int} {k : Nat} {a b : Int} (h : ∀ i, i < k → inHalf (z.getD i 0) a b = false) : anyIn z k a b = false := decide_eq_false (fun ⟨i, hi, e⟩ => by rw [h i hi] at e; cases e)

/-- What the loop over the map has seen. -/
def Seen (z : List Int) (k : Nat) (a b : Int) (left : Lit → Bool) : Prop := ∀ i, i < k → left (keyL i) = false → inHalf (z.getD i 0) a b = false
theorem Seen.start {D : DataW Unit} {z : List Int} {k : Nat} (h : Graves D z k) (a b : Int) : Seen z k a b (Maps.has D) := fun i hi hl => by
  rw [Maps.has_true_of_atKey (h.at_ i hi)] at hl
  cases hl
theorem Seen.step {z : List Int} {k : Nat} {a b : Int} {left : Lit → Bool} (h : Seen z k a b left) (hk : k ≤ 65536) {j : Nat} (hj : j < k) (hn : inHalf (z.getD j 0) a b = false) : Seen z k a b (fun x => left x && !x.sameKey (keyL j)) := by
  intro i hi hl
  by_cases e : i = j
  · subst e; exact hn
  · refine h i hi ?_
    have : Lit.sameKey (keyL i) (keyL j) = false := Maps.sameKey_ne (fun e' => e (keyL_inj (by omega) (by omega) e'))
    simpa [this] using hl

set_option maxRecDepth 100000 in
set_option maxHeartbeats 1000000 in
theorem within_any (g m n k : Nat) (D : DataW Unit) (z : List Int) (a b : Int) (w : World) (hk : k ≤ 65536) (hgr : Graves D z k) (hc : w.cell? ⟨g, 0, none⟩ = some (.map (some m))) (hown : w.ownsMap Yba.prog 9 gElem m n D) :
    Calls Yba.prog 5 #[.pointer (some ⟨g, 0, none⟩), .int .u64 a, .int .u64 b] w fun e w' => e = .returned (.bool (anyIn z k a b)) ∧ Below w.heap.size w w' := by
  have HG : Hid (Graves D z k) := hgr
  clear hgr
  have hml := hown.lt
  go_enter Yba.func5, Yba.ntmps5
  go_wp2_with (first
    | (at_range; refine wpList_range_own _ rfl _ 25 rfl 9 33 law9 Yba.underlying25 _ m n _ rfl hown ?_; intro w0 hrg0 hg0 hs0)
    | go_in)
  go_frame
  go_loopw [8] (fun _ wr => ∃ (left : Lit → Bool) (cnt : Nat), wr.ranges Yba.prog 9 gElem m w.heap.size n D left cnt ∧ Hid (Seen z k a b left) ∧ Below w.heap.size w wr)
    (fun _ wr => wr.rangeLeft m w.heap.size)
  case atStart => exact ⟨_, _, hrg0, Seen.start HG.out a b, (Below.refl _ _).grown hg0 (Nat.le_refl _) (fun j hj => by cases hj)⟩
  case round =>
    clear hrg0 hg0 hs0
    obtain ⟨left, cnt, hrg, HS, hnx⟩ := hrel
    go_wp2_with (first
      | (at_next; refine wpList_next_ranges _ rfl _ rfl 9 law9 gElem encStr gVal (fun key kl hk => by obtain ⟨x, hx, _⟩ := Maps.keyOf_str Yba.underlying9 hk; exact ⟨x, hx⟩) (fun v y hv => by obtain ⟨c, rfl, _⟩ := gElem_inv hv; exact ⟨c, rfl⟩) m w.heap.size n _ _ _ rfl hrg ?_ ?_)
      | go_in)
    · intro hc0 hl0
      have HF : Hid (anyIn z k a b = false) := anyIn_f (fun i hi => HS.out i hi (hl0 _))
      clear hl0
      go_wp2
      go_ret
      exact ⟨ret_bool HF.out.symm, hnx⟩
    · intro x c1 c2 c3 kl yd yp w2 cnt2 hkey hlk hv hat hrg2 hlt hg2 hs2 hen
      obtain ⟨j, hj, rfl⟩ := HG.out.has_ kl (Maps.has_true_of_atKey hat)
      have hcj : (c1, c2, c3) = grave z j := by
        have e1 := hat (.nil)
        rw [HG.out.at_ j hj] at e1
        rw [gElem_mk] at hv
        have e2 := Option.some.inj hv
        simp only [Prod.mk.injEq] at e2
        exact gDat_inj (e2.1.trans e1.symm)
      have HCJ : Hid ((c1, c2, c3) = grave z j) := hcj
      clear hcj hs2 hat hv hkey hlk
      simp only [gVal] at hen ⊢
      have HC1 : Hid (c1 = z.getD j 0) := congrArg Prod.fst HCJ.out
      cases hin : inHalf c1 a b
      · have HN : Hid (inHalf (z.getD j 0) a b = false) := by rw [Hid, ← HC1.out]; exact hin
        go_wp2_with (go_at_call 6; refine (half_any _ _ _ _).mono ?_; rintro e w' ⟨rfl, rfl⟩)
        go_roundw
        case rel => exact ⟨_, cnt2, hrg2.alloc _, HS.out.step hk hj HN.out, (hnx.grown hg2 hnx.size (fun j hj => by cases hj; exact Nat.le_refl _)).alloc (Nat.le_trans hnx.size hg2.size) _⟩
        case measure => rw [(hrg2.alloc _).left_eq, hrg.left_eq]; exact hlt
      · have HT : Hid (anyIn z k a b = true) := anyIn_t j hj (by rw [← HC1.out]; exact hin)
        go_wp2_with (go_at_call 6; refine (half_any _ _ _ _).mono ?_; rintro e w' ⟨rfl, rfl⟩)
        go_ret
        exact ⟨ret_bool HT.out.symm, (hnx.grown hg2 hnx.size (fun j hj => by cases hj; exact Nat.le_refl _)).alloc (Nat.le_trans hnx.size hg2.size) _⟩

set_option maxRecDepth 100000 in
theorem within_nil (g : Nat) (a b : Int) (w : World) (hc : w.cell? ⟨g, 0, none⟩ = some (.map none)) :
    Calls Yba.prog 5 #[.pointer (some ⟨g, 0, none⟩), .int .u64 a, .int .u64 b] w fun e w' => e = .returned (.bool false) ∧ Below w.heap.size w w' := by
  have hrg := run_range_nilMap (P := Yba.prog) w 25 9 33 Yba.underlying25
  have hnx : ∀ ty, (Instr.next (.pointer (some ⟨w.heap.size, 0, none⟩)) false ty).run Yba.prog (w.alloc (.mapIter none 0 #[] 0)) = _ := fun ty => run_next_nilMap _ ty 0 0 #[]
  go_enter Yba.func5, Yba.ntmps5
  go_wp2
  refine wp_loop_rounds 1 ?_
  rw [rounds_succ]
  go_wp2
  go_ret
  exact ⟨rfl, (Below.refl _ _).alloc (Nat.le_refl _) _⟩

end Go.Proofs.Ybulkdyjw
