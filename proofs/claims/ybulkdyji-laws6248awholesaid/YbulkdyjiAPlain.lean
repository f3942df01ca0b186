import Derived.Test.YbulkdyjiMax
namespace Go.Proofs.Ybulkdyji
open Go.RowKit Go.Maps

/-- The integer keys of the datum are just the numbers of the list. -/
def Keys (D : DataW Unit) (l : List Int) : Prop := ∀ x, Maps.has D (.int .i64 x) = true ↔ x ∈ l
theorem Keys.start : Keys (.map []) [] := fun x => by simp [Maps.has]
theorem Keys.put {D : DataW Unit} {l : List Int} (hD : Maps.IsMap D) (h : Keys D l) (x : Int) (d : DataW Unit) : Keys (D.put (.int .i64 x) d) (l ++ [x]) := by
  intro z
  rw [List.mem_append, List.mem_singleton]
  by_cases e : z = x
  · subst e
    rw [Maps.has_put_same (k := .int .i64 z) hD trivial]
    simp
  · rw [Maps.has_put_other (by simpa using e), h z]
    simp [e]
theorem take_succ_getD (z : List Int) (k : Nat) (h : k < z.length) : z.take (k + 1) = z.take k ++ [z.getD k 0] := by
  rw [List.take_succ_eq_append_getElem h]
  simp [List.getD, List.getElem?_eq_getElem h]

/-- What 'want' holds behind k rounds. -/
def MaxTo (z : List Int) (k : Nat) (m : Int) : Prop := (k = 0 ∧ m = -1) ∨ (0 < k ∧ m ∈ z.take k ∧ ∀ x ∈ z.take k, x ≤ m)
theorem MaxTo.start (z : List Int) : MaxTo z 0 (-1) := .inl ⟨rfl, rfl⟩
theorem MaxTo.up {z : List Int} {k : Nat} {m y : Int} (hk : k < z.length) (h : MaxTo z k m) (hy : y = z.getD k 0) (hg : k = 0 ∨ m < y) : MaxTo z (k + 1) y := by
  subst hy
  refine .inr ⟨Nat.succ_pos _, ?_, fun x hx => ?_⟩
  · rw [take_succ_getD z k hk]; simp
  · rw [take_succ_getD z k hk, List.mem_append, List.mem_singleton] at hx
    rcases h with ⟨h0, _⟩ | ⟨h0, _, h2⟩
    · subst h0
      rcases hx with hx | hx
      · simp at hx
      · omega
    · rcases hx with hx | hx
      · have := h2 x hx
        rcases hg with e | e <;> omega
      · omega
theorem MaxTo.stay {z : List Int} {k : Nat} {m y : Int} (hk : k < z.length) (h : MaxTo z k m) (hy : y = z.getD k 0) (h0 : k ≠ 0) (hg : y ≤ m) : MaxTo z (k + 1) m := by
  subst hy
  rcases h with ⟨e, _⟩ | ⟨_, h1, h2⟩
  · exact absurd e h0
  · refine .inr ⟨Nat.succ_pos _, ?_, fun x hx => ?_⟩
    · rw [take_succ_getD z k hk, List.mem_append]; exact .inl h1
    · rw [take_succ_getD z k hk, List.mem_append, List.mem_singleton] at hx
      rcases hx with hx | hx
      · exact h2 x hx
      · omega
theorem max_one {D : DataW Unit} {z : List Int} {k : Nat} {m m' : Int} (hk : 0 < k) (hK : Keys D (z.take k)) (h : MaxTo z k m) (hm : (∀ x, Maps.has D (.int .i64 x) = false) ∧ m' = -1 ∨ Maps.has D (.int .i64 m') = true ∧ ∀ x, Maps.has D (.int .i64 x) = true → x ≤ m') : m' = m := by
  rcases h with ⟨e, _⟩ | ⟨_, h1, h2⟩
  · omega
  · rcases hm with ⟨h3, _⟩ | ⟨h3, h4⟩
    · have := (hK m).2 h1
      rw [h3 m] at this
      cases this
    · have a := h4 m ((hK m).2 h1)
      have b := h2 m' ((hK m').1 h3)
      omega

theorem ownsMap_below {P : Program} {k : TypeId} {R : Value → Option (DataW Unit × List MemPlace)} {w w' : World} {b n : Nat} {D : DataW Unit} (h : w.ownsMap P k R b n D) (hb : Below w.heap.size w w') : w'.ownsMap P k R b n D := by
  have hlt := h.lt
  obtain ⟨es, clock, he, r⟩ := h
  exact ⟨es, clock, (hb.block b hlt).trans he, r⟩

end Go.Proofs.Ybulkdyji
