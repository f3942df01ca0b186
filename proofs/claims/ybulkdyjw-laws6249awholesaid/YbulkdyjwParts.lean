import Derived.Test.YbulkdyjwWithin
import Derived.Laws.Rows
import Derived.Laws.OwnMore
namespace Go.Proofs.Ybulkdyjw
open Go.RowKit Go.Maps

theorem hide {p : Prop} (h : p) : Hid p := h
theorem unhide {p : Prop} (h : Hid p) : p := h

theorem wrap_u64' (n : Int) : IntKind.u64.wrap n = n % 18446744073709551616 := by simp [IntKind.wrap, IntKind.signed, IntKind.bits]
/-- The law's own test, at two ends that differ. -/
theorem model_t {x a b : Int} (hx : 0 ≤ x ∧ x ≤ 18446744073709551615) (ha : 0 ≤ a ∧ a ≤ 18446744073709551615) (hb : 0 ≤ b ∧ b ≤ 18446744073709551615) (hne : a ≠ b) (h : inHalf x a b = true) :
    IntKind.u64.wrap (IntKind.u64.wrap (x - a) - 1) < IntKind.u64.wrap (b - a) := by
  have h' := of_decide_eq_true h
  simp only [wrap_u64']
  omega
theorem model_f {x a b : Int} (hx : 0 ≤ x ∧ x ≤ 18446744073709551615) (ha : 0 ≤ a ∧ a ≤ 18446744073709551615) (hb : 0 ≤ b ∧ b ≤ 18446744073709551615) (_hne : a ≠ b) (h : inHalf x a b = false) :
    IntKind.u64.wrap (b - a) ≤ IntKind.u64.wrap (IntKind.u64.wrap (x - a) - 1) := by
  have h' := of_decide_eq_false h
  simp only [wrap_u64']
  omega
theorem same_t {x a b : Int} (h : a = b) : inHalf x a b = true := inHalf_t (by omega)

/-- The cells of the list 'order' behind k rounds. -/
def burials : Nat → List Value
  | 0 => []
  | k + 1 => burials k ++ [.string (keyB k), .int .u64 ((k : Int) + 1)]
theorem burials_len : ∀ k, (burials k).length = k * 2
  | 0 => rfl
  | k + 1 => by rw [burials, List.length_append, burials_len k]; simp; omega
theorem burials_at : ∀ {k i : Nat}, i < k → (burials k)[i * 2]? = some (.string (keyB i)) ∧ (burials k)[i * 2 + 1]? = some (.int .u64 ((i : Int) + 1))
  | 0, i, h => absurd h (Nat.not_lt_zero _)
  | k + 1, i, h => by
    rw [burials]
    by_cases e : i = k
    · subst e
      rw [List.getElem?_append_right (by rw [burials_len]; omega), List.getElem?_append_right (by rw [burials_len]; omega), burials_len]
      have e1 : i * 2 - i * 2 = 0 := by omega
      have e2 : i * 2 + 1 - i * 2 = 1 := by omega
      rw [e1, e2]
      exact ⟨rfl, rfl⟩
    · have hl := burials_len k
      rw [List.getElem?_append_left (by omega), List.getElem?_append_left (by omega)]
      exact burials_at (by omega)

/-- The graveyard in memory. -/
def Yard (w : World) (g : Nat) (mv v : Value) (size n : Int) : Prop := w.heap[g]? = some (.cells #[mv, v, .int .i64 size, .int .u64 n] 28 (0, 0))
section
variable {w w' : World} {g : Nat} {mv v : Value} {size n : Int}
theorem Yard.lt (h : Yard w g mv v size n) : g < w.heap.size := (Array.getElem?_eq_some_iff.1 h).1
theorem Yard.c0 (h : Yard w g mv v size n) : w.cell? ⟨g, 0, none⟩ = some mv := by rw [cell_of_row _ _ _ _ _ _ h]; rfl
theorem Yard.c1 (h : Yard w g mv v size n) : w.cell? ⟨g, 1, none⟩ = some v := by rw [cell_of_row _ _ _ _ _ _ h]; rfl
theorem Yard.c2 (h : Yard w g mv v size n) : w.cell? ⟨g, 2, none⟩ = some (.int .i64 size) := by rw [cell_of_row _ _ _ _ _ _ h]; rfl
theorem Yard.c3 (h : Yard w g mv v size n) : w.cell? ⟨g, 3, none⟩ = some (.int .u64 n) := by rw [cell_of_row _ _ _ _ _ _ h]; rfl
theorem Yard.f (h : Yard w g mv v size n) (j : Nat) : w.frozen? ⟨g, j, none⟩ = false := frozen_of_row _ _ _ _ _ h
theorem Yard.kept (h : Yard w g mv v size n) {row : Option Nat} (hg : w.grownBy w' row) (hne : some g ≠ row) : Yard w' g mv v size n := (hg.block g h.lt hne).trans h
theorem Yard.below (h : Yard w g mv v size n) {B : Nat} (hb : Below B w w') (hl : g < B) : Yard w' g mv v size n := (hb.block g hl).trans h
theorem Yard.alloc (h : Yard w g mv v size n) (o : Obj) : Yard (w.alloc o) g mv v size n := h.kept (World.grownBy_alloc w o none) (by simp)
theorem Yard.set1 (h : Yard w g mv v size n) (v' : Value) : Yard (w.setCell ⟨g, 1, none⟩ v') g mv v' size n := by
  have := heap_setCell_same w g 1 _ 28 v' h
  exact this
theorem Yard.set0 (h : Yard w g mv v size n) (v' : Value) : Yard (w.setCell ⟨g, 0, none⟩ v') g v' v size n := by
  have := heap_setCell_same w g 0 _ 28 v' h
  exact this
end

theorem ownsMap_below {P : Program} {k : TypeId} {R : Value → Option (DataW Unit × List MemPlace)} {w w' : World} {b n : Nat} {D : DataW Unit} (h : w.ownsMap P k R b n D) (hb : Below w.heap.size w w') : w'.ownsMap P k R b n D := by
  have hlt := h.lt
  obtain ⟨es, clock, he, r⟩ := h
  exact ⟨es, clock, (hb.block b hlt).trans he, r⟩
theorem ownsRow_below {w w' : World} {base e size : Nat} {v : Value} {n : Nat} {xs : List Value} (h : w.ownsRow base e size v n xs) (hb : Below w.heap.size w w') : w'.ownsRow base e size v n xs := by
  obtain ⟨h1, h2⟩ := h
  refine ⟨h1, ?_⟩
  rcases h2 with h2 | ⟨g, cap, cur, r1, r2, r3, r4⟩
  · exact .inl h2
  · exact .inr ⟨g, cap, cur, r1, r2, (hb.block g (Array.getElem?_eq_some_iff.1 r3).1).trans r3, r4⟩

theorem key_below (i : Nat) (w : World) (hi : i < 65536) : Calls Yba.prog 4 #[.int .i64 i] w fun e w' => e = .returned (.string (keyB i)) ∧ Below w.heap.size w w' :=
  (key_any i w hi).mono fun e w' ⟨he, o, hw⟩ => ⟨he, by subst hw; exact (Below.refl _ w).alloc (Nat.le_refl _) o⟩

/-- 'append' onto a row of the call's own, the new slice's shape written out. -/
theorem wpList_append_shape {P : Program} (w : World) {ops : Array Oper} {rest : List Oper} {o : Oper} {a : Act} {Q : Exit → Act → World → Prop} (hgd : o.guard = none) (s x : Operand) (t : TypeId)
    (ho : o.op = .call { callee := .builtin .append, args := #[s, x], argTypes := #[t, t] })
    (base : Nat) (e : TypeId) (i : TypeInfo) (z : Value) (size bytes : Nat) (ht : P.underlying t = some (.slice e)) (hi : P.info? e = some i) (hz : i.zero = some z)
    (hsize : i.size = size) (hby : i.bytes = bytes) (hzs : z.cells.size = size) (hsz : 0 < size)
    (v : Value) (n : Nat) (xs : List Value) (hs : a.eval s = v) (hown : w.ownsRow base e size v n xs)
    (ad : Addr) (m c : Nat) (news : List Value) (hx : a.eval x = .slice (some ad) m c) (hl : news.length = m * size) (hnews : ∀ j u, news[j]? = some u → w.cell? (ad.add j) = some u) (h1 : ∀ u ∈ news, u.oneCell' = true)
    (h63 : n + m ≤ maxLen) (hbytes : (n + m) * bytes ≤ 140737488355328) (hbase : base ≤ w.heap.size)
    (h : ∀ ao c' w', w'.ownsRow base e size (.slice ao (n + m) c') (n + m) (xs ++ news) → w.grownBy w' v.ownBlock → wpList P ops Q rest (a.put o.dst (.slice ao (n + m) c')) w') : wpList P ops Q (o :: rest) a w := by
  refine wpList_append_own w hgd s x t ho base e i z size bytes ht hi hz hsize hby hzs hsz v n xs hs hown ad m c news hx hl hnews h1 h63 hbytes hbase fun v' w' h2 h3 _ => ?_
  rcases h2.2 with ⟨rfl, h0⟩ | ⟨g, cap, cur, rfl, _⟩
  · have := h none 0 w'
    rw [h0] at this h2
    exact this h2 h3
  · exact h _ _ w' h2 h3

theorem ownsRow_pos {w : World} {base e size : Nat} {v : Value} {n : Nat} {xs : List Value} (h : w.ownsRow base e size v n xs) (hn : 0 < n) : ∃ g c, v = .slice (some ⟨g, 0, none⟩) n c := by
  rcases h.2 with ⟨_, h0⟩ | ⟨g, cap, cur, rfl, _⟩
  · omega
  · exact ⟨g, cap, rfl⟩
theorem cell_alloc_lt {w : World} {b o : Nat} {v : Value} (h : w.cell? ⟨b, o, none⟩ = some v) : ∀ ob, (w.alloc ob).cell? ⟨b, o, none⟩ = some v := fun ob => by
  have hb : b < w.heap.size := by
    apply Classical.byContradiction
    intro hn
    have : w.heap[b]? = none := Array.getElem?_eq_none (Nat.le_of_not_lt hn)
    simp [World.cell?, this] at h
  rw [((Below.refl w.heap.size w).alloc (Nat.le_refl _) ob).cell (p := ⟨b, o, none⟩) hb]
  exact h

theorem info35 : (Yba.prog.info? 35).map (fun i => (i.zero, i.size, i.bytes)) = some (some (.agg #[.string ⟨#[]⟩, .int .u64 0]), 2, 24) := by kernel_rfl
theorem zero33 (w : World) : (zeroValue 33).run Yba.prog w = .ok (gVal (0, 0, 0)) w := by kernel_rfl

end Go.Proofs.Ybulkdyjw
