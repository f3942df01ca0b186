import Derived.Test.YbulkdyjwDoorQry2
namespace Go.Proofs.YbulkdyjwDoor
open Go.RowKit

/-- WHAT LIES AT A SLICE OF BYTES: the bytes val, in a block below B. -/
structure VIn (w : World) (B : Nat) (ao : Option Addr) (n c : Nat) (val : List UInt8) : Prop where
  len : val.length = n
  le : n ≤ c
  at_ : ∀ a, ao = some a → 0 < n → ∃ pb po, a = ⟨pb, po, none⟩ ∧ pb < B ∧ ∀ j (h : j < val.length), w.cell? ⟨pb, po + j, none⟩ = some (.int .u8 (val[j].toNat : Int))
  nil : ao = none → n = 0 ∧ c = 0

theorem VIn.ofRow {w : World} {B B' n : Nat} {ao : Option Addr} {c : Nat} {p : List UInt8} (h : w.ownsRow B 5 1 (.slice ao n c) n (bc p)) (hB : w.heap.size ≤ B') : VIn w B' ao n c p := by
  have hl : p.length = n := by have := h.1; rw [bc_len] at this; omega
  rcases h.2 with ⟨e, h0⟩ | ⟨g, cap, cur, e, hg, hb, hnc, _, hs, ht⟩
  · cases e
    exact ⟨hl, by omega, (fun _ e => by cases e), fun _ => ⟨rfl, rfl⟩⟩
  · cases e
    refine ⟨hl, hnc, fun a e _ => ?_, fun e => by cases e⟩
    cases e
    refine ⟨g, 0, rfl, Nat.lt_of_lt_of_le (Array.getElem?_eq_some_iff.1 hb).1 hB, fun j hj => ?_⟩
    have := h.cells (g := g) rfl j _ (bc_at p j hj)
    rw [Addr.add_lit] at this
    exact this
theorem VIn.below {w w' : World} {B : Nat} {ao : Option Addr} {n c : Nat} {val : List UInt8} (h : VIn w B ao n c val) (hb : ∀ k, k < B → (0 < n → ao.map (·.block) = some k → w'.heap[k]? = w.heap[k]?)) : VIn w' B ao n c val :=
  ⟨h.len, h.le, fun a ha hn => by
    obtain ⟨pb, po, rfl, hlt, hc⟩ := h.at_ a ha hn
    refine ⟨pb, po, rfl, hlt, fun j hj => ?_⟩
    rw [World.cell?_of_block (w := w) (a := ⟨pb, po + j, none⟩) (hb pb hlt hn (by rw [ha]; rfl))]
    exact hc j hj, h.nil⟩
theorem VIn.cellAt {w : World} {B : Nat} {a : Addr} {n c : Nat} {val : List UInt8} (h : VIn w B (some a) n c val) (i : Nat) (hi : i < val.length) : w.cell? (a.add i) = some (.int .u8 (val[i].toNat : Int)) := by
  obtain ⟨pb, po, rfl, hlt, hc⟩ := h.at_ a rfl (by have := h.len; omega)
  rw [Addr.add_lit]
  exact hc i hi
theorem VIn.cells {w : World} {B : Nat} {ao : Option Addr} {n c : Nat} {val : List UInt8} (h : VIn w B ao n c val) : Lib.BytesIn w ao n (val.map fun b => (b.toNat : Int)) := by
  cases ao with
  | none => rw [(h.nil rfl).1]; exact Lib.BytesIn.nil _ _ _
  | some a =>
    refine Lib.BytesIn.of_cells fun i hi => ?_
    rw [h.cellAt i (by rw [h.len]; exact hi)]
    simp [List.getD, show i < val.length by rw [h.len]; exact hi]

theorem equal_any {w : World} {B B' : Nat} {p1 p2 : Option Addr} {n m c d : Nat} {val : List UInt8} (h1 : VIn w B p1 n c val) (h2 : VIn w B' p2 m d val) :
    Calls Ybad.prog 9 #[.slice p1 n c, .slice p2 m d] w fun e w' => e = .returned (.bool true) ∧ w = w' := by
  refine Calls.mono (Any.bytes_Equal_all Ybad.lays115 p1 p2 n c m d _ _ w (by rw [List.length_map]; exact h1.len) (by rw [List.length_map]; exact h2.len) h1.cells h2.cells) ?_
  rintro e w' ⟨rfl, rfl⟩
  exact ⟨by rw [beq_self_eq_true], rfl⟩

theorem clone_any {w : World} {B : Nat} {ao : Option Addr} {n c : Nat} {val : List UInt8} (h : VIn w B ao n c val) (hn : n ≤ 140737488355328) :
    Calls Ybad.prog 4 #[.slice ao n c] w fun e w' => ∃ ao' c', e = .returned (.slice ao' n c') ∧ w'.ownsRow w.heap.size 5 1 (.slice ao' n c') n (bc val) ∧ Below w.heap.size w w' := by
  cases ao with
  | none =>
    refine Calls.mono (Any.bytes_Clone_nil Ybad.lays4 n c w) ?_
    rintro e w' ⟨rfl, rfl⟩
    obtain ⟨rfl, rfl⟩ := h.nil rfl
    have hv : val = [] := List.eq_nil_of_length_eq_zero h.len
    subst hv
    exact ⟨none, 0, rfl, ⟨rfl, .inl ⟨rfl, rfl⟩⟩, Below.refl _ _⟩
  | some a =>
    refine Calls.mono (Any.bytes_Clone_at Ybad.lays4 a n c (val.map fun b => (b.toNat : Int)) w (by rw [List.length_map]; exact h.len) hn (fun i hi => ?_)) ?_
    · rw [h.cellAt i (by rw [h.len]; exact hi)]
      simp [List.getD, show i < val.length by rw [h.len]; exact hi]
    · rintro e w' ⟨v', rfl, ho, hne, hb⟩
      rw [List.map_map] at ho
      rcases ho.2 with ⟨rfl, h0⟩ | ⟨g, cap, cur, rfl, _⟩
      · exact absurd rfl hne
      · exact ⟨_, _, rfl, ho, hb⟩

theorem wpList_append_str {P : Program} (w : World) {ops : Array Oper} {rest : List Oper} {o : Oper} {a : Act} {Q : Exit → Act → World → Prop} (hgd : o.guard = none) (sl x : Operand) (t u : TypeId)
    (ho : o.op = .call { callee := .builtin .append, args := #[sl, x], argTypes := #[t, u] })
    (base : Nat) (i : TypeInfo) (ht : P.underlying t = some (.slice 5)) (hu : P.underlying u = some .string) (hi : P.info? 5 = some i) (hz : i.zero = some (.int .u8 0))
    (hsize : i.size = 1) (hby : i.bytes = 1)
    (v : Value) (n : Nat) (xs : List Value) (hs : a.eval sl = v) (hown : w.ownsRow base 5 1 v n xs) (s : ByteArray) (hx : a.eval x = .string s)
    (hbytes : n + s.size ≤ 1000000000) (hbase : base ≤ w.heap.size)
    (h : ∀ ao c w', w'.ownsRow base 5 1 (.slice ao (n + s.size) c) (n + s.size) (xs ++ bc s.data.toList) → w.grownBy w' v.ownBlock → wpList P ops Q rest (a.put o.dst (.slice ao (n + s.size) c)) w') : wpList P ops Q (o :: rest) a w := by
  refine Lib.wpList_append_own_string w hgd sl x t u ho base 5 i ht hu hi hz hsize hby v n xs hs hown s hx (by unfold maxLen; omega) (by omega) hbase fun v' w' h2 h3 _ => ?_
  rcases h2.2 with ⟨rfl, h0⟩ | ⟨g, cap, cur, rfl, _⟩
  · have := h none 0 w'
    rw [h0] at this h2
    exact this h2 h3
  · exact h _ _ w' h2 h3

/-- 'append(b, value...)', b of the call's own, value whatever it is (nil too). -/
theorem wpList_append_opt {P : Program} (w : World) {ops : Array Oper} {rest : List Oper} {o : Oper} {a : Act} {Q : Exit → Act → World → Prop} (hgd : o.guard = none) (s x : Operand) (t : TypeId)
    (ho : o.op = .call { callee := .builtin .append, args := #[s, x], argTypes := #[t, t] })
    (base : Nat) (i : TypeInfo) (ht : P.underlying t = some (.slice 5)) (hi : P.info? 5 = some i) (hz : i.zero = some (.int .u8 0))
    (hsize : i.size = 1) (hby : i.bytes = 1)
    (sa : Option Addr) (n sc : Nat) (xs : List Value) (hs : a.eval s = .slice sa n sc) (hown : w.ownsRow base 5 1 (.slice sa n sc) n xs)
    (ao : Option Addr) (m c B : Nat) (val : List UInt8) (hx : a.eval x = .slice ao m c) (hv : VIn w B ao m c val)
    (hbytes : n + m ≤ 1000000000) (hbase : base ≤ w.heap.size)
    (h : ∀ ao' c' w', w'.ownsRow base 5 1 (.slice ao' (n + m) c') (n + m) (xs ++ bc val) → w.grownBy w' (Value.slice sa n sc).ownBlock → wpList P ops Q rest (a.put o.dst (.slice ao' (n + m) c')) w') : wpList P ops Q (o :: rest) a w := by
  cases ao with
  | none =>
    obtain ⟨rfl, rfl⟩ := hv.nil rfl
    have hv' : val = [] := List.eq_nil_of_length_eq_zero hv.len
    subst hv'
    refine wpList_plain hgd fun K hK' => ?_
    have hrun := run_append_owned_none (P := P) w base t o.type 5 i 1 ht hi _ n xs hown
    unfold Oper.wp
    simp [execOp, ho, resolve, invoke, builtin, hs, hx, hrun, Result.andThen]
    exact hK' _ _ (h sa sc w (by simpa [Lib.byteCells] using hown) (World.grownBy.refl _ _))
  | some ad =>
    refine wpList_append_shape w hgd s x t ho base 5 i (.int .u8 0) 1 1 ht hi hz hsize hby rfl (by decide) _ n xs hs hown ad m c (bc val) hx (by rw [bc_len, hv.len, Nat.mul_one]) (fun j u hu => ?_) (bc_one val) (by unfold maxLen; omega) (by omega) hbase fun ao' c' w' h2 h3 _ => h ao' c' w' h2 h3
    have hj : j < val.length := by have := (List.getElem?_eq_some_iff.1 hu).1; rwa [bc_len] at this
    rw [hv.cellAt j hj]
    rw [bc_at val j hj] at hu
    exact hu

theorem VIn.on {W w : World} {ao : Option Addr} {n c : Nat} {val : List UInt8} (h : VIn W W.heap.size ao n c val) (hb : Below W.heap.size W w) : VIn w W.heap.size ao n c val := h.below fun k hk _ _ => hb.block k hk
theorem nums_at {w : World} {b : Nat} {hops : Int} {final : Bool} {sil : Int} {kl n : Nat} {f : Int} (hf : f = if final then 1 else 0) (h : w.heap[b]? = some (.cells #[.int .i64 hops, .int .i64 f, .int .i64 (sil.tdiv 1000000), .int .i64 (kl : Int), .int .i64 (n : Int)] 25 (0, 0))) (k : Nat) (hk : k < 5) :
    w.cell? ⟨b, k, none⟩ = some (.int .i64 ((nsOf hops final sil kl n).getD k 0)) := by
  subst hf
  rw [cell_of_row _ _ _ _ _ _ h]
  match k, hk with
  | 0, _ => rfl
  | 1, _ => rfl
  | 2, _ => rfl
  | 3, _ => rfl
  | 4, _ => rfl

end Go.Proofs.YbulkdyjwDoor
