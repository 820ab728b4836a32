/- append of one element to a slice of the call's own, whatever the element; slices that read as lists. No program is named here. -/
import Derived.Test.YtimigjjokdnfbaaDoorMemB
import Derived.Deep.AppendLies
namespace Go.Proofs.YtimigjjokdnfbaaDoor
open Go Go.RowKit

/-- What is known of a slice type T of elements E, so many cells and bytes each. -/
structure ElemOk (P : Program) (T E : TypeId) (size bytes : Nat) : Prop where
  ht : P.underlying T = some (.slice E)
  ex : ∃ i z, P.info? E = some i ∧ i.zero = some z ∧ i.size = size ∧ i.bytes = bytes ∧ z.cells.size = size
  pos : 0 < size
  few : bytes ≤ 4096

/-- The value v holds a slice of the call's own, its elements' cells xs. -/
abbrev Own (E : TypeId) (size : Nat) (w : World) (base : Nat) (v : Value) (n : Nat) (xs : List Value) : Prop := w.ownsRow base E size v n xs

section
variable {P : Program} {w : World} {ops : Array Oper} {rest : List Oper} {o : Oper} {a : Act} {K : Act → World → Prop} {Q : Exit → Act → World → Prop} {T E : TypeId} {size bytes : Nat}

theorem wp_app (ok : ElemOk P T E size bytes) (s x : Operand) (ho : o.op = .call { callee := .builtin .append, args := #[s, x], argTypes := #[T, T] })
    (base : Nat) (v : Value) (n : Nat) (xs : List Value) (hs : a.eval s = v) (hown : Own E size w base v n xs) (H : Nat) (cs : List Value) (E' : TypeId) (hx : a.eval x = .slice (some ⟨H, 0, none⟩) 1 1)
    (hb : w.heap[H]? = some (.cells cs.toArray E' (0, 0))) (hcs : cs.length = size) (h1 : ∀ u ∈ cs, u.oneCell' = true) (hn : n ≤ 8589934592) (hbase : base ≤ w.heap.size)
    (h : ∀ g cap w', Own E size w' base (.slice (some ⟨g, 0, none⟩) (n + 1) cap) (n + 1) (xs ++ cs) → Fr (fun x => v.ownBlock = some x) w w' → (v.ownBlock = some g ∨ w.heap.size ≤ g) → g < w'.heap.size → K (a.put o.dst (.slice (some ⟨g, 0, none⟩) (n + 1) cap)) w') :
    o.wp P a w K Q := by
  obtain ⟨i, z, hi, hz, h2, h3, h4⟩ := ok.ex
  have hfew := ok.few
  have hbytes : (n + 1) * bytes ≤ 140737488355328 := by
    have : (n + 1) * bytes ≤ 8589934593 * 4096 := Nat.mul_le_mul (by omega) hfew
    omega
  refine wp_append_lies w s x T ho base E i z size bytes ok.ht hi hz h2 h3 h4 ok.pos v n xs hs hown ⟨H, 0, none⟩ 1 1 cs hx (by omega) (World.news_of_block (cs := cs.toArray) hb) h1 (by omega) (by unfold maxLen; omega) hbytes hbase w.heap.size rfl ?_
  intro g cap w' k1 k2 k3 k4
  exact h g cap w' k1 (Fr.of_grown k2 fun _ q => q) (k3.imp id (fun q => by omega)) k4

theorem wpList_app (hgd : o.guard = none) (ok : ElemOk P T E size bytes) (s x : Operand) (ho : o.op = .call { callee := .builtin .append, args := #[s, x], argTypes := #[T, T] })
    (base : Nat) (v : Value) (n : Nat) (xs : List Value) (hs : a.eval s = v) (hown : Own E size w base v n xs) (H : Nat) (cs : List Value) (E' : TypeId) (hx : a.eval x = .slice (some ⟨H, 0, none⟩) 1 1)
    (hb : w.heap[H]? = some (.cells cs.toArray E' (0, 0))) (hcs : cs.length = size) (h1 : ∀ u ∈ cs, u.oneCell' = true) (hn : n ≤ 8589934592) (hbase : base ≤ w.heap.size)
    (h : ∀ g cap w', Own E size w' base (.slice (some ⟨g, 0, none⟩) (n + 1) cap) (n + 1) (xs ++ cs) → Fr (fun x => v.ownBlock = some x) w w' → (v.ownBlock = some g ∨ w.heap.size ≤ g) → g < w'.heap.size → wpList P ops Q rest (a.put o.dst (.slice (some ⟨g, 0, none⟩) (n + 1) cap)) w') :
    wpList P ops Q (o :: rest) a w :=
  wpList_plain hgd fun _ hK => wp_app ok s x ho base v n xs hs hown H cs E' hx hb hcs h1 hn hbase fun g cap w' k1 k2 k3 k4 => hK _ _ (h g cap w' k1 k2 k3 k4)

theorem step_app {E0 : Prop} (hgd : o.guard = none) (ok : ElemOk P T E size bytes) (s x : Operand) (ho : o.op = .call { callee := .builtin .append, args := #[s, x], argTypes := #[T, T] })
    (base : Nat) (v : Value) (n : Nat) (xs : List Value) (hs : a.eval s = v) (hown : Own E size w base v n xs) (H : Nat) (cs : List Value) (E' : TypeId) (hx : a.eval x = .slice (some ⟨H, 0, none⟩) 1 1)
    (hb : w.heap[H]? = some (.cells cs.toArray E' (0, 0))) (hcs : cs.length = size) (h1 : ∀ u ∈ cs, u.oneCell' = true) (hn : n ≤ 8589934592) (hbase : base ≤ w.heap.size)
    (h : ∀ g cap w', Own E size w' base (.slice (some ⟨g, 0, none⟩) (n + 1) cap) (n + 1) (xs ++ cs) → Fr (fun x => v.ownBlock = some x) w w' → (v.ownBlock = some g ∨ w.heap.size ≤ g) → g < w'.heap.size → K (a.put o.dst (.slice (some ⟨g, 0, none⟩) (n + 1) cap)) w') :
    if Region.wanted o (yielded ops a.tmps) = true then Oper.wp P o a w K Q else E0 :=
  step_of_wp hgd (wp_app ok s x ho base v n xs hs hown H cs E' hx hb hcs h1 hn hbase h)
end

section
variable {E : TypeId} {size : Nat} {w w' : World} {base : Nat} {v : Value} {n : Nat} {xs : List Value}
theorem Own.nil (E : TypeId) (size : Nat) (w : World) (base : Nat) : Own E size w base (.slice none 0 0) 0 [] := World.ownsRow_nil _ _ _ _
theorem Own.len (h : Own E size w base v n xs) : xs.length = n * size := h.1
theorem Own.of_block (h : Own E size w base v n xs) (hb : ∀ g, v.ownBlock = some g → w'.heap[g]? = w.heap[g]?) : Own E size w' base v n xs := by
  refine ⟨h.1, ?_⟩
  rcases h.2 with h | ⟨g, cap, cur, rfl, h1, h2, h3⟩
  · exact .inl h
  · exact .inr ⟨g, cap, cur, rfl, h1, (hb g rfl).trans h2, h3⟩
theorem Own.blk_lt (h : Own E size w base v n xs) {g : Nat} (hg : v.ownBlock = some g) : g < w.heap.size := by
  rcases h.2 with ⟨rfl, _⟩ | ⟨g', cap, cur, rfl, _, h2, _⟩
  · cases hg
  · injection hg with hg
    subst hg
    exact lt_of_blk h2
theorem Own.blk_ge (h : Own E size w base v n xs) {g : Nat} (hg : v.ownBlock = some g) : base ≤ g := by
  rcases h.2 with ⟨rfl, _⟩ | ⟨g', cap, cur, rfl, h1, h2, _⟩
  · cases hg
  · injection hg with hg
    subst hg
    exact h1
theorem Own.fr {S : Nat → Prop} (h : Own E size w base v n xs) (hf : Fr S w w') (hn : ∀ g, v.ownBlock = some g → ¬ S g) : Own E size w' base v n xs :=
  h.of_block fun g hg => hf.block g (h.blk_lt hg) (hn g hg)
theorem Own.value (h : Own E size w base v n xs) : ∃ A cap, v = .slice A n cap := by
  rcases h.2 with ⟨rfl, rfl⟩ | ⟨g', cap, cur, rfl, _⟩
  · exact ⟨_, _, rfl⟩
  · exact ⟨_, _, rfl⟩
/-- The block's element type: blocks of another type are apart. -/
theorem Own.ne_blk {b : Nat} {T : TypeId} {cs : Array Value} {fz : Nat × Nat} (h : Own E size w base v n xs) (hb : w.heap[b]? = some (.cells cs T fz)) (hne : T ≠ E) {g : Nat} (hg : v.ownBlock = some g) : g ≠ b := by
  rintro rfl
  rcases h.2 with ⟨rfl, _⟩ | ⟨g', cap, cur, rfl, _, h2, _⟩
  · cases hg
  · injection hg with hg
    subst hg
    rw [hb] at h2
    injection h2 with h2
    injection h2 with _ h2
    exact hne h2
end
end Go.Proofs.YtimigjjokdnfbaaDoor
