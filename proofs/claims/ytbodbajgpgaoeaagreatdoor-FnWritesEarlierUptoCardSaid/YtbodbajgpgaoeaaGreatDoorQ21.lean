/- SpecU. -/
import Derived.Test.YtbodbajgpgaoeaaGreatDoorQ20
namespace Go.Proofs.YtbodbajgpgaoeaaGreatDoor
open Go Go.RowKit

theorem bsC_ok (w : World) : ClOk w bsC := ⟨by decide, ⟨(by intro x h; cases h), (by intro h; cases h)⟩, by decide, by decide⟩
theorem bsC_first : bsC.first := ⟨rfl, .inl (by decide)⟩
theorem read_first {c : Cl} (ha : c.a = 0) (h : c.isRead) : c.first := ⟨ha, .inl (by unfold Cl.isRead at h; omega)⟩
theorem Play1.append {w : World} {s : St} {l m : List Cl} (h : Play1 w s l) (hm : Mild (runF (yd1 (b0 s)) l).2 m) (hf : ∀ c ∈ m, c.first) (ho : ∀ c ∈ m, ClOk w c) (hs : s.text.length + wsum l + wsum m + 66000 ≤ 1099511627776) (hn : l.length + m.length ≤ 4294967296) : Play1 w s (l ++ m) := by
  refine ⟨Mild.append l m _ h.mild hm, fun c hc => ?_, fun c hc => ?_, ?_, ?_⟩
  · rcases List.mem_append.mp hc with k | k
    · exact h.first c k
    · exact hf c k
  · rcases List.mem_append.mp hc with k | k
    · exact h.ok c k
    · exact ho c k
  · rw [wsum_append]; omega
  · rw [List.length_append]; exact hn
theorem Reads.left {α : Type} {cells : α → List Value} {size : Nat} {w : World} {A : Option Addr} {xs ys : List α} (h : Reads cells size w A (xs ++ ys)) : Reads cells size w A xs :=
  ⟨fun j x hx => h.at' j x (by rw [List.getElem?_append_left (List.getElem?_eq_some_iff.1 hx).1]; exact hx)⟩
theorem Reads.right {α : Type} {cells : α → List Value} {size r o : Nat} {w : World} {xs ys : List α} (h : Reads cells size w (some ⟨r, o, none⟩) (xs ++ ys)) : Reads cells size w (some ⟨r, o + xs.length * size, none⟩) ys := by
  refine ⟨fun j x hx => ?_⟩
  obtain ⟨r', o', e, hc⟩ := h.at' (xs.length + j) x (by rw [List.getElem?_append_right (by omega), Nat.add_sub_cancel_left]; exact hx)
  injection e with e
  injection e with e1 e2
  subst e1 e2
  refine ⟨r, _, rfl, fun k v hv => ?_⟩
  have := hc k v hv
  rw [Nat.add_mul, ← Nat.add_assoc] at this
  exact this
theorem info_toldU : (Tryz.prog.info? 39).map (fun i => (i.zero, i.size, i.bytes)) = some (some (.agg #[.int .i64 0, .string ⟨#[]⟩, .int .i32 0, .int .i64 0]), 4, 40) := by kernel_rfl
theorem cl_one (c : Cl) : ∀ u ∈ c.cells, u.oneCell' = true := by simp [Cl.cells, Value.oneCell']
section
variable {α : Type} {cells : α → List Value} {P : Program} {w : World} {ops : Array Oper} {rest : List Oper} {o : Oper} {a : Act} {Q : Exit → Act → World → Prop} {T E : TypeId} {size bytes : Nat}
theorem wpList_copy (ok : ElemOk P T E size bytes) (hs : ∀ x, (cells x).length = size) (h1 : ∀ x, ∀ u ∈ cells x, u.oneCell' = true) (hgd : o.guard = none) (s x : Operand) (ho : o.op = .call { callee := .builtin .append, args := #[s, x], argTypes := #[T, T] })
    (base : Nat) (v : Value) (n : Nat) (xs : List Value) (A : Option Addr) (c : Nat) (ys : List α) (hv : a.eval s = v) (hx : a.eval x = .slice A ys.length c) (hown : Own E size w base v n xs) (hr : Reads cells size w A ys) (hA : A = none → ys = [] ∧ c = 0) (hn : n + ys.length ≤ 8589934592) (hbase : base ≤ w.heap.size)
    (h : ∀ v' w', Own E size w' base v' (n + ys.length) (xs ++ ys.flatMap cells) → Fr (fun x => v.ownBlock = some x) w w' → (v'.ownBlock = v.ownBlock ∨ v'.ownBlock = some w.heap.size) → wpList P ops Q rest (a.put o.dst v') w') :
    wpList P ops Q (o :: rest) a w := by
  obtain ⟨v', w', hrun, k1, k2, k3⟩ := run_copy ok hs h1 o.type hown hr hA hn hbase
  exact wpList_plain hgd fun _ hK => wp_append_of_run s x T T ho hv hx hrun (hK _ _ (h v' w' k1 k2 k3))
end
theorem two_blocks (w : World) (o0 o1 : Obj) : ((w.alloc o0).alloc o1).heap[w.heap.size]? = some o0 ∧ ((w.alloc o0).alloc o1).heap[w.heap.size + 1]? = some o1 := by
  have h1 := heap_alloc_new (w.alloc o0) o1
  have h0 := ((Fr.refl (fun _ => False) _).alloc o1).blk (heap_alloc_new w o0) (fun q => q)
  simp only [World.size_alloc] at h0 h1
  exact ⟨h0, h1⟩
end Go.Proofs.YtbodbajgpgaoeaaGreatDoor
