/- SpecX, DecP, SpecN, SpecF, SpecR, SpecY, SpecZ, SpecC, SpecD. -/
import Derived.Test.YtkggebhkjgjijaaGreatDoorQ28
import Derived.Deep.RegionHeld
import Derived.Test.YtkggebhkjgjijaaGreatDoorQ10
import Derived.Lib.MapLaws
import Derived.Test.YtkggebhkjgjijaaGreatDoorQ02
import Derived.Laws.BitsLemmas
import Derived.Test.YtkggebhkjgjijaaGreatDoorQ27
import Derived.Laws.OwnMore
namespace Go.Proofs.YtkggebhkjgjijaaGreatDoor
open Go Go.RowKit

theorem Fr.frz {S : Nat → Prop} {w w' : World} (h : Fr S w w') {p : Addr} (hp : p.block < w.heap.size) (hn : ¬ S p.block) : w'.frozen? p = w.frozen? p := by
  unfold World.frozen?
  rw [h.block p.block hp hn]
theorem far4 {w : World} {x : Nat} {p : Addr} {a b c d v : Value} (h : w.cell? p = some v) (hn : p.block ≠ x) : ((((w.setCell ⟨x, 0, none⟩ a).setCell ⟨x, 1, none⟩ b).setCell ⟨x, 2, none⟩ c).setCell ⟨x, 3, none⟩ d).cell? p = some v :=
  ((just4 w x a b c d).cell (World.block_lt_of_cell? _ _ h) hn).trans h
theorem near4 {w : World} {x : Nat} {z0 z1 z2 z3 : Value} (h0 : w.cell? ⟨x, 0, none⟩ = some z0) (h1 : w.cell? ⟨x, 1, none⟩ = some z1) (h2 : w.cell? ⟨x, 2, none⟩ = some z2) (h3 : w.cell? ⟨x, 3, none⟩ = some z3) (a b c d : Value) :
    ((((w.setCell ⟨x, 0, none⟩ a).setCell ⟨x, 1, none⟩ b).setCell ⟨x, 2, none⟩ c).setCell ⟨x, 3, none⟩ d).cell? ⟨x, 0, none⟩ = some a ∧ ((((w.setCell ⟨x, 0, none⟩ a).setCell ⟨x, 1, none⟩ b).setCell ⟨x, 2, none⟩ c).setCell ⟨x, 3, none⟩ d).cell? ⟨x, 1, none⟩ = some b ∧
    ((((w.setCell ⟨x, 0, none⟩ a).setCell ⟨x, 1, none⟩ b).setCell ⟨x, 2, none⟩ c).setCell ⟨x, 3, none⟩ d).cell? ⟨x, 2, none⟩ = some c ∧ ((((w.setCell ⟨x, 0, none⟩ a).setCell ⟨x, 1, none⟩ b).setCell ⟨x, 2, none⟩ c).setCell ⟨x, 3, none⟩ d).cell? ⟨x, 3, none⟩ = some d := by
  have ne : ∀ i j : Nat, i ≠ j → (⟨x, i, none⟩ : Addr) ≠ ⟨x, j, none⟩ := fun i j h q => by injection q with _ q; exact h q
  have o : ∀ (u : World) (i j : Nat) (v : Value), i ≠ j → (u.setCell ⟨x, i, none⟩ v).cell? ⟨x, j, none⟩ = u.cell? ⟨x, j, none⟩ := fun u i j v h => World.cell?_setCell_other _ _ _ _ (ne i j h)
  have s : ∀ (u : World) (i : Nat) (v z : Value), u.cell? ⟨x, i, none⟩ = some z → (u.setCell ⟨x, i, none⟩ v).cell? ⟨x, i, none⟩ = some v := fun u i v z h => World.cell?_setCell_same _ _ _ h
  refine ⟨?_, ?_, ?_, ?_⟩
  · rw [o _ 3 0 _ (by decide), o _ 2 0 _ (by decide), o _ 1 0 _ (by decide), s _ 0 _ _ h0]
  · rw [o _ 3 1 _ (by decide), o _ 2 1 _ (by decide), s _ 1 _ z1 (by rw [o _ 0 1 _ (by decide)]; exact h1)]
  · rw [o _ 3 2 _ (by decide), s _ 2 _ z2 (by rw [o _ 1 2 _ (by decide), o _ 0 2 _ (by decide)]; exact h2)]
  · rw [s _ 3 _ z3 (by rw [o _ 2 3 _ (by decide), o _ 1 3 _ (by decide), o _ 0 3 _ (by decide)]; exact h3)]
theorem frozen_row {w : World} {b : Nat} {cs : Array Value} {T : TypeId} (h : w.heap[b]? = some (.cells cs T (0, 0))) (i : Nat) : w.frozen? ⟨b, i, none⟩ = false := by simp [World.frozen?, h]
theorem four_blocks (w : World) (o0 o1 o2 o3 : Obj) :
    ((((w.alloc o0).alloc o1).alloc o2).alloc o3).heap[w.heap.size]? = some o0 ∧ ((((w.alloc o0).alloc o1).alloc o2).alloc o3).heap[w.heap.size + 1]? = some o1 ∧ ((((w.alloc o0).alloc o1).alloc o2).alloc o3).heap[w.heap.size + 1 + 1]? = some o2 ∧ ((((w.alloc o0).alloc o1).alloc o2).alloc o3).heap[w.heap.size + 1 + 1 + 1]? = some o3 := by
  have h3 := heap_alloc_new (((w.alloc o0).alloc o1).alloc o2) o3
  have h2 := ((Fr.refl (fun _ => False) _).alloc o3).blk (heap_alloc_new ((w.alloc o0).alloc o1) o2) (fun q => q)
  have h1 := (((Fr.refl (fun _ => False) _).alloc o2).alloc o3).blk (heap_alloc_new (w.alloc o0) o1) (fun q => q)
  have h0 := ((((Fr.refl (fun _ => False) _).alloc o1).alloc o2).alloc o3).blk (heap_alloc_new w o0) (fun q => q)
  simp only [World.size_alloc] at h0 h1 h2 h3
  exact ⟨h0, h1, h2, h3⟩
theorem alloc_cell {w : World} {o : Obj} {p : Addr} {v : Value} (h : w.cell? p = some v) : (w.alloc o).cell? p = some v := (((Fr.refl (fun _ => False) w).alloc o).cell (World.block_lt_of_cell? _ _ h) (fun q => q)).trans h
theorem sp_among (i n : Int) (w : World) : Calls Tryz.prog 16 #[.int .i64 i, .int .i64 n] w fun e w' => e = .returned (.bool (decide (0 ≤ i ∧ i < n))) ∧ w' = w := by
  by_cases h : 0 ≤ i
  · go_enter Tryz.func16, Tryz.ntmps16
    go_wp2_with fail
    go_ret
    exact ⟨by simp [h], rfl⟩
  · go_enter Tryz.func16, Tryz.ntmps16
    go_wp2_with fail
    go_ret
    exact ⟨by simp; omega, rfl⟩
section
variable (text : List UInt8) (recent : Int) (last : List UInt8) (begun : Bool) (a bb : Int) (size : Nat) (n : Int) (sign : UInt8) (char : Int) (ctext : List UInt8) (cuts : List Nat) (ad : Option Addr) (cap : Nat)
theorem keep1 {w0 w2 : World} {p : Addr} {v : Value} (F : Fr (fun _ => False) w0 w2) (h : w0.cell? p = some v) : w2.cell? p = some v := (F.cell (World.block_lt_of_cell? _ _ h) (fun q => q)).trans h
end
end Go.Proofs.YtkggebhkjgjijaaGreatDoor

namespace Go.Proofs.YtkggebhkjgjijaaGreatDoor
open Go

/-- The code point that bytes would encode. -/
def numZ : List UInt8 → Int
  | [a] => (a.toNat : Int)
  | [a, b] => ((a.toNat % 32 * 64 + b.toNat % 64 : Nat) : Int)
  | [a, b, c] => ((a.toNat % 16 * 4096 + b.toNat % 64 * 64 + c.toNat % 64 : Nat) : Int)
  | [a, b, c, d] => ((a.toNat % 8 * 262144 + b.toNat % 64 * 4096 + c.toNat % 64 * 64 + d.toNat % 64 : Nat) : Int)
  | _ => 0
/-- The first n bytes are the encoding of what they would encode. -/
def okN (s : List UInt8) (n : Nat) : Prop := enc (numZ (s.take n)) = s.take n
instance (s : List UInt8) (n : Nat) : Decidable (okN s n) := by unfold okN; infer_instance
end Go.Proofs.YtkggebhkjgjijaaGreatDoor

namespace Go.Proofs.YtkggebhkjgjijaaGreatDoor
open Go Go.RowKit

end Go.Proofs.YtkggebhkjgjijaaGreatDoor

namespace Go.Proofs.YtkggebhkjgjijaaGreatDoor
open Go Go.RowKit

end Go.Proofs.YtkggebhkjgjijaaGreatDoor

namespace Go.Proofs.YtkggebhkjgjijaaGreatDoor
open Go Go.RowKit

section
variable (text : List UInt8) (recent : Int) (last : List UInt8) (begun : Bool) (a bb : Int) (size : Nat) (n : Int) (sign : UInt8) (char : Int) (ctext : List UInt8) (cuts : List Nat) (ad : Option Addr) (cap : Nat)
end
end Go.Proofs.YtkggebhkjgjijaaGreatDoor

namespace Go.Proofs.YtkggebhkjgjijaaGreatDoor
open Go Go.RowKit

section
variable (text : List UInt8) (recent : Int) (last : List UInt8) (begun : Bool) (a bb : Int) (size : Nat) (n : Int) (sign : UInt8) (char : Int) (ctext : List UInt8) (cuts : List Nat) (ad : Option Addr) (cap : Nat)
end
end Go.Proofs.YtkggebhkjgjijaaGreatDoor

namespace Go.Proofs.YtkggebhkjgjijaaGreatDoor
open Go Go.RowKit

end Go.Proofs.YtkggebhkjgjijaaGreatDoor

namespace Go.Proofs.YtkggebhkjgjijaaGreatDoor
open Go Go.RowKit

theorem flat_inv {α : Type} (cells : α → List Value) (size : Nat) (hs : ∀ x, (cells x).length = size) (hp : 0 < size) : ∀ (xs : List α) (j : Nat) (v : Value), (xs.flatMap cells)[j]? = some v → ∃ i x k, xs[i]? = some x ∧ (cells x)[k]? = some v ∧ j = i * size + k
  | [], j, v, h => by simp at h
  | y :: xs, j, v, h => by
    have hl := hs y
    rw [List.flatMap_cons] at h
    rcases Nat.lt_or_ge j size with hj | hj
    · rw [List.getElem?_append_left (by omega)] at h
      exact ⟨0, y, j, rfl, h, by omega⟩
    · rw [List.getElem?_append_right (by omega), hl] at h
      obtain ⟨i, x, k, h1, h2, h3⟩ := flat_inv cells size hs hp xs (j - size) v h
      exact ⟨i + 1, x, k, by simpa using h1, h2, by rw [Nat.succ_mul]; omega⟩
theorem flat_len {α : Type} (cells : α → List Value) (size : Nat) (hs : ∀ x, (cells x).length = size) : ∀ xs : List α, (xs.flatMap cells).length = xs.length * size
  | [] => by simp
  | x :: xs => by rw [List.flatMap_cons, List.length_append, hs, flat_len cells size hs xs, List.length_cons, Nat.succ_mul]; omega
/-- append of a slice that reads as ys to a slice of the call's own. -/
theorem run_copy {α : Type} {cells : α → List Value} {P : Program} {T E : TypeId} {size bytes : Nat} (ok : ElemOk P T E size bytes) (hs : ∀ x, (cells x).length = size) (h1 : ∀ x, ∀ u ∈ cells x, u.oneCell' = true) (ty : TypeId) {w : World} {base : Nat} {v : Value} {n : Nat} {xs : List Value} (hown : Own E size w base v n xs)
    {A : Option Addr} {c : Nat} {ys : List α} (hr : Reads cells size w A ys) (hA : A = none → ys = [] ∧ c = 0) (hn : n + ys.length ≤ 8589934592) (hbase : base ≤ w.heap.size) :
    ∃ v' w', (Builtin.append_ #[T, T] ty #[v, .slice A ys.length c]).run P w = .ok v' w' ∧ Own E size w' base v' (n + ys.length) (xs ++ ys.flatMap cells) ∧ Fr (fun x => v.ownBlock = some x) w w' ∧ (v'.ownBlock = v.ownBlock ∨ v'.ownBlock = some w.heap.size) := by
  obtain ⟨i, z, hi, hz, h2, h3, h4⟩ := ok.ex
  cases A with
  | none =>
    obtain ⟨rfl, rfl⟩ := hA rfl
    exact ⟨v, w, run_append_owned_none w base T ty E i size ok.ht hi v n xs hown, by simpa using hown, Fr.refl _ w, .inl rfl⟩
  | some ad =>
    have hfew := ok.few
    have hbytes : (n + ys.length) * bytes ≤ 140737488355328 := by
      have : (n + ys.length) * bytes ≤ 8589934592 * 4096 := Nat.mul_le_mul hn hfew
      omega
    have hnews : ∀ (j : Nat) (u : Value), (ys.flatMap cells)[j]? = some u → w.cell? (ad.add j) = some u := by
      intro j u hu
      obtain ⟨i', x, k, q1, q2, rfl⟩ := flat_inv cells size hs ok.pos ys j u hu
      obtain ⟨r, o, e, hc⟩ := hr.at' i' x q1
      injection e with e
      subst e
      have := hc k u q2
      rw [addr_add]
      rw [show o + (i' * size + k) = o + i' * size + k by omega]
      exact this
    obtain ⟨v', w', k1, k2, k3, _, k5⟩ := run_append_own_at (P := P) w base T ty E i z size bytes ok.ht hi hz h2 h3 h4 ok.pos v n xs hown ad ys.length c (ys.flatMap cells) (flat_len cells size hs ys) hnews (fun u hu => by obtain ⟨x, _, hx⟩ := List.mem_flatMap.1 hu; exact h1 x u hx) (by unfold maxLen; omega) hbytes hbase
    exact ⟨v', w', k1, k2, Fr.of_grown k3 fun _ q => q, k5⟩
theorem elem_sb : ElemOk Tryz.prog 39 57 4 48 := by
  obtain ⟨i0, hi, hz0, hz1, hz2⟩ := info_parts (show (Tryz.prog.info? 57).map (fun i => (i.zero, i.size, i.bytes)) = some (some (.agg #[.string ⟨#[]⟩, .int .i64 0, .string ⟨#[]⟩, .bool false]), 4, 48) by kernel_rfl)
  exact ⟨Tryz.underlying39, ⟨i0, _, hi, hz0, hz1, hz2, rfl⟩, by decide, by decide⟩
def sbs (l : List SB) : List Value := l.flatMap SB.cells
/-- A yard of the reference, as the code has it. -/
structure YV (w : World) (A1 : Option Addr) (n1 c1 : Nat) (A2 : Option Addr) (n2 c2 : Nat) (y : Yd) : Prop where
  l1 : n1 = y.bufs.length
  l2 : n2 = y.blds.length
  r1 : Reads SB.cells 4 w A1 y.bufs
  r2 : Reads strC 1 w A2 y.blds
  z1 : A1 = none → y.bufs = [] ∧ c1 = 0
  z2 : A2 = none → y.blds = [] ∧ c2 = 0
theorem YV.fr {w w' : World} {A1 : Option Addr} {n1 c1 : Nat} {A2 : Option Addr} {n2 c2 : Nat} {y : Yd} (h : YV w A1 n1 c1 A2 n2 c2 y) (hf : Fr (fun _ => False) w w') : YV w' A1 n1 c1 A2 n2 c2 y := ⟨h.l1, h.l2, h.r1.fr0 hf, h.r2.fr0 hf, h.z1, h.z2⟩
theorem Own.zero {E : TypeId} {size : Nat} {w : World} {base : Nat} {A : Option Addr} {n c : Nat} {xs : List Value} (h : Own E size w base (.slice A n c) n xs) (hA : A = none) : xs = [] ∧ c = 0 := by
  subst hA
  have hl := h.1
  rcases h.2 with ⟨e, h0⟩ | ⟨g, cap, cur, e, _⟩
  · injection e with _ e1 e2
    refine ⟨List.eq_nil_of_length_eq_zero (by rw [hl, h0]; simp), e2⟩
  · injection e with e
    cases e
end Go.Proofs.YtkggebhkjgjijaaGreatDoor

namespace Go.Proofs.YtkggebhkjgjijaaGreatDoor
open Go Go.RowKit

section
variable {α : Type} {cells : α → List Value} {P : Program} {w : World} {ops : Array Oper} {o : Oper} {a : Act} {K : Act → World → Prop} {Q : Exit → Act → World → Prop} {T E : TypeId} {size bytes : Nat}
theorem step_copy {E0 : Prop} (ok : ElemOk P T E size bytes) (hs : ∀ x, (cells x).length = size) (h1 : ∀ x, ∀ u ∈ cells x, u.oneCell' = true) (hgd : o.guard = none) (s x : Operand) (ho : o.op = .call { callee := .builtin .append, args := #[s, x], argTypes := #[T, T] })
    (base : Nat) (v : Value) (n : Nat) (xs : List Value) (A : Option Addr) (c : Nat) (ys : List α) (hv : a.eval s = v) (hx : a.eval x = .slice A ys.length c) (hown : Own E size w base v n xs) (hr : Reads cells size w A ys) (hA : A = none → ys = [] ∧ c = 0) (hn : n + ys.length ≤ 8589934592) (hbase : base ≤ w.heap.size)
    (h : Own E size w base v n xs → ∀ v' w', Own E size w' base v' (n + ys.length) (xs ++ ys.flatMap cells) → Fr (fun x => v.ownBlock = some x) w w' → (v'.ownBlock = v.ownBlock ∨ v'.ownBlock = some w.heap.size) → K (a.put o.dst v') w') :
    if Region.wanted o (yielded ops a.tmps) = true then Oper.wp P o a w K Q else E0 := by
  obtain ⟨v', w', hrun, k1, k2, k3⟩ := run_copy ok hs h1 o.type hown hr hA hn hbase
  exact step_of_wp hgd (wp_append_of_run s x T T ho hv hx hrun (h hown v' w' k1 k2 k3))
end
theorem just2 (w : World) (x : Nat) (a b : Value) : Fr (Just x) w ((w.setCell ⟨x, 0, none⟩ a).setCell ⟨x, 1, none⟩ b) :=
  ((Fr.refl _ w).setCell (fun _ => just_self x) _).setCell (fun _ => just_self x) _
theorem own_at {H n c x : Nat} (q : (Value.slice (some ⟨H, 0, none⟩) n c).ownBlock = some x) : H = x := by injection q
theorem own_bare {E : TypeId} {size : Nat} {w : World} {base H : Nat} (h : w.heap[H]? = some (.cells #[] E (0, 0))) (hb : base ≤ H) : Own E size w base (.slice (some ⟨H, 0, none⟩) 0 0) 0 [] :=
  ⟨by simp, .inr ⟨_, 0, #[], rfl, hb, h, Nat.le_refl _, by simp [maxLen], by simp, by simp⟩⟩
theorem sb_one (s : SB) : ∀ u ∈ s.cells, u.oneCell' = true := by simp [SB.cells, Value.oneCell']
theorem str_one (s : List UInt8) : ∀ u ∈ strC s, u.oneCell' = true := by simp [strC, strV, Value.oneCell']
def CopyPost (w : World) (y : Yd) (e : Ending) (w' : World) : Prop :=
  ∃ v1 v2, e = .returned (.agg #[v1, v2]) ∧ Own 57 4 w' w.heap.size v1 y.bufs.length (sbs y.bufs) ∧ Own 9 1 w' w.heap.size v2 y.blds.length (strs y.blds) ∧ Fr (fun _ => False) w w'
set_option maxHeartbeats 1600000 in
set_option maxRecDepth 100000 in
theorem sp_copied (A1 : Option Addr) (n1 c1 : Nat) (A2 : Option Addr) (n2 c2 : Nat) (y : Yd) (w : World) (h : YV w A1 n1 c1 A2 n2 c2 y) (_h1 : y.bufs.length ≤ 4294967296) (_h2 : y.blds.length ≤ 4294967296) :
    Calls Tryz.prog 15 #[.agg #[.slice A1 n1 c1, .slice A2 n2 c2]] w (CopyPost w y) := by
  obtain ⟨rfl, rfl, r1, r2, z1, z2⟩ := h
  obtain ⟨w0, hw0⟩ : ∃ w0, w0 = (w.alloc (.cells #[.slice A1 y.bufs.length c1, .slice A2 y.blds.length c2] 42)).alloc (.cells #[.slice none 0 0, .slice none 0 0] 42) := ⟨_, rfl⟩
  have hF0 : Fr (fun _ => False) w w0 := by rw [hw0]; exact ((Fr.refl _ w).alloc _).alloc _
  have e0 : w0.cell? ⟨w.heap.size, 0, none⟩ = some (.slice A1 y.bufs.length c1) := by rw [hw0]; simp
  have e1 : w0.cell? ⟨w.heap.size, 1, none⟩ = some (.slice A2 y.blds.length c2) := by rw [hw0]; simp
  have hs0 : w.heap.size + 2 = w0.heap.size := by rw [hw0]; simp
  have HR1 := Lib.hid (r1.fr0 hF0)
  have HR2 := Lib.hid (r2.fr0 hF0)
  have HZ1 := Lib.hid z1
  have HZ2 := Lib.hid z2
  have HF0 := Lib.hid hF0
  have HW0 := Lib.hid hw0
  clear r1 r2 z1 z2 hF0 hw0
  have HB := Lib.hid (show w0.heap[w.heap.size + 1]? = some (.cells #[.slice none 0 0, .slice none 0 0] 42 (0, 0)) by rw [HW0.out]; have := heap_alloc_new (w.alloc (.cells #[.slice A1 y.bufs.length c1, .slice A2 y.blds.length c2] 42)) (.cells #[.slice none 0 0, .slice none 0 0] 42); simpa using this)
  have HK0 := Lib.hid (show (w0.drew.alloc (.cells #[] 57)).heap[w0.heap.size]? = some (.cells #[] 57 (0, 0)) by exact heap_alloc_new w0.drew _)
  have HK1 := Lib.hid (show ((w0.drew.alloc (.cells #[] 57)).alloc (.cells #[] 9)).heap[w0.heap.size]? = some (.cells #[] 57 (0, 0)) by exact ((Fr.refl (fun _ => False) _).alloc _).blk (heap_alloc_new w0.drew _) (fun q => q))
  have HK2 := Lib.hid (show ((w0.drew.alloc (.cells #[] 57)).alloc (.cells #[] 9)).heap[w0.heap.size + 1]? = some (.cells #[] 9 (0, 0)) by have := heap_alloc_new (w0.drew.alloc (.cells #[] 57)) (.cells #[] 9); simpa using this)
  have HK3 := Lib.hid (show (w0.drew.alloc (.cells #[] 9)).heap[w0.heap.size]? = some (.cells #[] 9 (0, 0)) by exact heap_alloc_new w0.drew _)
  have HK4 := Lib.hid (show ((w0.drew.alloc (.cells #[] 9)).alloc (.cells #[] 57)).heap[w0.heap.size]? = some (.cells #[] 9 (0, 0)) by exact ((Fr.refl (fun _ => False) _).alloc _).blk (heap_alloc_new w0.drew _) (fun q => q))
  have HK5 := Lib.hid (show ((w0.drew.alloc (.cells #[] 9)).alloc (.cells #[] 57)).heap[w0.heap.size + 1]? = some (.cells #[] 57 (0, 0)) by have := heap_alloc_new (w0.drew.alloc (.cells #[] 9)) (.cells #[] 57); simpa using this)
  go_enter Tryz.func15, Tryz.ntmps15
  go_wp2_with fail
  rw [← HW0.out]
  go_region_held3 (fun w' => w'.cell? ⟨w.heap.size, 0, none⟩ = some (.slice A1 y.bufs.length c1) ∧ w'.cell? ⟨w.heap.size, 1, none⟩ = some (.slice A2 y.blds.length c2)) (first | go_keep | exact ⟨p0, p1⟩) ((first | (refine step_copy elem_sb SB.cells_len sb_one rfl (.tmp 3) (.tmp 5) rfl w.heap.size _ 0 [] A1 c1 y.bufs rfl rfl (own_bare (by first | exact HK0.out | exact HK1.out | exact HK5.out | exact heap_alloc_new _ _ | exact HFA.out.blk HK0.out (fun q => by have q := own_at q; omega) | exact HFA.out.blk HK1.out (fun q => by have q := own_at q; omega) | exact HFA.out.blk HK5.out (fun q => by have q := own_at q; omega)) (by first | omega | (simp; omega) | (have := HFW.out.size; simp; omega) | (have := HFW.out.size; omega))) (HR1.out.fr0 (by first | exact ((Fr.refl (fun _ => False) w0).drew).alloc _ | exact (((Fr.refl (fun _ => False) w0).drew).alloc _).alloc _ | exact HFW.out | exact HFW.out.alloc _)) HZ1.out (by omega) (by first | omega | (simp; omega) | (have := HFW.out.size; simp; omega) | (have := HFW.out.size; omega)) ?_; intro hw v1 wx hown hf hat; rw [Nat.zero_add, List.nil_append] at hown; obtain ⟨B1, d1, rfl⟩ := hown.value; (try (first | have HO2 := Lib.hid (HO2.out.fr hf (fun x hx q => HO2.out.other hw (by decide) x hx q)) | have HO2 := Lib.hid ((HO2.out.fr ((Fr.refl (fun _ => False) _).alloc _) (fun _ _ q => q)).fr hf (fun x hx q => (HO2.out.fr ((Fr.refl (fun _ => False) _).alloc _) (fun _ _ q => q)).other hw (by decide) x hx q)))); have HFV := Lib.hid (show Fr (fun _ => False) w0 wx from Fr.trans' (by first | exact ((Fr.refl (fun _ => False) w0).drew).alloc _ | exact (((Fr.refl (fun _ => False) w0).drew).alloc _).alloc _ | exact HFW.out | exact HFW.out.alloc _) hf (fun x hx q => by have q := own_at q; first | omega | (have := HFW.out.size; omega))); have HFW := Lib.hid HFV.out; have HFA := Lib.hid hf; have HO1 := Lib.hid hown; have p0 : wx.cell? ⟨w.heap.size, 0, none⟩ = some (.slice A1 y.bufs.length c1) := (HFW.out.cell (World.block_lt_of_cell? _ _ e0) (fun q => q)).trans e0; have p1 : wx.cell? ⟨w.heap.size, 1, none⟩ = some (.slice A2 y.blds.length c2) := (HFW.out.cell (World.block_lt_of_cell? _ _ e1) (fun q => q)).trans e1; have hbx := HFW.out.blk HB.out (fun q => q); have q0 : wx.cell? ⟨w.heap.size + 1, 0, none⟩ = some (.slice none 0 0) := (by rw [cell_of_row wx _ 0 _ _ _ hbx]; rfl); have q1 : wx.cell? ⟨w.heap.size + 1, 1, none⟩ = some (.slice none 0 0) := (by rw [cell_of_row wx _ 1 _ _ _ hbx]; rfl); have y0 : wx.frozen? ⟨w.heap.size + 1, 0, none⟩ = false := (by simp [World.frozen?, hbx]); have y1 : wx.frozen? ⟨w.heap.size + 1, 1, none⟩ = false := (by simp [World.frozen?, hbx]); have n0 := World.new_ne wx _ p0; clear hbx; clear hown hf hat hw) | (refine step_copy elem_string (fun _ => rfl) str_one rfl (.tmp 7) (.tmp 9) rfl w.heap.size _ 0 [] A2 c2 y.blds rfl rfl (own_bare (by first | exact HK2.out | exact HK3.out | exact HK4.out | exact heap_alloc_new _ _ | exact HFA.out.blk HK2.out (fun q => by have q := own_at q; omega) | exact HFA.out.blk HK3.out (fun q => by have q := own_at q; omega) | exact HFA.out.blk HK4.out (fun q => by have q := own_at q; omega)) (by first | omega | (simp; omega) | (have := HFW.out.size; simp; omega) | (have := HFW.out.size; omega))) (HR2.out.fr0 (by first | exact ((Fr.refl (fun _ => False) w0).drew).alloc _ | exact (((Fr.refl (fun _ => False) w0).drew).alloc _).alloc _ | exact HFW.out | exact HFW.out.alloc _)) HZ2.out (by omega) (by first | omega | (simp; omega) | (have := HFW.out.size; simp; omega) | (have := HFW.out.size; omega)) ?_; intro hw v2 wx hown hf hat; rw [Nat.zero_add, List.nil_append] at hown; obtain ⟨B2, d2, rfl⟩ := hown.value; (try (first | have HO1 := Lib.hid (HO1.out.fr hf (fun x hx q => HO1.out.other hw (by decide) x hx q)) | have HO1 := Lib.hid ((HO1.out.fr ((Fr.refl (fun _ => False) _).alloc _) (fun _ _ q => q)).fr hf (fun x hx q => (HO1.out.fr ((Fr.refl (fun _ => False) _).alloc _) (fun _ _ q => q)).other hw (by decide) x hx q)))); have HFV := Lib.hid (show Fr (fun _ => False) w0 wx from Fr.trans' (by first | exact ((Fr.refl (fun _ => False) w0).drew).alloc _ | exact (((Fr.refl (fun _ => False) w0).drew).alloc _).alloc _ | exact HFW.out | exact HFW.out.alloc _) hf (fun x hx q => by have q := own_at q; first | omega | (have := HFW.out.size; omega))); have HFW := Lib.hid HFV.out; have HFA := Lib.hid hf; have HO2 := Lib.hid hown; have p0 : wx.cell? ⟨w.heap.size, 0, none⟩ = some (.slice A1 y.bufs.length c1) := (HFW.out.cell (World.block_lt_of_cell? _ _ e0) (fun q => q)).trans e0; have p1 : wx.cell? ⟨w.heap.size, 1, none⟩ = some (.slice A2 y.blds.length c2) := (HFW.out.cell (World.block_lt_of_cell? _ _ e1) (fun q => q)).trans e1; have hbx := HFW.out.blk HB.out (fun q => q); have q0 : wx.cell? ⟨w.heap.size + 1, 0, none⟩ = some (.slice none 0 0) := (by rw [cell_of_row wx _ 0 _ _ _ hbx]; rfl); have q1 : wx.cell? ⟨w.heap.size + 1, 1, none⟩ = some (.slice none 0 0) := (by rw [cell_of_row wx _ 1 _ _ _ hbx]; rfl); have y0 : wx.frozen? ⟨w.heap.size + 1, 0, none⟩ = false := (by simp [World.frozen?, hbx]); have y1 : wx.frozen? ⟨w.heap.size + 1, 1, none⟩ = false := (by simp [World.frozen?, hbx]); have n0 := World.new_ne wx _ p0; clear hbx; clear hown hf hat hw)))
  all_goals
    have hbx := HFW.out.blk HB.out (fun q => q)
    have hJ : Fr (Just (w.heap.size + 1)) wx ((wx.setCell ⟨w.heap.size + 1, 0, none⟩ (.slice B1 y.bufs.length d1)).setCell ⟨w.heap.size + 1, 1, none⟩ (.slice B2 y.blds.length d2)) := just2 _ _ _ _
    have HO1' := Lib.hid (HO1.out.fr hJ (fun x hx q => HO1.out.ne_blk hbx (by decide) hx q))
    have HO2' := Lib.hid (HO2.out.fr hJ (fun x hx q => HO2.out.ne_blk hbx (by decide) hx q))
    have HFF := Lib.hid ((HF0.out.trans HFW.out).trans' hJ (fun x hx q => by have q : x = w.heap.size + 1 := q; omega))
    clear hbx hJ
    go_wp2_with fail
    refine bodyPost_ret (v := .agg #[.slice B1 y.bufs.length d1, .slice B2 y.blds.length d2]) (by simp [results, Tryz.results15, go_sem, q0, q1]) rfl ?_
    exact ⟨_, _, rfl, HO1'.out, by rw [strs_flat]; exact HO2'.out, HFF.out⟩
end Go.Proofs.YtkggebhkjgjijaaGreatDoor
