/- SpecX. -/
import Derived.Test.YtbodbajgpgaoeaaGreatDoorQ12
import Derived.Deep.RegionHeld
namespace Go.Proofs.YtbodbajgpgaoeaaGreatDoor
open Go Go.RowKit

def DoPost (w : World) (b : SB) (t : Td) (ok : Bool) (e : Ending) (w' : World) : Prop := e = .returned (.tuple #[b.val, t.val, .bool ok]) ∧ Fr (fun _ => False) w w'
theorem Fr.frz {S : Nat → Prop} {w w' : World} (h : Fr S w w') {p : Addr} (hp : p.block < w.heap.size) (hn : ¬ S p.block) : w'.frozen? p = w.frozen? p := by
  unfold World.frozen?
  rw [h.block p.block hp hn]
theorem far4 {w : World} {x : Nat} {p : Addr} {a b c d v : Value} (h : w.cell? p = some v) (hn : p.block ≠ x) : ((((w.setCell ⟨x, 0, none⟩ a).setCell ⟨x, 1, none⟩ b).setCell ⟨x, 2, none⟩ c).setCell ⟨x, 3, none⟩ d).cell? p = some v :=
  ((just4 w x a b c d).cell (World.block_lt_of_cell? _ _ h) hn).trans h
theorem near4 {w : World} {x : Nat} {z0 z1 z2 z3 : Value} (h0 : w.cell? ⟨x, 0, none⟩ = some z0) (h1 : w.cell? ⟨x, 1, none⟩ = some z1) (h2 : w.cell? ⟨x, 2, none⟩ = some z2) (h3 : w.cell? ⟨x, 3, none⟩ = some z3) (a b c d : Value) :
    ((((w.setCell ⟨x, 0, none⟩ a).setCell ⟨x, 1, none⟩ b).setCell ⟨x, 2, none⟩ c).setCell ⟨x, 3, none⟩ d).cell? ⟨x, 0, none⟩ = some a ∧ ((((w.setCell ⟨x, 0, none⟩ a).setCell ⟨x, 1, none⟩ b).setCell ⟨x, 2, none⟩ c).setCell ⟨x, 3, none⟩ d).cell? ⟨x, 1, none⟩ = some b ∧
    ((((w.setCell ⟨x, 0, none⟩ a).setCell ⟨x, 1, none⟩ b).setCell ⟨x, 2, none⟩ c).setCell ⟨x, 3, none⟩ d).cell? ⟨x, 2, none⟩ = some c ∧ ((((w.setCell ⟨x, 0, none⟩ a).setCell ⟨x, 1, none⟩ b).setCell ⟨x, 2, none⟩ c).setCell ⟨x, 3, none⟩ d).cell? ⟨x, 3, none⟩ = some d := by
  have ne : ∀ i j : Nat, i ≠ j → (⟨x, i, none⟩ : Addr) ≠ ⟨x, j, none⟩ := fun i j h q => by injection q with _ q; exact h q
  have o : ∀ (u : World) (i j : Nat) (v : Value), i ≠ j → (u.setCell ⟨x, i, none⟩ v).cell? ⟨x, j, none⟩ = u.cell? ⟨x, j, none⟩ := fun u i j v h => World.cell?_setCell_other _ _ _ _ (ne i j h)
  have s : ∀ (u : World) (i : Nat) (v z : Value), u.cell? ⟨x, i, none⟩ = some z → (u.setCell ⟨x, i, none⟩ v).cell? ⟨x, i, none⟩ = some v := fun u i v z h => World.cell?_setCell_same _ _ _ h
  refine ⟨?_, ?_, ?_, ?_⟩
  · rw [o _ 3 0 _ (by decide), o _ 2 0 _ (by decide), o _ 1 0 _ (by decide), s _ 0 _ _ h0]
  · rw [o _ 3 1 _ (by decide), o _ 2 1 _ (by decide), s _ 1 _ z1 (by rw [o _ 0 1 _ (by decide)]; exact h1)]
  · rw [o _ 3 2 _ (by decide), s _ 2 _ z2 (by rw [o _ 1 2 _ (by decide), o _ 0 2 _ (by decide)]; exact h2)]
  · rw [s _ 3 _ z3 (by rw [o _ 2 3 _ (by decide), o _ 1 3 _ (by decide), o _ 0 3 _ (by decide)]; exact h3)]
theorem two_stores {w : World} {x y : Nat} (hne : x ≠ y) {z0 z1 z2 z3 u0 u1 u2 u3 : Value} (h0 : w.cell? ⟨x, 0, none⟩ = some z0) (h1 : w.cell? ⟨x, 1, none⟩ = some z1) (h2 : w.cell? ⟨x, 2, none⟩ = some z2) (h3 : w.cell? ⟨x, 3, none⟩ = some z3) (k0 : w.cell? ⟨y, 0, none⟩ = some u0) (k1 : w.cell? ⟨y, 1, none⟩ = some u1) (k2 : w.cell? ⟨y, 2, none⟩ = some u2) (k3 : w.cell? ⟨y, 3, none⟩ = some u3) (a b c d a' b' c' d' : Value) :
    ((((((((w.setCell ⟨x, 0, none⟩ a).setCell ⟨x, 1, none⟩ b).setCell ⟨x, 2, none⟩ c).setCell ⟨x, 3, none⟩ d).setCell ⟨y, 0, none⟩ a').setCell ⟨y, 1, none⟩ b').setCell ⟨y, 2, none⟩ c').setCell ⟨y, 3, none⟩ d').cell? ⟨x, 0, none⟩ = some a ∧
    ((((((((w.setCell ⟨x, 0, none⟩ a).setCell ⟨x, 1, none⟩ b).setCell ⟨x, 2, none⟩ c).setCell ⟨x, 3, none⟩ d).setCell ⟨y, 0, none⟩ a').setCell ⟨y, 1, none⟩ b').setCell ⟨y, 2, none⟩ c').setCell ⟨y, 3, none⟩ d').cell? ⟨x, 1, none⟩ = some b ∧
    ((((((((w.setCell ⟨x, 0, none⟩ a).setCell ⟨x, 1, none⟩ b).setCell ⟨x, 2, none⟩ c).setCell ⟨x, 3, none⟩ d).setCell ⟨y, 0, none⟩ a').setCell ⟨y, 1, none⟩ b').setCell ⟨y, 2, none⟩ c').setCell ⟨y, 3, none⟩ d').cell? ⟨x, 2, none⟩ = some c ∧
    ((((((((w.setCell ⟨x, 0, none⟩ a).setCell ⟨x, 1, none⟩ b).setCell ⟨x, 2, none⟩ c).setCell ⟨x, 3, none⟩ d).setCell ⟨y, 0, none⟩ a').setCell ⟨y, 1, none⟩ b').setCell ⟨y, 2, none⟩ c').setCell ⟨y, 3, none⟩ d').cell? ⟨x, 3, none⟩ = some d ∧
    ((((((((w.setCell ⟨x, 0, none⟩ a).setCell ⟨x, 1, none⟩ b).setCell ⟨x, 2, none⟩ c).setCell ⟨x, 3, none⟩ d).setCell ⟨y, 0, none⟩ a').setCell ⟨y, 1, none⟩ b').setCell ⟨y, 2, none⟩ c').setCell ⟨y, 3, none⟩ d').cell? ⟨y, 0, none⟩ = some a' ∧
    ((((((((w.setCell ⟨x, 0, none⟩ a).setCell ⟨x, 1, none⟩ b).setCell ⟨x, 2, none⟩ c).setCell ⟨x, 3, none⟩ d).setCell ⟨y, 0, none⟩ a').setCell ⟨y, 1, none⟩ b').setCell ⟨y, 2, none⟩ c').setCell ⟨y, 3, none⟩ d').cell? ⟨y, 1, none⟩ = some b' ∧
    ((((((((w.setCell ⟨x, 0, none⟩ a).setCell ⟨x, 1, none⟩ b).setCell ⟨x, 2, none⟩ c).setCell ⟨x, 3, none⟩ d).setCell ⟨y, 0, none⟩ a').setCell ⟨y, 1, none⟩ b').setCell ⟨y, 2, none⟩ c').setCell ⟨y, 3, none⟩ d').cell? ⟨y, 2, none⟩ = some c' ∧
    ((((((((w.setCell ⟨x, 0, none⟩ a).setCell ⟨x, 1, none⟩ b).setCell ⟨x, 2, none⟩ c).setCell ⟨x, 3, none⟩ d).setCell ⟨y, 0, none⟩ a').setCell ⟨y, 1, none⟩ b').setCell ⟨y, 2, none⟩ c').setCell ⟨y, 3, none⟩ d').cell? ⟨y, 3, none⟩ = some d' := by
  obtain ⟨p0, p1, p2, p3⟩ := near4 h0 h1 h2 h3 a b c d
  obtain ⟨s0, s1, s2, s3⟩ := near4 (far4 (x := x) (a := a) (b := b) (c := c) (d := d) k0 (fun q => hne q.symm)) (far4 k1 (fun q => hne q.symm)) (far4 k2 (fun q => hne q.symm)) (far4 k3 (fun q => hne q.symm)) a' b' c' d'
  exact ⟨far4 p0 hne, far4 p1 hne, far4 p2 hne, far4 p3 hne, s0, s1, s2, s3⟩
theorem frozen_row {w : World} {b : Nat} {cs : Array Value} {T : TypeId} (h : w.heap[b]? = some (.cells cs T (0, 0))) (i : Nat) : w.frozen? ⟨b, i, none⟩ = false := by simp [World.frozen?, h]
theorem four_blocks (w : World) (o0 o1 o2 o3 : Obj) :
    ((((w.alloc o0).alloc o1).alloc o2).alloc o3).heap[w.heap.size]? = some o0 ∧ ((((w.alloc o0).alloc o1).alloc o2).alloc o3).heap[w.heap.size + 1]? = some o1 ∧ ((((w.alloc o0).alloc o1).alloc o2).alloc o3).heap[w.heap.size + 1 + 1]? = some o2 ∧ ((((w.alloc o0).alloc o1).alloc o2).alloc o3).heap[w.heap.size + 1 + 1 + 1]? = some o3 := by
  have h3 := heap_alloc_new (((w.alloc o0).alloc o1).alloc o2) o3
  have h2 := ((Fr.refl (fun _ => False) _).alloc o3).blk (heap_alloc_new ((w.alloc o0).alloc o1) o2) (fun q => q)
  have h1 := (((Fr.refl (fun _ => False) _).alloc o2).alloc o3).blk (heap_alloc_new (w.alloc o0) o1) (fun q => q)
  have h0 := ((((Fr.refl (fun _ => False) _).alloc o1).alloc o2).alloc o3).blk (heap_alloc_new w o0) (fun q => q)
  simp only [World.size_alloc] at h0 h1 h2 h3
  exact ⟨h0, h1, h2, h3⟩
theorem conv_signd (w : World) (x : UInt8) : (convert 40 9 (.slice (some ⟨w.heap.size, 0, none⟩) 1 1)).run Tryz.prog (w.alloc (.cells #[.int .u8 (x.toNat : Int)] 5)).drew = .ok (.string ⟨[x].toArray⟩) (w.alloc (.cells #[.int .u8 (x.toNat : Int)] 5)).drew := conv_sign w.drew x
theorem alloc_cell {w : World} {o : Obj} {p : Addr} {v : Value} (h : w.cell? p = some v) : (w.alloc o).cell? p = some v := (((Fr.refl (fun _ => False) w).alloc o).cell (World.block_lt_of_cell? _ _ h) (fun q => q)).trans h
theorem sp_among (i n : Int) (w : World) : Calls Tryz.prog 42 #[.int .i64 i, .int .i64 n] w fun e w' => e = .returned (.bool (decide (0 ≤ i ∧ i < n))) ∧ w' = w := by
  by_cases h : 0 ≤ i
  · go_enter Tryz.func42, Tryz.ntmps42
    go_wp2_with fail
    go_ret
    exact ⟨by simp [h], rfl⟩
  · go_enter Tryz.func42, Tryz.ntmps42
    go_wp2_with fail
    go_ret
    exact ⟨by simp; omega, rfl⟩
section
variable (text : List UInt8) (recent : Int) (last : List UInt8) (begun : Bool) (a bb : Int) (size : Nat) (n : Int) (sign : UInt8) (char : Int) (ctext : List UInt8) (cuts : List Nat) (ad : Option Addr) (cap : Nat)
theorem keep1 {w0 w2 : World} {p : Addr} {v : Value} (F : Fr (fun _ => False) w0 w2) (h : w0.cell? p = some v) : w2.cell? p = some v := (F.cell (World.block_lt_of_cell? _ _ h) (fun q => q)).trans h
theorem kept_rt {w0 w2 : World} {x y : Nat} {u0 u1 u2 u3 v0 v1 v2 v3 : Value} (F : Fr (fun _ => False) w0 w2) (r0 : w0.cell? ⟨x, 0, none⟩ = some u0) (r1 : w0.cell? ⟨x, 1, none⟩ = some u1) (r2 : w0.cell? ⟨x, 2, none⟩ = some u2) (r3 : w0.cell? ⟨x, 3, none⟩ = some u3) (t0 : w0.cell? ⟨y, 0, none⟩ = some v0) (t1 : w0.cell? ⟨y, 1, none⟩ = some v1) (t2 : w0.cell? ⟨y, 2, none⟩ = some v2) (t3 : w0.cell? ⟨y, 3, none⟩ = some v3) (rz0 : w0.frozen? ⟨x, 0, none⟩ = false) (rz1 : w0.frozen? ⟨x, 1, none⟩ = false) (rz2 : w0.frozen? ⟨x, 2, none⟩ = false) (rz3 : w0.frozen? ⟨x, 3, none⟩ = false) (tz0 : w0.frozen? ⟨y, 0, none⟩ = false) (tz1 : w0.frozen? ⟨y, 1, none⟩ = false) (tz2 : w0.frozen? ⟨y, 2, none⟩ = false) (tz3 : w0.frozen? ⟨y, 3, none⟩ = false) :
    w2.cell? ⟨x, 0, none⟩ = some u0 ∧ w2.cell? ⟨x, 1, none⟩ = some u1 ∧ w2.cell? ⟨x, 2, none⟩ = some u2 ∧ w2.cell? ⟨x, 3, none⟩ = some u3 ∧ w2.cell? ⟨y, 0, none⟩ = some v0 ∧ w2.cell? ⟨y, 1, none⟩ = some v1 ∧ w2.cell? ⟨y, 2, none⟩ = some v2 ∧ w2.cell? ⟨y, 3, none⟩ = some v3 ∧ w2.frozen? ⟨x, 0, none⟩ = false ∧ w2.frozen? ⟨x, 1, none⟩ = false ∧ w2.frozen? ⟨x, 2, none⟩ = false ∧ w2.frozen? ⟨x, 3, none⟩ = false ∧ w2.frozen? ⟨y, 0, none⟩ = false ∧ w2.frozen? ⟨y, 1, none⟩ = false ∧ w2.frozen? ⟨y, 2, none⟩ = false ∧ w2.frozen? ⟨y, 3, none⟩ = false :=
  ⟨keep1 F r0, keep1 F r1, keep1 F r2, keep1 F r3, keep1 F t0, keep1 F t1, keep1 F t2, keep1 F t3, (F.frz (World.block_lt_of_cell? _ _ r0) (fun q => q)).trans rz0, (F.frz (World.block_lt_of_cell? _ _ r1) (fun q => q)).trans rz1, (F.frz (World.block_lt_of_cell? _ _ r2) (fun q => q)).trans rz2, (F.frz (World.block_lt_of_cell? _ _ r3) (fun q => q)).trans rz3, (F.frz (World.block_lt_of_cell? _ _ t0) (fun q => q)).trans tz0, (F.frz (World.block_lt_of_cell? _ _ t1) (fun q => q)).trans tz1, (F.frz (World.block_lt_of_cell? _ _ t2) (fun q => q)).trans tz2, (F.frz (World.block_lt_of_cell? _ _ t3) (fun q => q)).trans tz3⟩
theorem two_end {w w1 : World} {x y : Nat} (F : Fr (fun _ => False) w w1) (hx : w.heap.size ≤ x) (hy : w.heap.size ≤ y) (hne : x ≠ y) {u0 u1 u2 u3 v0 v1 v2 v3 : Value} (r0 : w1.cell? ⟨x, 0, none⟩ = some u0) (r1 : w1.cell? ⟨x, 1, none⟩ = some u1) (r2 : w1.cell? ⟨x, 2, none⟩ = some u2) (r3 : w1.cell? ⟨x, 3, none⟩ = some u3) (t0 : w1.cell? ⟨y, 0, none⟩ = some v0) (t1 : w1.cell? ⟨y, 1, none⟩ = some v1) (t2 : w1.cell? ⟨y, 2, none⟩ = some v2) (t3 : w1.cell? ⟨y, 3, none⟩ = some v3) (c0 c1 c2 c3 d0 d1 d2 d3 : Value) :
    ∃ w8, w8 = ((((((((w1.setCell ⟨x, 0, none⟩ c0).setCell ⟨x, 1, none⟩ c1).setCell ⟨x, 2, none⟩ c2).setCell ⟨x, 3, none⟩ c3).setCell ⟨y, 0, none⟩ d0).setCell ⟨y, 1, none⟩ d1).setCell ⟨y, 2, none⟩ d2).setCell ⟨y, 3, none⟩ d3) ∧ Fr (fun _ => False) w w8 ∧ w8.cell? ⟨x, 0, none⟩ = some c0 ∧ w8.cell? ⟨x, 1, none⟩ = some c1 ∧ w8.cell? ⟨x, 2, none⟩ = some c2 ∧ w8.cell? ⟨x, 3, none⟩ = some c3 ∧ w8.cell? ⟨y, 0, none⟩ = some d0 ∧ w8.cell? ⟨y, 1, none⟩ = some d1 ∧ w8.cell? ⟨y, 2, none⟩ = some d2 ∧ w8.cell? ⟨y, 3, none⟩ = some d3 := by
  obtain ⟨q0, q1, q2, q3, q4, q5, q6, q7⟩ := two_stores (w := w1) (x := x) (y := y) hne r0 r1 r2 r3 t0 t1 t2 t3 c0 c1 c2 c3 d0 d1 d2 d3
  refine ⟨_, rfl, ?_, q0, q1, q2, q3, q4, q5, q6, q7⟩
  repeat (with_reducible first | exact F | refine Fr.setCell ?_ (fun q => by dsimp only at q; omega) _)
theorem two_endd {w w1 : World} {x y : Nat} (F : Fr (fun _ => False) w w1) (hx : w.heap.size ≤ x) (hy : w.heap.size ≤ y) (hne : x ≠ y) {u0 u1 u2 u3 v0 v1 v2 v3 : Value} (r0 : w1.cell? ⟨x, 0, none⟩ = some u0) (r1 : w1.cell? ⟨x, 1, none⟩ = some u1) (r2 : w1.cell? ⟨x, 2, none⟩ = some u2) (r3 : w1.cell? ⟨x, 3, none⟩ = some u3) (t0 : w1.cell? ⟨y, 0, none⟩ = some v0) (t1 : w1.cell? ⟨y, 1, none⟩ = some v1) (t2 : w1.cell? ⟨y, 2, none⟩ = some v2) (t3 : w1.cell? ⟨y, 3, none⟩ = some v3) (c0 c1 c2 c3 d0 d1 d2 d3 : Value) :
    ∃ w8, w8 = ((((((((w1.setCell ⟨x, 0, none⟩ c0).setCell ⟨x, 1, none⟩ c1).setCell ⟨x, 2, none⟩ c2).setCell ⟨x, 3, none⟩ c3).setCell ⟨y, 0, none⟩ d0).setCell ⟨y, 1, none⟩ d1).setCell ⟨y, 2, none⟩ d2).setCell ⟨y, 3, none⟩ d3).drew ∧ Fr (fun _ => False) w w8 ∧ w8.cell? ⟨x, 0, none⟩ = some c0 ∧ w8.cell? ⟨x, 1, none⟩ = some c1 ∧ w8.cell? ⟨x, 2, none⟩ = some c2 ∧ w8.cell? ⟨x, 3, none⟩ = some c3 ∧ w8.cell? ⟨y, 0, none⟩ = some d0 ∧ w8.cell? ⟨y, 1, none⟩ = some d1 ∧ w8.cell? ⟨y, 2, none⟩ = some d2 ∧ w8.cell? ⟨y, 3, none⟩ = some d3 := by
  obtain ⟨w9, h9, hF, q0, q1, q2, q3, q4, q5, q6, q7⟩ := two_end F hx hy hne r0 r1 r2 r3 t0 t1 t2 t3 c0 c1 c2 c3 d0 d1 d2 d3
  refine ⟨w9.drew, by rw [h9], Fr.drew hF, ?_, ?_, ?_, ?_, ?_, ?_, ?_, ?_⟩
  all_goals (rw [World.cell?_drew]; with_reducible assumption)
theorem four_end (w : World) (o0 o1 : Obj) (c0 c1 c2 c3 d0 d1 d2 d3 : Value) :
    ∃ w8, w8 = (((w.alloc o0).alloc o1).alloc (.cells #[c0, c1, c2, c3] 81)).alloc (.cells #[d0, d1, d2, d3] 39) ∧ Fr (fun _ => False) w w8 ∧ w8.cell? ⟨w.heap.size + 1 + 1, 0, none⟩ = some c0 ∧ w8.cell? ⟨w.heap.size + 1 + 1, 1, none⟩ = some c1 ∧ w8.cell? ⟨w.heap.size + 1 + 1, 2, none⟩ = some c2 ∧ w8.cell? ⟨w.heap.size + 1 + 1, 3, none⟩ = some c3 ∧ w8.cell? ⟨w.heap.size + 1 + 1 + 1, 0, none⟩ = some d0 ∧ w8.cell? ⟨w.heap.size + 1 + 1 + 1, 1, none⟩ = some d1 ∧ w8.cell? ⟨w.heap.size + 1 + 1 + 1, 2, none⟩ = some d2 ∧ w8.cell? ⟨w.heap.size + 1 + 1 + 1, 3, none⟩ = some d3 := by
  obtain ⟨_, _, h2, h3⟩ := four_blocks w o0 o1 (.cells #[c0, c1, c2, c3] 81) (.cells #[d0, d1, d2, d3] 39)
  refine ⟨_, rfl, ((((Fr.refl (fun _ => False) w).alloc _).alloc _).alloc _).alloc _, ?_, ?_, ?_, ?_, ?_, ?_, ?_, ?_⟩
  all_goals first | (rw [cell_of_row _ _ _ _ _ _ h2]; rfl) | (rw [cell_of_row _ _ _ _ _ _ h3]; rfl)
/-- The four blocks that a call of spec begins with: the buffer, the call, the two results. -/
structure Box4 (w w0 : World) (op : Int) : Prop where
  b0 : w0.cell? ⟨w.heap.size, 0, none⟩ = some (.string ⟨text.toArray⟩)
  b1 : w0.cell? ⟨w.heap.size, 1, none⟩ = some (.int .i64 recent)
  b2 : w0.cell? ⟨w.heap.size, 2, none⟩ = some (.string ⟨last.toArray⟩)
  b3 : w0.cell? ⟨w.heap.size, 3, none⟩ = some (.bool begun)
  e0 : w0.cell? ⟨w.heap.size + 1, 0, none⟩ = some (.int .i64 op)
  e1 : w0.cell? ⟨w.heap.size + 1, 1, none⟩ = some (.int .i64 a)
  e2 : w0.cell? ⟨w.heap.size + 1, 2, none⟩ = some (.int .i64 bb)
  e3 : w0.cell? ⟨w.heap.size + 1, 3, none⟩ = some (.int .u16 (size : Int))
  e4 : w0.cell? ⟨w.heap.size + 1, 4, none⟩ = some (.int .i64 n)
  e5 : w0.cell? ⟨w.heap.size + 1, 5, none⟩ = some (.int .u8 (sign.toNat : Int))
  e6 : w0.cell? ⟨w.heap.size + 1, 6, none⟩ = some (.int .i32 char)
  e7 : w0.cell? ⟨w.heap.size + 1, 7, none⟩ = some (.string ⟨ctext.toArray⟩)
  e8 : w0.cell? ⟨w.heap.size + 1, 8, none⟩ = some (.slice ad cuts.length cap)
  r0 : w0.cell? ⟨w.heap.size + 1 + 1, 0, none⟩ = some (.string ⟨#[]⟩)
  r1 : w0.cell? ⟨w.heap.size + 1 + 1, 1, none⟩ = some (.int .i64 0)
  r2 : w0.cell? ⟨w.heap.size + 1 + 1, 2, none⟩ = some (.string ⟨#[]⟩)
  r3 : w0.cell? ⟨w.heap.size + 1 + 1, 3, none⟩ = some (.bool false)
  t0 : w0.cell? ⟨w.heap.size + 1 + 1 + 1, 0, none⟩ = some (.int .i64 0)
  t1 : w0.cell? ⟨w.heap.size + 1 + 1 + 1, 1, none⟩ = some (.string ⟨#[]⟩)
  t2 : w0.cell? ⟨w.heap.size + 1 + 1 + 1, 2, none⟩ = some (.int .i32 0)
  t3 : w0.cell? ⟨w.heap.size + 1 + 1 + 1, 3, none⟩ = some (.int .i64 0)
  rz : ∀ i, w0.frozen? ⟨w.heap.size + 1 + 1, i, none⟩ = false
  tz : ∀ i, w0.frozen? ⟨w.heap.size + 1 + 1 + 1, i, none⟩ = false
  fr : Fr (fun _ => False) w w0
  lt : w.heap.size + 1 + 1 + 1 < w0.heap.size
theorem box4_new (w : World) (op : Int) : Box4 text recent last begun a bb size n sign char ctext cuts ad cap w ((((w.alloc (.cells #[.string ⟨text.toArray⟩, .int .i64 recent, .string ⟨last.toArray⟩, .bool begun] 81)).alloc (.cells #[.int .i64 op, .int .i64 a, .int .i64 bb, .int .u16 (size : Int), .int .i64 n, .int .u8 (sign.toNat : Int), .int .i32 char, .string ⟨ctext.toArray⟩, .slice ad cuts.length cap] 36)).alloc (.cells #[.string ⟨#[]⟩, .int .i64 0, .string ⟨#[]⟩, .bool false] 81)).alloc (.cells #[.int .i64 0, .string ⟨#[]⟩, .int .i32 0, .int .i64 0] 39)) op := by
  obtain ⟨h0, h1, h2, h3⟩ := four_blocks w (.cells #[.string ⟨text.toArray⟩, .int .i64 recent, .string ⟨last.toArray⟩, .bool begun] 81) (.cells #[.int .i64 op, .int .i64 a, .int .i64 bb, .int .u16 (size : Int), .int .i64 n, .int .u8 (sign.toNat : Int), .int .i32 char, .string ⟨ctext.toArray⟩, .slice ad cuts.length cap] 36) (.cells #[.string ⟨#[]⟩, .int .i64 0, .string ⟨#[]⟩, .bool false] 81) (.cells #[.int .i64 0, .string ⟨#[]⟩, .int .i32 0, .int .i64 0] 39)
  refine ⟨?_, ?_, ?_, ?_, ?_, ?_, ?_, ?_, ?_, ?_, ?_, ?_, ?_, ?_, ?_, ?_, ?_, ?_, ?_, ?_, ?_, ?_, ?_, (((((Fr.refl (fun _ => False) w).alloc _).alloc _).alloc _).alloc _), lt_of_blk h3⟩
  all_goals first | (rw [cell_of_row _ _ _ _ _ _ h0]; rfl) | (rw [cell_of_row _ _ _ _ _ _ h1]; rfl) | (rw [cell_of_row _ _ _ _ _ _ h2]; rfl) | (rw [cell_of_row _ _ _ _ _ _ h3]; rfl) | exact fun i => frozen_row h2 i | exact fun i => frozen_row h3 i
theorem box4_ex (w : World) (op : Int) : ∃ w0, w0 = ((((w.alloc (.cells #[.string ⟨text.toArray⟩, .int .i64 recent, .string ⟨last.toArray⟩, .bool begun] 81)).alloc (.cells #[.int .i64 op, .int .i64 a, .int .i64 bb, .int .u16 (size : Int), .int .i64 n, .int .u8 (sign.toNat : Int), .int .i32 char, .string ⟨ctext.toArray⟩, .slice ad cuts.length cap] 36)).alloc (.cells #[.string ⟨#[]⟩, .int .i64 0, .string ⟨#[]⟩, .bool false] 81)).alloc (.cells #[.int .i64 0, .string ⟨#[]⟩, .int .i32 0, .int .i64 0] 39)) ∧ Box4 text recent last begun a bb size n sign char ctext cuts ad cap w w0 op := ⟨_, rfl, box4_new ..⟩
/-- One block more: an answer that lies ready. -/
structure Box5 (w w0 : World) (op : Int) : Prop where
  b4 : Box4 text recent last begun a bb size n sign char ctext cuts ad cap w w0 op
  f0 : w0.cell? ⟨w.heap.size + 1 + 1 + 1 + 1, 0, none⟩ = some (.int .i64 0)
  f1 : w0.cell? ⟨w.heap.size + 1 + 1 + 1 + 1, 1, none⟩ = some (.string ⟨#[]⟩)
  f2 : w0.cell? ⟨w.heap.size + 1 + 1 + 1 + 1, 2, none⟩ = some (.int .i32 0)
  f3 : w0.cell? ⟨w.heap.size + 1 + 1 + 1 + 1, 3, none⟩ = some (.int .i64 2)
  lt5 : w.heap.size + 1 + 1 + 1 + 1 < w0.heap.size
theorem box5_new (w : World) (op : Int) : Box5 text recent last begun a bb size n sign char ctext cuts ad cap w (((((w.alloc (.cells #[.string ⟨text.toArray⟩, .int .i64 recent, .string ⟨last.toArray⟩, .bool begun] 81)).alloc (.cells #[.int .i64 op, .int .i64 a, .int .i64 bb, .int .u16 (size : Int), .int .i64 n, .int .u8 (sign.toNat : Int), .int .i32 char, .string ⟨ctext.toArray⟩, .slice ad cuts.length cap] 36)).alloc (.cells #[.string ⟨#[]⟩, .int .i64 0, .string ⟨#[]⟩, .bool false] 81)).alloc (.cells #[.int .i64 0, .string ⟨#[]⟩, .int .i32 0, .int .i64 0] 39)).alloc (.cells #[.int .i64 0, .string ⟨#[]⟩, .int .i32 0, .int .i64 2] 39)) op := by
  have h := box4_new text recent last begun a bb size n sign char ctext cuts ad cap w op
  have hb := heap_alloc_new ((((w.alloc (.cells #[.string ⟨text.toArray⟩, .int .i64 recent, .string ⟨last.toArray⟩, .bool begun] 81)).alloc (.cells #[.int .i64 op, .int .i64 a, .int .i64 bb, .int .u16 (size : Int), .int .i64 n, .int .u8 (sign.toNat : Int), .int .i32 char, .string ⟨ctext.toArray⟩, .slice ad cuts.length cap] 36)).alloc (.cells #[.string ⟨#[]⟩, .int .i64 0, .string ⟨#[]⟩, .bool false] 81)).alloc (.cells #[.int .i64 0, .string ⟨#[]⟩, .int .i32 0, .int .i64 0] 39)) (.cells #[.int .i64 0, .string ⟨#[]⟩, .int .i32 0, .int .i64 2] 39)
  simp only [World.size_alloc] at hb
  generalize ((((w.alloc (.cells #[.string ⟨text.toArray⟩, .int .i64 recent, .string ⟨last.toArray⟩, .bool begun] 81)).alloc (.cells #[.int .i64 op, .int .i64 a, .int .i64 bb, .int .u16 (size : Int), .int .i64 n, .int .u8 (sign.toNat : Int), .int .i32 char, .string ⟨ctext.toArray⟩, .slice ad cuts.length cap] 36)).alloc (.cells #[.string ⟨#[]⟩, .int .i64 0, .string ⟨#[]⟩, .bool false] 81)).alloc (.cells #[.int .i64 0, .string ⟨#[]⟩, .int .i32 0, .int .i64 0] 39)) = wx at *
  have F := (Fr.refl (fun _ => False) wx).alloc (.cells #[.int .i64 0, .string ⟨#[]⟩, .int .i32 0, .int .i64 2] 39)
  have lt := h.lt
  have k : ∀ p : Addr, p.block ≤ w.heap.size + 1 + 1 + 1 → (wx.alloc (.cells #[.int .i64 0, .string ⟨#[]⟩, .int .i32 0, .int .i64 2] 39)).cell? p = wx.cell? p := fun p hp => F.cell (by omega) (fun q => q)
  have kz : ∀ p : Addr, p.block ≤ w.heap.size + 1 + 1 + 1 → (wx.alloc (.cells #[.int .i64 0, .string ⟨#[]⟩, .int .i32 0, .int .i64 2] 39)).frozen? p = wx.frozen? p := fun p hp => F.frz (by omega) (fun q => q)
  refine ⟨⟨(k _ (by dsimp only; omega)).trans h.b0, (k _ (by dsimp only; omega)).trans h.b1, (k _ (by dsimp only; omega)).trans h.b2, (k _ (by dsimp only; omega)).trans h.b3, (k _ (by dsimp only; omega)).trans h.e0, (k _ (by dsimp only; omega)).trans h.e1, (k _ (by dsimp only; omega)).trans h.e2, (k _ (by dsimp only; omega)).trans h.e3, (k _ (by dsimp only; omega)).trans h.e4, (k _ (by dsimp only; omega)).trans h.e5, (k _ (by dsimp only; omega)).trans h.e6, (k _ (by dsimp only; omega)).trans h.e7, (k _ (by dsimp only; omega)).trans h.e8, (k _ (by dsimp only; omega)).trans h.r0, (k _ (by dsimp only; omega)).trans h.r1, (k _ (by dsimp only; omega)).trans h.r2, (k _ (by dsimp only; omega)).trans h.r3, (k _ (by dsimp only; omega)).trans h.t0, (k _ (by dsimp only; omega)).trans h.t1, (k _ (by dsimp only; omega)).trans h.t2, (k _ (by dsimp only; omega)).trans h.t3, fun i => (kz _ (by dsimp only; omega)).trans (h.rz i), fun i => (kz _ (by dsimp only; omega)).trans (h.tz i), h.fr.alloc _, by rw [World.size_alloc]; omega⟩, ?_, ?_, ?_, ?_, lt_of_blk hb⟩
  all_goals (rw [cell_of_row _ _ _ _ _ _ hb]; rfl)
theorem box5_ex (w : World) (op : Int) : ∃ w0, w0 = (((((w.alloc (.cells #[.string ⟨text.toArray⟩, .int .i64 recent, .string ⟨last.toArray⟩, .bool begun] 81)).alloc (.cells #[.int .i64 op, .int .i64 a, .int .i64 bb, .int .u16 (size : Int), .int .i64 n, .int .u8 (sign.toNat : Int), .int .i32 char, .string ⟨ctext.toArray⟩, .slice ad cuts.length cap] 36)).alloc (.cells #[.string ⟨#[]⟩, .int .i64 0, .string ⟨#[]⟩, .bool false] 81)).alloc (.cells #[.int .i64 0, .string ⟨#[]⟩, .int .i32 0, .int .i64 0] 39)).alloc (.cells #[.int .i64 0, .string ⟨#[]⟩, .int .i32 0, .int .i64 2] 39)) ∧ Box5 text recent last begun a bb size n sign char ctext cuts ad cap w w0 op := ⟨_, rfl, box5_new ..⟩
set_option maxHeartbeats 1600000 in
set_option maxRecDepth 100000 in
theorem spk_13y (w : World) (hr : recent = 2) (hl : text.length ≤ 1099511627776) (hl2 : last.length ≤ 8) :
    Calls Tryz.prog 59 #[SB.val ⟨text, recent, last, begun⟩, .agg #[.int .i64 13, .int .i64 a, .int .i64 bb, .int .u16 (size : Int), .int .i64 n, .int .u8 (sign.toNat : Int), .int .i32 char, .string ⟨ctext.toArray⟩, .slice ad cuts.length cap]] w (DoPost w (SB.other ⟨text, recent, last, begun⟩ (last ++ text)) ⟨0, [], 0, 0⟩ true) := by
  have hap := bytes_appL last text
  have hlim : ¬ (9223372036854775807 < last.length + text.length) := by omega
  have hrb : (recent == 2) = true := by simp [hr]
  have hcHC : ∀ wx, Calls Tryz.prog 57 #[SB.val ⟨text, recent, last, begun⟩, .string ⟨(last ++ text).toArray⟩] wx fun e w' => e = .returned (SB.val (SB.other ⟨text, recent, last, begun⟩ (last ++ text))) ∧ Fr (fun _ => False) wx w' := fun wx => sp_other text recent last begun (last ++ text) wx
  obtain ⟨rt, rr, rl, rb, hresHC⟩ : ∃ rt rr rl rb, (SB.other ⟨text, recent, last, begun⟩ (last ++ text)) = SB.mk rt rr rl rb := ⟨_, _, _, _, rfl⟩
  rw [hresHC] at hcHC ⊢
  simp only [SB.val, SB.cells] at hcHC
  have HC := Lib.hid hcHC
  clear hresHC hcHC
  clear hr
  obtain ⟨w0, hw0, hX⟩ := box5_ex text recent last begun a bb size n sign char ctext cuts ad cap w (13)
  have HX := Lib.hid hX
  have HW0 := Lib.hid hw0
  obtain ⟨⟨b0, b1, b2, b3, e0, e1, e2, e3, e4, e5, e6, e7, e8, r0, r1, r2, r3, t0, t1, t2, t3, rz, tz, _, hlt⟩, f0, f1, f2, f3, hlt5⟩ := hX
  have rz0 := rz 0; have rz1 := rz 1; have rz2 := rz 2; have rz3 := rz 3; have tz0 := tz 0; have tz1 := tz 1; have tz2 := tz 2; have tz3 := tz 3
  clear hw0 rz tz
  simp only [SB.val, SB.cells]
  go_enter Tryz.func59, Tryz.ntmps59
  go_wp2_with fail
  rw [← HW0.out]
  refine (HC.out _).mono ?_
  rintro e w1 ⟨rfl, F1⟩
  have HF1 : Hid (Fr (fun _ => False) w0 w1) := Lib.hid (Fr.trans (by (repeat (with_reducible first | exact Fr.refl _ _ | exact HF1.out | refine Fr.drew ?_ | refine Fr.alloc ?_ _ | refine Fr.drewN ?_ _))) F1)
  clear F1
  obtain ⟨r0x, r1x, r2x, r3x, t0x, t1x, t2x, t3x, rz0x, rz1x, rz2x, rz3x, tz0x, tz1x, tz2x, tz3x⟩ := kept_rt HF1.out r0 r1 r2 r3 t0 t1 t2 t3 rz0 rz1 rz2 rz3 tz0 tz1 tz2 tz3
  go_wp2_with fail
  obtain ⟨w8, hw8, hF8, q0, q1, q2, q3, q4, q5, q6, q7⟩ := two_end (w1 := w1) (x := w.heap.size + 1 + 1) (y := w.heap.size + 1 + 1 + 1) (by first | exact HX.out.fr.trans HF2.out | exact HX.out.fr.trans HF1.out | exact HX.out.b4.fr.trans HF1.out | exact HX.out.fr | exact HX.out.b4.fr) (by omega) (by omega) (by omega) r0x r1x r2x r3x t0x t1x t2x t3x (.string ⟨rt.toArray⟩) (.int .i64 rr) (.string ⟨rl.toArray⟩) (.bool rb) (.int .i64 0) (.string ⟨#[]⟩) (.int .i32 0) (.int .i64 0)
  have HF8 := Lib.hid hF8
  rw [← hw8]
  refine bodyPost_ret (v := .tuple #[SB.val ⟨rt, rr, rl, rb⟩, Td.val ⟨0, [], 0, 0⟩, .bool true]) (by simp [results, Tryz.results59, go_sem, SB.val, SB.cells, Td.val, Td.cells, q0, q1, q2, q3, q4, q5, q6, q7]) rfl ?_
  exact ⟨rfl, HF8.out⟩
set_option maxHeartbeats 1600000 in
set_option maxRecDepth 100000 in
theorem spk_13n (w : World) (hr : ¬ recent = 2) :
    Calls Tryz.prog 59 #[SB.val ⟨text, recent, last, begun⟩, .agg #[.int .i64 13, .int .i64 a, .int .i64 bb, .int .u16 (size : Int), .int .i64 n, .int .u8 (sign.toNat : Int), .int .i32 char, .string ⟨ctext.toArray⟩, .slice ad cuts.length cap]] w (DoPost w ⟨text, recent, last, begun⟩ ⟨0, [], 0, 2⟩ (decide (recent ≠ 0))) := by
  have hrb : (recent == 2) = false := by simp [hr]
  obtain ⟨ob, hob⟩ : ∃ ob, ob = decide (recent ≠ 0) := ⟨_, rfl⟩
  rw [← hob]
  have hok : (recent != 0) = ob := by rw [hob]; by_cases h : recent = 0 <;> simp [h]
  clear hr hob
  obtain ⟨w0, hw0, hX⟩ := box5_ex text recent last begun a bb size n sign char ctext cuts ad cap w (13)
  have HX := Lib.hid hX
  have HW0 := Lib.hid hw0
  obtain ⟨⟨b0, b1, b2, b3, e0, e1, e2, e3, e4, e5, e6, e7, e8, r0, r1, r2, r3, t0, t1, t2, t3, rz, tz, _, hlt⟩, f0, f1, f2, f3, hlt5⟩ := hX
  have rz0 := rz 0; have rz1 := rz 1; have rz2 := rz 2; have rz3 := rz 3; have tz0 := tz 0; have tz1 := tz 1; have tz2 := tz 2; have tz3 := tz 3
  clear hw0 rz tz
  simp only [SB.val, SB.cells]
  go_enter Tryz.func59, Tryz.ntmps59
  go_wp2_with fail
  rw [← HW0.out]
  go_region_held3 (fun w' => w'.cell? ⟨w.heap.size, 0, none⟩ = some (.string ⟨text.toArray⟩) ∧ w'.cell? ⟨w.heap.size, 1, none⟩ = some (.int .i64 recent) ∧ w'.cell? ⟨w.heap.size, 2, none⟩ = some (.string ⟨last.toArray⟩) ∧ w'.cell? ⟨w.heap.size, 3, none⟩ = some (.bool begun) ∧ w'.cell? ⟨w.heap.size + 1 + 1 + 1 + 1, 0, none⟩ = some (.int .i64 0) ∧ w'.cell? ⟨w.heap.size + 1 + 1 + 1 + 1, 1, none⟩ = some (.string ⟨#[]⟩) ∧ w'.cell? ⟨w.heap.size + 1 + 1 + 1 + 1, 2, none⟩ = some (.int .i32 0) ∧ w'.cell? ⟨w.heap.size + 1 + 1 + 1 + 1, 3, none⟩ = some (.int .i64 2)) (((repeat' apply And.intro) <;> (try simp only [World.cell?_drew]) <;> first | with_reducible assumption | with_reducible exact alloc_cell (by with_reducible assumption) | with_reducible exact far4 (by with_reducible assumption) (by dsimp only; omega) | with_reducible exact far4 (far4 (by with_reducible assumption) (by dsimp only; omega)) (by dsimp only; omega))) (fail)
  go_wp2_with fail
  obtain ⟨w8, hw8, hF8, q0, q1, q2, q3, q4, q5, q6, q7⟩ := two_endd (w1 := w0) (x := w.heap.size + 1 + 1) (y := w.heap.size + 1 + 1 + 1) (by first | exact HX.out.fr.trans HF2.out | exact HX.out.fr.trans HF1.out | exact HX.out.b4.fr.trans HF1.out | exact HX.out.fr | exact HX.out.b4.fr) (by omega) (by omega) (by omega) r0 r1 r2 r3 t0 t1 t2 t3 (.string ⟨text.toArray⟩) (.int .i64 recent) (.string ⟨last.toArray⟩) (.bool begun) (.int .i64 0) (.string ⟨#[]⟩) (.int .i32 0) (.int .i64 2)
  have HF8 := Lib.hid hF8
  rw [← hw8]
  refine bodyPost_ret (v := .tuple #[SB.val ⟨text, recent, last, begun⟩, Td.val ⟨0, [], 0, 2⟩, .bool ob]) (by simp [results, Tryz.results59, go_sem, SB.val, SB.cells, Td.val, Td.cells, q0, q1, q2, q3, q4, q5, q6, q7]) rfl ?_
  exact ⟨rfl, HF8.out⟩
set_option maxHeartbeats 1600000 in
set_option maxRecDepth 100000 in
theorem spk_12_1 (w : World) (hr : recent = 1) (hl : text.length ≤ 1099511627776) (hl1 : 1 ≤ last.length) (hl2 : last.length ≤ 8) :
    Calls Tryz.prog 59 #[SB.val ⟨text, recent, last, begun⟩, .agg #[.int .i64 12, .int .i64 a, .int .i64 bb, .int .u16 (size : Int), .int .i64 n, .int .u8 (sign.toNat : Int), .int .i32 char, .string ⟨ctext.toArray⟩, .slice ad cuts.length cap]] w (DoPost w (SB.other ⟨text, recent, last, begun⟩ (last.drop (last.length - 1) ++ text)) ⟨0, [], 0, 0⟩ true) := by
  have x1 := ext_drop last (last.length - 1)
  have hw1 : IntKind.i64.wrap ((last.length : Int) - 1) = ((last.length - 1 : Nat) : Int) := by rw [IntWalk.i64_in _ (by omega)]; omega
  have hdl : (last.drop (last.length - 1)).length = 1 := by simp; omega
  have hap := bytes_appL (last.drop (last.length - 1)) text
  have hlim : ¬ (9223372036854775807 < (last.drop (last.length - 1)).length + text.length) := by omega
  have hcHC : ∀ wx, Calls Tryz.prog 57 #[SB.val ⟨text, recent, last, begun⟩, .string ⟨(last.drop (last.length - 1) ++ text).toArray⟩] wx fun e w' => e = .returned (SB.val (SB.other ⟨text, recent, last, begun⟩ (last.drop (last.length - 1) ++ text))) ∧ Fr (fun _ => False) wx w' := fun wx => sp_other text recent last begun (last.drop (last.length - 1) ++ text) wx
  obtain ⟨rt, rr, rl, rb, hresHC⟩ : ∃ rt rr rl rb, (SB.other ⟨text, recent, last, begun⟩ (last.drop (last.length - 1) ++ text)) = SB.mk rt rr rl rb := ⟨_, _, _, _, rfl⟩
  rw [hresHC] at hcHC ⊢
  simp only [SB.val, SB.cells] at hcHC
  have HC := Lib.hid hcHC
  clear hresHC hcHC
  obtain ⟨dl, hdl2⟩ : ∃ dl, dl = last.drop (last.length - 1) := ⟨_, rfl⟩
  rw [← hdl2] at x1 hdl hap hlim HC
  obtain ⟨k1, hk1⟩ : ∃ k1, k1 = last.length - 1 := ⟨_, rfl⟩
  rw [← hk1] at x1 hw1
  have hk0 : (0 : Int) ≤ (k1 : Int) := by omega
  have hk2 : (k1 : Int) ≤ (last.length : Int) := by omega
  have hrb : (recent == 1) = true := by simp [hr]
  have hrc : (recent == 1) = true := by simp [hr]
  clear hdl hdl2 hk1 hl1 hr
  obtain ⟨w0, hw0, hX⟩ := box5_ex text recent last begun a bb size n sign char ctext cuts ad cap w (12)
  have HX := Lib.hid hX
  have HW0 := Lib.hid hw0
  obtain ⟨⟨b0, b1, b2, b3, e0, e1, e2, e3, e4, e5, e6, e7, e8, r0, r1, r2, r3, t0, t1, t2, t3, rz, tz, _, hlt⟩, f0, f1, f2, f3, hlt5⟩ := hX
  have rz0 := rz 0; have rz1 := rz 1; have rz2 := rz 2; have rz3 := rz 3; have tz0 := tz 0; have tz1 := tz 1; have tz2 := tz 2; have tz3 := tz 3
  clear hw0 rz tz
  simp only [SB.val, SB.cells]
  go_enter Tryz.func59, Tryz.ntmps59
  go_wp2_with fail
  rw [← HW0.out]
  go_region_held3 (fun w' => w'.cell? ⟨w.heap.size, 0, none⟩ = some (.string ⟨text.toArray⟩) ∧ w'.cell? ⟨w.heap.size, 1, none⟩ = some (.int .i64 recent) ∧ w'.cell? ⟨w.heap.size, 2, none⟩ = some (.string ⟨last.toArray⟩) ∧ w'.cell? ⟨w.heap.size, 3, none⟩ = some (.bool begun)) (((repeat' apply And.intro) <;> (try simp only [World.cell?_drew]) <;> first | with_reducible assumption | with_reducible exact alloc_cell (by with_reducible assumption) | with_reducible exact far4 (by with_reducible assumption) (by dsimp only; omega) | with_reducible exact far4 (far4 (by with_reducible assumption) (by dsimp only; omega)) (by dsimp only; omega))) ((go_at_call 57; refine (HC.out _).mono ?_; rintro e w1 ⟨rfl, F1⟩; have HF1 : Hid (Fr (fun _ => False) w0 w1) := Lib.hid (Fr.trans (by (repeat (with_reducible first | exact Fr.refl _ _ | exact HF1.out | refine Fr.drew ?_ | refine Fr.alloc ?_ _ | refine Fr.drewN ?_ _))) F1); clear F1; have b0x := keep1 HF1.out b0; have b1x := keep1 HF1.out b1; have b2x := keep1 HF1.out b2; have b3x := keep1 HF1.out b3; obtain ⟨r0x, r1x, r2x, r3x, t0x, t1x, t2x, t3x, rz0x, rz1x, rz2x, rz3x, tz0x, tz1x, tz2x, tz3x⟩ := kept_rt HF1.out r0 r1 r2 r3 t0 t1 t2 t3 rz0 rz1 rz2 rz3 tz0 tz1 tz2 tz3))
  go_wp2_with fail
  obtain ⟨w8, hw8, hF8, q0, q1, q2, q3, q4, q5, q6, q7⟩ := two_end (w1 := w1) (x := w.heap.size + 1 + 1) (y := w.heap.size + 1 + 1 + 1) (by first | exact HX.out.fr.trans HF2.out | exact HX.out.fr.trans HF1.out | exact HX.out.b4.fr.trans HF1.out | exact HX.out.fr | exact HX.out.b4.fr) (by omega) (by omega) (by omega) r0x r1x r2x r3x t0x t1x t2x t3x (.string ⟨rt.toArray⟩) (.int .i64 rr) (.string ⟨rl.toArray⟩) (.bool rb) (.int .i64 0) (.string ⟨#[]⟩) (.int .i32 0) (.int .i64 0)
  have HF8 := Lib.hid hF8
  rw [← hw8]
  refine bodyPost_ret (v := .tuple #[SB.val ⟨rt, rr, rl, rb⟩, Td.val ⟨0, [], 0, 0⟩, .bool true]) (by simp [results, Tryz.results59, go_sem, SB.val, SB.cells, Td.val, Td.cells, q0, q1, q2, q3, q4, q5, q6, q7]) rfl ?_
  exact ⟨rfl, HF8.out⟩
set_option maxHeartbeats 1600000 in
set_option maxRecDepth 100000 in
theorem spk_12_2 (w : World) (hr : recent = 2) (hl : text.length ≤ 1099511627776) (hl1 : 1 ≤ last.length) (hl2 : last.length ≤ 8) :
    Calls Tryz.prog 59 #[SB.val ⟨text, recent, last, begun⟩, .agg #[.int .i64 12, .int .i64 a, .int .i64 bb, .int .u16 (size : Int), .int .i64 n, .int .u8 (sign.toNat : Int), .int .i32 char, .string ⟨ctext.toArray⟩, .slice ad cuts.length cap]] w (DoPost w (SB.other ⟨text, recent, last, begun⟩ (last.drop (last.length - 1) ++ text)) ⟨0, [], 0, 0⟩ true) := by
  have x1 := ext_drop last (last.length - 1)
  have hw1 : IntKind.i64.wrap ((last.length : Int) - 1) = ((last.length - 1 : Nat) : Int) := by rw [IntWalk.i64_in _ (by omega)]; omega
  have hdl : (last.drop (last.length - 1)).length = 1 := by simp; omega
  have hap := bytes_appL (last.drop (last.length - 1)) text
  have hlim : ¬ (9223372036854775807 < (last.drop (last.length - 1)).length + text.length) := by omega
  have hcHC : ∀ wx, Calls Tryz.prog 57 #[SB.val ⟨text, recent, last, begun⟩, .string ⟨(last.drop (last.length - 1) ++ text).toArray⟩] wx fun e w' => e = .returned (SB.val (SB.other ⟨text, recent, last, begun⟩ (last.drop (last.length - 1) ++ text))) ∧ Fr (fun _ => False) wx w' := fun wx => sp_other text recent last begun (last.drop (last.length - 1) ++ text) wx
  obtain ⟨rt, rr, rl, rb, hresHC⟩ : ∃ rt rr rl rb, (SB.other ⟨text, recent, last, begun⟩ (last.drop (last.length - 1) ++ text)) = SB.mk rt rr rl rb := ⟨_, _, _, _, rfl⟩
  rw [hresHC] at hcHC ⊢
  simp only [SB.val, SB.cells] at hcHC
  have HC := Lib.hid hcHC
  clear hresHC hcHC
  obtain ⟨dl, hdl2⟩ : ∃ dl, dl = last.drop (last.length - 1) := ⟨_, rfl⟩
  rw [← hdl2] at x1 hdl hap hlim HC
  obtain ⟨k1, hk1⟩ : ∃ k1, k1 = last.length - 1 := ⟨_, rfl⟩
  rw [← hk1] at x1 hw1
  have hk0 : (0 : Int) ≤ (k1 : Int) := by omega
  have hk2 : (k1 : Int) ≤ (last.length : Int) := by omega
  have hrb : (recent == 2) = true := by simp [hr]
  have hrc : (recent == 1) = false := by simp [hr]
  clear hdl hdl2 hk1 hl1 hr
  obtain ⟨w0, hw0, hX⟩ := box5_ex text recent last begun a bb size n sign char ctext cuts ad cap w (12)
  have HX := Lib.hid hX
  have HW0 := Lib.hid hw0
  obtain ⟨⟨b0, b1, b2, b3, e0, e1, e2, e3, e4, e5, e6, e7, e8, r0, r1, r2, r3, t0, t1, t2, t3, rz, tz, _, hlt⟩, f0, f1, f2, f3, hlt5⟩ := hX
  have rz0 := rz 0; have rz1 := rz 1; have rz2 := rz 2; have rz3 := rz 3; have tz0 := tz 0; have tz1 := tz 1; have tz2 := tz 2; have tz3 := tz 3
  clear hw0 rz tz
  simp only [SB.val, SB.cells]
  go_enter Tryz.func59, Tryz.ntmps59
  go_wp2_with fail
  rw [← HW0.out]
  go_region_held3 (fun w' => w'.cell? ⟨w.heap.size, 0, none⟩ = some (.string ⟨text.toArray⟩) ∧ w'.cell? ⟨w.heap.size, 1, none⟩ = some (.int .i64 recent) ∧ w'.cell? ⟨w.heap.size, 2, none⟩ = some (.string ⟨last.toArray⟩) ∧ w'.cell? ⟨w.heap.size, 3, none⟩ = some (.bool begun)) (((repeat' apply And.intro) <;> (try simp only [World.cell?_drew]) <;> first | with_reducible assumption | with_reducible exact alloc_cell (by with_reducible assumption) | with_reducible exact far4 (by with_reducible assumption) (by dsimp only; omega) | with_reducible exact far4 (far4 (by with_reducible assumption) (by dsimp only; omega)) (by dsimp only; omega))) ((go_at_call 57; refine (HC.out _).mono ?_; rintro e w1 ⟨rfl, F1⟩; have HF1 : Hid (Fr (fun _ => False) w0 w1) := Lib.hid (Fr.trans (by (repeat (with_reducible first | exact Fr.refl _ _ | exact HF1.out | refine Fr.drew ?_ | refine Fr.alloc ?_ _ | refine Fr.drewN ?_ _))) F1); clear F1; have b0x := keep1 HF1.out b0; have b1x := keep1 HF1.out b1; have b2x := keep1 HF1.out b2; have b3x := keep1 HF1.out b3; obtain ⟨r0x, r1x, r2x, r3x, t0x, t1x, t2x, t3x, rz0x, rz1x, rz2x, rz3x, tz0x, tz1x, tz2x, tz3x⟩ := kept_rt HF1.out r0 r1 r2 r3 t0 t1 t2 t3 rz0 rz1 rz2 rz3 tz0 tz1 tz2 tz3))
  go_wp2_with fail
  obtain ⟨w8, hw8, hF8, q0, q1, q2, q3, q4, q5, q6, q7⟩ := two_end (w1 := w1) (x := w.heap.size + 1 + 1) (y := w.heap.size + 1 + 1 + 1) (by first | exact HX.out.fr.trans HF2.out | exact HX.out.fr.trans HF1.out | exact HX.out.b4.fr.trans HF1.out | exact HX.out.fr | exact HX.out.b4.fr) (by omega) (by omega) (by omega) r0x r1x r2x r3x t0x t1x t2x t3x (.string ⟨rt.toArray⟩) (.int .i64 rr) (.string ⟨rl.toArray⟩) (.bool rb) (.int .i64 0) (.string ⟨#[]⟩) (.int .i32 0) (.int .i64 0)
  have HF8 := Lib.hid hF8
  rw [← hw8]
  refine bodyPost_ret (v := .tuple #[SB.val ⟨rt, rr, rl, rb⟩, Td.val ⟨0, [], 0, 0⟩, .bool true]) (by simp [results, Tryz.results59, go_sem, SB.val, SB.cells, Td.val, Td.cells, q0, q1, q2, q3, q4, q5, q6, q7]) rfl ?_
  exact ⟨rfl, HF8.out⟩
set_option maxHeartbeats 1600000 in
set_option maxRecDepth 100000 in
theorem spk_12_3 (w : World) (hr : recent = 3) :
    Calls Tryz.prog 59 #[SB.val ⟨text, recent, last, begun⟩, .agg #[.int .i64 12, .int .i64 a, .int .i64 bb, .int .u16 (size : Int), .int .i64 n, .int .u8 (sign.toNat : Int), .int .i32 char, .string ⟨ctext.toArray⟩, .slice ad cuts.length cap]] w (DoPost w ⟨text, recent, last, begun⟩ ⟨0, [], 0, 2⟩ true) := by
  have hb1 : (recent == 1) = false := by simp [hr]
  have hb2 : (recent == 2) = false := by simp [hr]
  have hb3 : (recent == 3) = true := by simp [hr]
  clear hr
  obtain ⟨w0, hw0, hX⟩ := box5_ex text recent last begun a bb size n sign char ctext cuts ad cap w (12)
  have HX := Lib.hid hX
  have HW0 := Lib.hid hw0
  obtain ⟨⟨b0, b1, b2, b3, e0, e1, e2, e3, e4, e5, e6, e7, e8, r0, r1, r2, r3, t0, t1, t2, t3, rz, tz, _, hlt⟩, f0, f1, f2, f3, hlt5⟩ := hX
  have rz0 := rz 0; have rz1 := rz 1; have rz2 := rz 2; have rz3 := rz 3; have tz0 := tz 0; have tz1 := tz 1; have tz2 := tz 2; have tz3 := tz 3
  clear hw0 rz tz
  simp only [SB.val, SB.cells]
  go_enter Tryz.func59, Tryz.ntmps59
  go_wp2_with fail
  rw [← HW0.out]
  go_region_held3 (fun w' => w'.cell? ⟨w.heap.size, 0, none⟩ = some (.string ⟨text.toArray⟩) ∧ w'.cell? ⟨w.heap.size, 1, none⟩ = some (.int .i64 recent) ∧ w'.cell? ⟨w.heap.size, 2, none⟩ = some (.string ⟨last.toArray⟩) ∧ w'.cell? ⟨w.heap.size, 3, none⟩ = some (.bool begun) ∧ w'.cell? ⟨w.heap.size + 1 + 1 + 1 + 1, 0, none⟩ = some (.int .i64 0) ∧ w'.cell? ⟨w.heap.size + 1 + 1 + 1 + 1, 1, none⟩ = some (.string ⟨#[]⟩) ∧ w'.cell? ⟨w.heap.size + 1 + 1 + 1 + 1, 2, none⟩ = some (.int .i32 0) ∧ w'.cell? ⟨w.heap.size + 1 + 1 + 1 + 1, 3, none⟩ = some (.int .i64 2)) (((repeat' apply And.intro) <;> (try simp only [World.cell?_drew]) <;> first | with_reducible assumption | with_reducible exact alloc_cell (by with_reducible assumption) | with_reducible exact far4 (by with_reducible assumption) (by dsimp only; omega) | with_reducible exact far4 (far4 (by with_reducible assumption) (by dsimp only; omega)) (by dsimp only; omega))) (fail)
  go_wp2_with fail
  obtain ⟨w8, hw8, hF8, q0, q1, q2, q3, q4, q5, q6, q7⟩ := two_endd (w1 := w0) (x := w.heap.size + 1 + 1) (y := w.heap.size + 1 + 1 + 1) (by first | exact HX.out.fr.trans HF2.out | exact HX.out.fr.trans HF1.out | exact HX.out.b4.fr.trans HF1.out | exact HX.out.fr | exact HX.out.b4.fr) (by omega) (by omega) (by omega) r0 r1 r2 r3 t0 t1 t2 t3 (.string ⟨text.toArray⟩) (.int .i64 recent) (.string ⟨last.toArray⟩) (.bool begun) (.int .i64 0) (.string ⟨#[]⟩) (.int .i32 0) (.int .i64 2)
  have HF8 := Lib.hid hF8
  rw [← hw8]
  refine bodyPost_ret (v := .tuple #[SB.val ⟨text, recent, last, begun⟩, Td.val ⟨0, [], 0, 2⟩, .bool true]) (by simp [results, Tryz.results59, go_sem, SB.val, SB.cells, Td.val, Td.cells, q0, q1, q2, q3, q4, q5, q6, q7]) rfl ?_
  exact ⟨rfl, HF8.out⟩
set_option maxHeartbeats 1600000 in
set_option maxRecDepth 100000 in
theorem spk_12_4 (w : World) (hr : recent = 4) :
    Calls Tryz.prog 59 #[SB.val ⟨text, recent, last, begun⟩, .agg #[.int .i64 12, .int .i64 a, .int .i64 bb, .int .u16 (size : Int), .int .i64 n, .int .u8 (sign.toNat : Int), .int .i32 char, .string ⟨ctext.toArray⟩, .slice ad cuts.length cap]] w (DoPost w ⟨text, recent, last, begun⟩ ⟨0, [], 0, 2⟩ begun) := by
  have hb1 : (recent == 1) = false := by simp [hr]
  have hb2 : (recent == 2) = false := by simp [hr]
  have hb3 : (recent == 3) = false := by simp [hr]
  have hb4 : (recent == 4) = true := by simp [hr]
  clear hr
  obtain ⟨w0, hw0, hX⟩ := box5_ex text recent last begun a bb size n sign char ctext cuts ad cap w (12)
  have HX := Lib.hid hX
  have HW0 := Lib.hid hw0
  obtain ⟨⟨b0, b1, b2, b3, e0, e1, e2, e3, e4, e5, e6, e7, e8, r0, r1, r2, r3, t0, t1, t2, t3, rz, tz, _, hlt⟩, f0, f1, f2, f3, hlt5⟩ := hX
  have rz0 := rz 0; have rz1 := rz 1; have rz2 := rz 2; have rz3 := rz 3; have tz0 := tz 0; have tz1 := tz 1; have tz2 := tz 2; have tz3 := tz 3
  clear hw0 rz tz
  simp only [SB.val, SB.cells]
  go_enter Tryz.func59, Tryz.ntmps59
  go_wp2_with fail
  rw [← HW0.out]
  go_region_held3 (fun w' => w'.cell? ⟨w.heap.size, 0, none⟩ = some (.string ⟨text.toArray⟩) ∧ w'.cell? ⟨w.heap.size, 1, none⟩ = some (.int .i64 recent) ∧ w'.cell? ⟨w.heap.size, 2, none⟩ = some (.string ⟨last.toArray⟩) ∧ w'.cell? ⟨w.heap.size, 3, none⟩ = some (.bool begun) ∧ w'.cell? ⟨w.heap.size + 1 + 1 + 1 + 1, 0, none⟩ = some (.int .i64 0) ∧ w'.cell? ⟨w.heap.size + 1 + 1 + 1 + 1, 1, none⟩ = some (.string ⟨#[]⟩) ∧ w'.cell? ⟨w.heap.size + 1 + 1 + 1 + 1, 2, none⟩ = some (.int .i32 0) ∧ w'.cell? ⟨w.heap.size + 1 + 1 + 1 + 1, 3, none⟩ = some (.int .i64 2)) (((repeat' apply And.intro) <;> (try simp only [World.cell?_drew]) <;> first | with_reducible assumption | with_reducible exact alloc_cell (by with_reducible assumption) | with_reducible exact far4 (by with_reducible assumption) (by dsimp only; omega) | with_reducible exact far4 (far4 (by with_reducible assumption) (by dsimp only; omega)) (by dsimp only; omega))) (fail)
  go_wp2_with fail
  obtain ⟨w8, hw8, hF8, q0, q1, q2, q3, q4, q5, q6, q7⟩ := two_endd (w1 := w0) (x := w.heap.size + 1 + 1) (y := w.heap.size + 1 + 1 + 1) (by first | exact HX.out.fr.trans HF2.out | exact HX.out.fr.trans HF1.out | exact HX.out.b4.fr.trans HF1.out | exact HX.out.fr | exact HX.out.b4.fr) (by omega) (by omega) (by omega) r0 r1 r2 r3 t0 t1 t2 t3 (.string ⟨text.toArray⟩) (.int .i64 recent) (.string ⟨last.toArray⟩) (.bool begun) (.int .i64 0) (.string ⟨#[]⟩) (.int .i32 0) (.int .i64 2)
  have HF8 := Lib.hid hF8
  rw [← hw8]
  refine bodyPost_ret (v := .tuple #[SB.val ⟨text, recent, last, begun⟩, Td.val ⟨0, [], 0, 2⟩, .bool begun]) (by simp [results, Tryz.results59, go_sem, SB.val, SB.cells, Td.val, Td.cells, q0, q1, q2, q3, q4, q5, q6, q7]) rfl ?_
  exact ⟨rfl, HF8.out⟩
set_option maxHeartbeats 1600000 in
set_option maxRecDepth 100000 in
theorem spk_12_n (w : World) (h1 : ¬ recent = 1) (h2 : ¬ recent = 2) (h3 : ¬ recent = 3) (h4 : ¬ recent = 4) :
    Calls Tryz.prog 59 #[SB.val ⟨text, recent, last, begun⟩, .agg #[.int .i64 12, .int .i64 a, .int .i64 bb, .int .u16 (size : Int), .int .i64 n, .int .u8 (sign.toNat : Int), .int .i32 char, .string ⟨ctext.toArray⟩, .slice ad cuts.length cap]] w (DoPost w ⟨text, recent, last, begun⟩ ⟨0, [], 0, 2⟩ false) := by
  have hb1 : (recent == 1) = false := by simp [h1]
  have hb2 : (recent == 2) = false := by simp [h2]
  have hb3 : (recent == 3) = false := by simp [h3]
  have hb4 : (recent == 4) = false := by simp [h4]
  obtain ⟨w0, hw0, hX⟩ := box5_ex text recent last begun a bb size n sign char ctext cuts ad cap w (12)
  have HX := Lib.hid hX
  have HW0 := Lib.hid hw0
  obtain ⟨⟨b0, b1, b2, b3, e0, e1, e2, e3, e4, e5, e6, e7, e8, r0, r1, r2, r3, t0, t1, t2, t3, rz, tz, _, hlt⟩, f0, f1, f2, f3, hlt5⟩ := hX
  have rz0 := rz 0; have rz1 := rz 1; have rz2 := rz 2; have rz3 := rz 3; have tz0 := tz 0; have tz1 := tz 1; have tz2 := tz 2; have tz3 := tz 3
  clear hw0 rz tz
  simp only [SB.val, SB.cells]
  go_enter Tryz.func59, Tryz.ntmps59
  go_wp2_with fail
  rw [← HW0.out]
  go_region_held3 (fun w' => w'.cell? ⟨w.heap.size, 0, none⟩ = some (.string ⟨text.toArray⟩) ∧ w'.cell? ⟨w.heap.size, 1, none⟩ = some (.int .i64 recent) ∧ w'.cell? ⟨w.heap.size, 2, none⟩ = some (.string ⟨last.toArray⟩) ∧ w'.cell? ⟨w.heap.size, 3, none⟩ = some (.bool begun) ∧ w'.cell? ⟨w.heap.size + 1 + 1 + 1 + 1, 0, none⟩ = some (.int .i64 0) ∧ w'.cell? ⟨w.heap.size + 1 + 1 + 1 + 1, 1, none⟩ = some (.string ⟨#[]⟩) ∧ w'.cell? ⟨w.heap.size + 1 + 1 + 1 + 1, 2, none⟩ = some (.int .i32 0) ∧ w'.cell? ⟨w.heap.size + 1 + 1 + 1 + 1, 3, none⟩ = some (.int .i64 2)) (((repeat' apply And.intro) <;> (try simp only [World.cell?_drew]) <;> first | with_reducible assumption | with_reducible exact alloc_cell (by with_reducible assumption) | with_reducible exact far4 (by with_reducible assumption) (by dsimp only; omega) | with_reducible exact far4 (far4 (by with_reducible assumption) (by dsimp only; omega)) (by dsimp only; omega))) (fail)
  go_wp2_with fail
  obtain ⟨w8, hw8, hF8, q0, q1, q2, q3, q4, q5, q6, q7⟩ := two_endd (w1 := w0) (x := w.heap.size + 1 + 1) (y := w.heap.size + 1 + 1 + 1) (by first | exact HX.out.fr.trans HF2.out | exact HX.out.fr.trans HF1.out | exact HX.out.b4.fr.trans HF1.out | exact HX.out.fr | exact HX.out.b4.fr) (by omega) (by omega) (by omega) r0 r1 r2 r3 t0 t1 t2 t3 (.string ⟨text.toArray⟩) (.int .i64 recent) (.string ⟨last.toArray⟩) (.bool begun) (.int .i64 0) (.string ⟨#[]⟩) (.int .i32 0) (.int .i64 2)
  have HF8 := Lib.hid hF8
  rw [← hw8]
  refine bodyPost_ret (v := .tuple #[SB.val ⟨text, recent, last, begun⟩, Td.val ⟨0, [], 0, 2⟩, .bool false]) (by simp [results, Tryz.results59, go_sem, SB.val, SB.cells, Td.val, Td.cells, q0, q1, q2, q3, q4, q5, q6, q7]) rfl ?_
  exact ⟨rfl, HF8.out⟩
theorem sp_back (op : Int) (hop : op = 12 ∨ op = 13) (w : World) (hl : text.length ≤ 1099511627776) (hl1 : recent = 1 ∨ recent = 2 → 1 ≤ last.length) (hl2 : last.length ≤ 8) :
    Calls Tryz.prog 59 #[SB.val ⟨text, recent, last, begun⟩, .agg #[.int .i64 op, .int .i64 a, .int .i64 bb, .int .u16 (size : Int), .int .i64 n, .int .u8 (sign.toNat : Int), .int .i32 char, .string ⟨ctext.toArray⟩, .slice ad cuts.length cap]] w (DoPost w (SB.back ⟨text, recent, last, begun⟩ ⟨op, a, bb, size, n, sign, char, ctext, cuts, ad, cap⟩).1 (SB.back ⟨text, recent, last, begun⟩ ⟨op, a, bb, size, n, sign, char, ctext, cuts, ad, cap⟩).2.1 (SB.back ⟨text, recent, last, begun⟩ ⟨op, a, bb, size, n, sign, char, ctext, cuts, ad, cap⟩).2.2) := by
  unfold SB.back
  simp only
  rcases hop with rfl | rfl
  · rw [if_neg (by decide)]
    by_cases h1 : recent = 1
    · rw [if_pos (.inl h1)]
      exact spk_12_1 text recent last begun a bb size n sign char ctext cuts ad cap w h1 hl (hl1 (.inl h1)) hl2
    by_cases h2 : recent = 2
    · rw [if_pos (.inr h2)]
      exact spk_12_2 text recent last begun a bb size n sign char ctext cuts ad cap w h2 hl (hl1 (.inr h2)) hl2
    rw [if_neg (by omega)]
    by_cases h3 : recent = 3
    · rw [if_pos h3]
      exact spk_12_3 text recent last begun a bb size n sign char ctext cuts ad cap w h3
    rw [if_neg h3]
    by_cases h4 : recent = 4
    · rw [if_pos h4]
      exact spk_12_4 text recent last begun a bb size n sign char ctext cuts ad cap w h4
    rw [if_neg h4]
    exact spk_12_n text recent last begun a bb size n sign char ctext cuts ad cap w h1 h2 h3 h4
  · rw [if_pos rfl]
    by_cases h2 : recent = 2
    · rw [if_pos h2]
      exact spk_13y text recent last begun a bb size n sign char ctext cuts ad cap w h2 hl hl2
    · rw [if_neg h2]
      exact spk_13n text recent last begun a bb size n sign char ctext cuts ad cap w h2
set_option maxHeartbeats 1600000 in
set_option maxRecDepth 100000 in
theorem spl_14x (w : World) (hlt0 : text.length < size) (hs : size ≤ 65535) :
    Calls Tryz.prog 60 #[SB.val ⟨text, recent, last, begun⟩, .agg #[.int .i64 14, .int .i64 a, .int .i64 bb, .int .u16 (size : Int), .int .i64 n, .int .u8 (sign.toNat : Int), .int .i32 char, .string ⟨ctext.toArray⟩, .slice ad cuts.length cap]] w (DoPost w ⟨text, recent, last, begun⟩ ⟨0, [], 0, 0⟩ false) := by
  have hls : (text.length : Int) < (size : Int) := by omega
  have hsw : IntKind.i64.wrap (size : Int) = (size : Int) := IntWalk.i64_in _ (by omega)
  clear hlt0
  obtain ⟨w0, hw0, hX⟩ := box4_ex text recent last begun a bb size n sign char ctext cuts ad cap w (14)
  have HX := Lib.hid hX
  have HW0 := Lib.hid hw0
  obtain ⟨b0, b1, b2, b3, e0, e1, e2, e3, e4, e5, e6, e7, e8, r0, r1, r2, r3, t0, t1, t2, t3, rz, tz, _, hlt⟩ := hX
  have rz0 := rz 0; have rz1 := rz 1; have rz2 := rz 2; have rz3 := rz 3; have tz0 := tz 0; have tz1 := tz 1; have tz2 := tz 2; have tz3 := tz 3
  clear hw0 rz tz
  simp only [SB.val, SB.cells]
  go_enter Tryz.func60, Tryz.ntmps60
  go_wp2_with fail
  obtain ⟨w8, hw8, hF8, q0, q1, q2, q3, q4, q5, q6, q7⟩ := four_end w (.cells #[.string ⟨text.toArray⟩, .int .i64 recent, .string ⟨last.toArray⟩, .bool begun] 81) (.cells #[.int .i64 14, .int .i64 a, .int .i64 bb, .int .u16 (size : Int), .int .i64 n, .int .u8 (sign.toNat : Int), .int .i32 char, .string ⟨ctext.toArray⟩, .slice ad cuts.length cap] 36) (.string ⟨text.toArray⟩) (.int .i64 recent) (.string ⟨last.toArray⟩) (.bool begun) (.int .i64 0) (.string ⟨#[]⟩) (.int .i32 0) (.int .i64 0)
  have HF8 := Lib.hid hF8
  rw [← hw8]
  refine bodyPost_ret (v := .tuple #[SB.val ⟨text, recent, last, begun⟩, Td.val ⟨0, [], 0, 0⟩, .bool false]) (by simp [results, Tryz.results60, go_sem, SB.val, SB.cells, Td.val, Td.cells, q0, q1, q2, q3, q4, q5, q6, q7]) rfl ?_
  exact ⟨rfl, HF8.out⟩
set_option maxHeartbeats 1600000 in
set_option maxRecDepth 100000 in
theorem spl_14 (w : World) (hle0 : size ≤ text.length) (hs : size ≤ 65535) :
    Calls Tryz.prog 60 #[SB.val ⟨text, recent, last, begun⟩, .agg #[.int .i64 14, .int .i64 a, .int .i64 bb, .int .u16 (size : Int), .int .i64 n, .int .u8 (sign.toNat : Int), .int .i32 char, .string ⟨ctext.toArray⟩, .slice ad cuts.length cap]] w (DoPost w (SB.other ⟨text, recent, last, begun⟩ text) ⟨0, text.take size, 0, 0⟩ true) := by
  have hcHC : ∀ wx, Calls Tryz.prog 57 #[SB.val ⟨text, recent, last, begun⟩, .string ⟨(text).toArray⟩] wx fun e w' => e = .returned (SB.val (SB.other ⟨text, recent, last, begun⟩ (text))) ∧ Fr (fun _ => False) wx w' := fun wx => sp_other text recent last begun (text) wx
  obtain ⟨rt, rr, rl, rb, hresHC⟩ : ∃ rt rr rl rb, (SB.other ⟨text, recent, last, begun⟩ (text)) = SB.mk rt rr rl rb := ⟨_, _, _, _, rfl⟩
  rw [hresHC] at hcHC ⊢
  simp only [SB.val, SB.cells] at hcHC
  have HC := Lib.hid hcHC
  clear hresHC hcHC
  have hls : ¬ (text.length : Int) < (size : Int) := by omega
  have hls2 : (size : Int) ≤ (text.length : Int) := by omega
  have hls3 : (0 : Int) ≤ (size : Int) := by omega
  have x1 := ext_take text size
  obtain ⟨pk, hpk⟩ : ∃ pk, pk = text.take size := ⟨_, rfl⟩
  rw [← hpk] at x1 ⊢
  have hsw : IntKind.i64.wrap (size : Int) = (size : Int) := IntWalk.i64_in _ (by omega)
  clear hle0 hpk
  obtain ⟨w0, hw0, hX⟩ := box4_ex text recent last begun a bb size n sign char ctext cuts ad cap w (14)
  have HX := Lib.hid hX
  have HW0 := Lib.hid hw0
  obtain ⟨b0, b1, b2, b3, e0, e1, e2, e3, e4, e5, e6, e7, e8, r0, r1, r2, r3, t0, t1, t2, t3, rz, tz, _, hlt⟩ := hX
  have rz0 := rz 0; have rz1 := rz 1; have rz2 := rz 2; have rz3 := rz 3; have tz0 := tz 0; have tz1 := tz 1; have tz2 := tz 2; have tz3 := tz 3
  clear hw0 rz tz
  simp only [SB.val, SB.cells]
  go_enter Tryz.func60, Tryz.ntmps60
  go_wp2_with fail
  rw [← HW0.out]
  go_region_held3 (fun w' => w'.cell? ⟨w.heap.size, 0, none⟩ = some (.string ⟨text.toArray⟩) ∧ w'.cell? ⟨w.heap.size, 1, none⟩ = some (.int .i64 recent) ∧ w'.cell? ⟨w.heap.size, 2, none⟩ = some (.string ⟨last.toArray⟩) ∧ w'.cell? ⟨w.heap.size, 3, none⟩ = some (.bool begun)) (((repeat' apply And.intro) <;> (try simp only [World.cell?_drew]) <;> first | with_reducible assumption | with_reducible exact alloc_cell (by with_reducible assumption) | with_reducible exact far4 (by with_reducible assumption) (by dsimp only; omega) | with_reducible exact far4 (far4 (by with_reducible assumption) (by dsimp only; omega)) (by dsimp only; omega))) ((go_at_call 57; refine (HC.out _).mono ?_; rintro e w1 ⟨rfl, F1⟩; have HF1 : Hid (Fr (fun _ => False) w0 w1) := Lib.hid (Fr.trans (by (repeat (with_reducible first | exact Fr.refl _ _ | exact HF1.out | refine Fr.drew ?_ | refine Fr.alloc ?_ _ | refine Fr.drewN ?_ _))) F1); clear F1; have b0x := keep1 HF1.out b0; have b1x := keep1 HF1.out b1; have b2x := keep1 HF1.out b2; have b3x := keep1 HF1.out b3; obtain ⟨r0x, r1x, r2x, r3x, t0x, t1x, t2x, t3x, rz0x, rz1x, rz2x, rz3x, tz0x, tz1x, tz2x, tz3x⟩ := kept_rt HF1.out r0 r1 r2 r3 t0 t1 t2 t3 rz0 rz1 rz2 rz3 tz0 tz1 tz2 tz3))
  go_wp2_with fail
  obtain ⟨w8, hw8, hF8, q0, q1, q2, q3, q4, q5, q6, q7⟩ := two_end (w1 := w1) (x := w.heap.size + 1 + 1) (y := w.heap.size + 1 + 1 + 1) (by first | exact HX.out.fr.trans HF2.out | exact HX.out.fr.trans HF1.out | exact HX.out.b4.fr.trans HF1.out | exact HX.out.fr | exact HX.out.b4.fr) (by omega) (by omega) (by omega) r0x r1x r2x r3x t0x t1x t2x t3x (.string ⟨rt.toArray⟩) (.int .i64 rr) (.string ⟨rl.toArray⟩) (.bool rb) (.int .i64 0) (.string ⟨pk.toArray⟩) (.int .i32 0) (.int .i64 0)
  have HF8 := Lib.hid hF8
  rw [← hw8]
  refine bodyPost_ret (v := .tuple #[SB.val ⟨rt, rr, rl, rb⟩, Td.val ⟨0, pk, 0, 0⟩, .bool true]) (by simp [results, Tryz.results60, go_sem, SB.val, SB.cells, Td.val, Td.cells, q0, q1, q2, q3, q4, q5, q6, q7]) rfl ?_
  exact ⟨rfl, HF8.out⟩
set_option maxHeartbeats 1600000 in
set_option maxRecDepth 100000 in
theorem spl_22x (w : World) (hlt0 : text.length < size) (hs : size ≤ 65535) :
    Calls Tryz.prog 60 #[SB.val ⟨text, recent, last, begun⟩, .agg #[.int .i64 22, .int .i64 a, .int .i64 bb, .int .u16 (size : Int), .int .i64 n, .int .u8 (sign.toNat : Int), .int .i32 char, .string ⟨ctext.toArray⟩, .slice ad cuts.length cap]] w (DoPost w ⟨text, recent, last, begun⟩ ⟨0, [], 0, 0⟩ false) := by
  have hls : (text.length : Int) < (size : Int) := by omega
  have hsw : IntKind.i64.wrap (size : Int) = (size : Int) := IntWalk.i64_in _ (by omega)
  clear hlt0
  obtain ⟨w0, hw0, hX⟩ := box4_ex text recent last begun a bb size n sign char ctext cuts ad cap w (22)
  have HX := Lib.hid hX
  have HW0 := Lib.hid hw0
  obtain ⟨b0, b1, b2, b3, e0, e1, e2, e3, e4, e5, e6, e7, e8, r0, r1, r2, r3, t0, t1, t2, t3, rz, tz, _, hlt⟩ := hX
  have rz0 := rz 0; have rz1 := rz 1; have rz2 := rz 2; have rz3 := rz 3; have tz0 := tz 0; have tz1 := tz 1; have tz2 := tz 2; have tz3 := tz 3
  clear hw0 rz tz
  simp only [SB.val, SB.cells]
  go_enter Tryz.func60, Tryz.ntmps60
  go_wp2_with fail
  obtain ⟨w8, hw8, hF8, q0, q1, q2, q3, q4, q5, q6, q7⟩ := four_end w (.cells #[.string ⟨text.toArray⟩, .int .i64 recent, .string ⟨last.toArray⟩, .bool begun] 81) (.cells #[.int .i64 22, .int .i64 a, .int .i64 bb, .int .u16 (size : Int), .int .i64 n, .int .u8 (sign.toNat : Int), .int .i32 char, .string ⟨ctext.toArray⟩, .slice ad cuts.length cap] 36) (.string ⟨text.toArray⟩) (.int .i64 recent) (.string ⟨last.toArray⟩) (.bool begun) (.int .i64 0) (.string ⟨#[]⟩) (.int .i32 0) (.int .i64 0)
  have HF8 := Lib.hid hF8
  rw [← hw8]
  refine bodyPost_ret (v := .tuple #[SB.val ⟨text, recent, last, begun⟩, Td.val ⟨0, [], 0, 0⟩, .bool false]) (by simp [results, Tryz.results60, go_sem, SB.val, SB.cells, Td.val, Td.cells, q0, q1, q2, q3, q4, q5, q6, q7]) rfl ?_
  exact ⟨rfl, HF8.out⟩
set_option maxHeartbeats 1600000 in
set_option maxRecDepth 100000 in
theorem spl_21n (kk : Int) (w : World) (hsz : (size : Int) = kk) (hs : size ≤ 65535) (hk : ¬ (0 ≤ kk ∧ kk < (text.length : Int))) :
    Calls Tryz.prog 60 #[SB.val ⟨text, recent, last, begun⟩, .agg #[.int .i64 21, .int .i64 a, .int .i64 bb, .int .u16 (size : Int), .int .i64 n, .int .u8 (sign.toNat : Int), .int .i32 char, .string ⟨ctext.toArray⟩, .slice ad cuts.length cap]] w (DoPost w (SB.other ⟨text, recent, last, begun⟩ text) ⟨0, [], 0, 0⟩ true) := by
  have hcHC : ∀ wx, Calls Tryz.prog 57 #[SB.val ⟨text, recent, last, begun⟩, .string ⟨(text).toArray⟩] wx fun e w' => e = .returned (SB.val (SB.other ⟨text, recent, last, begun⟩ (text))) ∧ Fr (fun _ => False) wx w' := fun wx => sp_other text recent last begun (text) wx
  obtain ⟨rt, rr, rl, rb, hresHC⟩ : ∃ rt rr rl rb, (SB.other ⟨text, recent, last, begun⟩ (text)) = SB.mk rt rr rl rb := ⟨_, _, _, _, rfl⟩
  rw [hresHC] at hcHC ⊢
  simp only [SB.val, SB.cells] at hcHC
  have HC := Lib.hid hcHC
  clear hresHC hcHC
  have hsw : IntKind.i64.wrap (size : Int) = kk := by rw [← hsz]; exact IntWalk.i64_in _ (by omega)
  clear hsz
  have hin : decide (0 ≤ kk ∧ kk < (text.length : Int)) = false := by simpa using hk
  clear hk
  obtain ⟨w0, hw0, hX⟩ := box4_ex text recent last begun a bb size n sign char ctext cuts ad cap w (21)
  have HX := Lib.hid hX
  have HW0 := Lib.hid hw0
  obtain ⟨b0, b1, b2, b3, e0, e1, e2, e3, e4, e5, e6, e7, e8, r0, r1, r2, r3, t0, t1, t2, t3, rz, tz, _, hlt⟩ := hX
  have rz0 := rz 0; have rz1 := rz 1; have rz2 := rz 2; have rz3 := rz 3; have tz0 := tz 0; have tz1 := tz 1; have tz2 := tz 2; have tz3 := tz 3
  clear hw0 rz tz
  simp only [SB.val, SB.cells]
  go_enter Tryz.func60, Tryz.ntmps60
  go_wp2_with fail
  rw [← HW0.out]
  refine (sp_among _ _ _).mono ?_
  rintro e w1 ⟨rfl, hw1⟩
  rw [hw1, hin]
  clear hw1
  go_wp2_with fail
  refine (HC.out _).mono ?_
  rintro e w2 ⟨rfl, F1⟩
  have HF1 : Hid (Fr (fun _ => False) w0 w2) := Lib.hid (Fr.trans (by (repeat (with_reducible first | exact Fr.refl _ _ | exact HF1.out | refine Fr.drew ?_ | refine Fr.alloc ?_ _ | refine Fr.drewN ?_ _))) F1)
  clear F1
  obtain ⟨r0x, r1x, r2x, r3x, t0x, t1x, t2x, t3x, rz0x, rz1x, rz2x, rz3x, tz0x, tz1x, tz2x, tz3x⟩ := kept_rt HF1.out r0 r1 r2 r3 t0 t1 t2 t3 rz0 rz1 rz2 rz3 tz0 tz1 tz2 tz3
  go_wp2_with fail
  obtain ⟨w8, hw8, hF8, q0, q1, q2, q3, q4, q5, q6, q7⟩ := two_end (w1 := w2) (x := w.heap.size + 1 + 1) (y := w.heap.size + 1 + 1 + 1) (by first | exact HX.out.fr.trans HF2.out | exact HX.out.fr.trans HF1.out | exact HX.out.b4.fr.trans HF1.out | exact HX.out.fr | exact HX.out.b4.fr) (by omega) (by omega) (by omega) r0x r1x r2x r3x t0x t1x t2x t3x (.string ⟨rt.toArray⟩) (.int .i64 rr) (.string ⟨rl.toArray⟩) (.bool rb) (.int .i64 0) (.string ⟨#[]⟩) (.int .i32 0) (.int .i64 0)
  have HF8 := Lib.hid hF8
  rw [← hw8]
  refine bodyPost_ret (v := .tuple #[SB.val ⟨rt, rr, rl, rb⟩, Td.val ⟨0, [], 0, 0⟩, .bool true]) (by simp [results, Tryz.results60, go_sem, SB.val, SB.cells, Td.val, Td.cells, q0, q1, q2, q3, q4, q5, q6, q7]) rfl ?_
  exact ⟨rfl, HF8.out⟩
set_option maxHeartbeats 1600000 in
set_option maxRecDepth 100000 in
theorem spl_21y (k : Nat) (w : World) (hsz : (size : Int) = (k : Int)) (hs : size ≤ 65535) (hk : k < text.length) (hl : text.length ≤ 1099511627776) :
    Calls Tryz.prog 60 #[SB.val ⟨text, recent, last, begun⟩, .agg #[.int .i64 21, .int .i64 a, .int .i64 bb, .int .u16 (size : Int), .int .i64 n, .int .u8 (sign.toNat : Int), .int .i32 char, .string ⟨ctext.toArray⟩, .slice ad cuts.length cap]] w (DoPost w (SB.other ⟨text, recent, last, begun⟩ (text.take k ++ sign :: text.drop (k + 1))) ⟨0, [], 0, 0⟩ true) := by
  have hcHC : ∀ wx, Calls Tryz.prog 57 #[SB.val ⟨text, recent, last, begun⟩, .string ⟨(text.take k ++ sign :: text.drop (k + 1)).toArray⟩] wx fun e w' => e = .returned (SB.val (SB.other ⟨text, recent, last, begun⟩ (text.take k ++ sign :: text.drop (k + 1)))) ∧ Fr (fun _ => False) wx w' := fun wx => sp_other text recent last begun (text.take k ++ sign :: text.drop (k + 1)) wx
  obtain ⟨rt, rr, rl, rb, hresHC⟩ : ∃ rt rr rl rb, (SB.other ⟨text, recent, last, begun⟩ (text.take k ++ sign :: text.drop (k + 1))) = SB.mk rt rr rl rb := ⟨_, _, _, _, rfl⟩
  rw [hresHC] at hcHC ⊢
  simp only [SB.val, SB.cells] at hcHC
  have HC := Lib.hid hcHC
  clear hresHC hcHC
  have hsw : IntKind.i64.wrap (size : Int) = (k : Int) := by rw [← hsz]; exact IntWalk.i64_in _ (by omega)
  clear hsz
  have hin : decide (0 ≤ (k : Int) ∧ (k : Int) < (text.length : Int)) = true := by simp; omega
  have x1 := ext_take text k
  have x2 := ext_drop text (k + 1)
  have hapA := bytes_appL (text.take k) [sign]
  have hapB := bytes_appL (text.take k ++ [sign]) (text.drop (k + 1))
  have eT : text.take k ++ [sign] ++ text.drop (k + 1) = text.take k ++ sign :: text.drop (k + 1) := by simp
  rw [eT] at hapB
  have hlA : ¬ (9223372036854775807 < (text.take k).length + 1) := by simp; omega
  have hlB : ¬ (9223372036854775807 < (text.take k ++ [sign]).length + (text.drop (k + 1)).length) := by simp; omega
  have hk1 : IntKind.i64.wrap ((k : Int) + 1) = ((k + 1 : Nat) : Int) := by rw [IntWalk.i64_in _ (by omega)]; omega
  have hk2 : ((k + 1 : Nat) : Int) ≤ (text.length : Int) := by omega
  have hk3 : (0 : Int) ≤ ((k + 1 : Nat) : Int) := by omega
  have hk4 : (k : Int) ≤ (text.length : Int) := by omega
  have hk5 : (0 : Int) ≤ (k : Int) := by omega
  obtain ⟨ta, hta⟩ : ∃ ta, ta = text.take k := ⟨_, rfl⟩
  obtain ⟨tb, htb⟩ : ∃ tb, tb = text.drop (k + 1) := ⟨_, rfl⟩
  obtain ⟨tm, htm⟩ : ∃ tm, tm = text.take k ++ [sign] := ⟨_, rfl⟩
  obtain ⟨tf, htf⟩ : ∃ tf, tf = text.take k ++ sign :: text.drop (k + 1) := ⟨_, rfl⟩
  rw [← htm] at hapA hapB hlB
  rw [← htf] at hapB HC
  rw [← hta] at x1 hapA hlA
  rw [← htb] at x2 hapB hlB
  obtain ⟨k1, hkk1⟩ : ∃ k1, k1 = k + 1 := ⟨_, rfl⟩
  rw [← hkk1] at x2 hk1 hk2 hk3
  clear eT hta htb htm htf hkk1 hk
  obtain ⟨w0, hw0, hX⟩ := box4_ex text recent last begun a bb size n sign char ctext cuts ad cap w (21)
  have HX := Lib.hid hX
  have HW0 := Lib.hid hw0
  obtain ⟨b0, b1, b2, b3, e0, e1, e2, e3, e4, e5, e6, e7, e8, r0, r1, r2, r3, t0, t1, t2, t3, rz, tz, _, hlt⟩ := hX
  have rz0 := rz 0; have rz1 := rz 1; have rz2 := rz 2; have rz3 := rz 3; have tz0 := tz 0; have tz1 := tz 1; have tz2 := tz 2; have tz3 := tz 3
  clear hw0 rz tz
  simp only [SB.val, SB.cells]
  go_enter Tryz.func60, Tryz.ntmps60
  go_wp2_with fail
  rw [← HW0.out]
  refine (sp_among _ _ _).mono ?_
  rintro e w1 ⟨rfl, hw1⟩
  rw [hw1, hin]
  clear hw1
  go_wp2_with fail
  have hcv := conv_sign w0 sign
  have hcvd := conv_signd w0 sign
  have hnw := World.new_ne w0 _ b0
  go_region_held (fun w' => w'.cell? ⟨w.heap.size, 0, none⟩ = some (.string ⟨text.toArray⟩) ∧ w'.cell? ⟨w.heap.size, 1, none⟩ = some (.int .i64 recent) ∧ w'.cell? ⟨w.heap.size, 2, none⟩ = some (.string ⟨last.toArray⟩) ∧ w'.cell? ⟨w.heap.size, 3, none⟩ = some (.bool begun) ∧ w'.cell? ⟨w.heap.size + 1, 5, none⟩ = some (.int .u8 (sign.toNat : Int))) (((repeat' apply And.intro) <;> (try simp only [World.cell?_drew]) <;> first | with_reducible assumption | with_reducible exact alloc_cell (by with_reducible assumption) | with_reducible exact far4 (by with_reducible assumption) (by dsimp only; omega) | with_reducible exact far4 (far4 (by with_reducible assumption) (by dsimp only; omega)) (by dsimp only; omega))) ((go_at_call 57; refine (HC.out _).mono ?_; rintro e w1 ⟨rfl, F1⟩; have HF1 : Hid (Fr (fun _ => False) w0 w1) := Lib.hid (Fr.trans (by (repeat (with_reducible first | exact Fr.refl _ _ | exact HF1.out | refine Fr.drew ?_ | refine Fr.alloc ?_ _ | refine Fr.drewN ?_ _))) F1); clear F1; have b0x := keep1 HF1.out b0; have b1x := keep1 HF1.out b1; have b2x := keep1 HF1.out b2; have b3x := keep1 HF1.out b3; have e5x := keep1 HF1.out e5; obtain ⟨r0x, r1x, r2x, r3x, t0x, t1x, t2x, t3x, rz0x, rz1x, rz2x, rz3x, tz0x, tz1x, tz2x, tz3x⟩ := kept_rt HF1.out r0 r1 r2 r3 t0 t1 t2 t3 rz0 rz1 rz2 rz3 tz0 tz1 tz2 tz3))
  go_wp2_with fail
  obtain ⟨w8, hw8, hF8, q0, q1, q2, q3, q4, q5, q6, q7⟩ := two_end (w1 := w1) (x := w.heap.size + 1 + 1) (y := w.heap.size + 1 + 1 + 1) (by first | exact HX.out.fr.trans HF2.out | exact HX.out.fr.trans HF1.out | exact HX.out.b4.fr.trans HF1.out | exact HX.out.fr | exact HX.out.b4.fr) (by omega) (by omega) (by omega) r0x r1x r2x r3x t0x t1x t2x t3x (.string ⟨rt.toArray⟩) (.int .i64 rr) (.string ⟨rl.toArray⟩) (.bool rb) (.int .i64 0) (.string ⟨#[]⟩) (.int .i32 0) (.int .i64 0)
  have HF8 := Lib.hid hF8
  rw [← hw8]
  refine bodyPost_ret (v := .tuple #[SB.val ⟨rt, rr, rl, rb⟩, Td.val ⟨0, [], 0, 0⟩, .bool true]) (by simp [results, Tryz.results60, go_sem, SB.val, SB.cells, Td.val, Td.cells, q0, q1, q2, q3, q4, q5, q6, q7]) rfl ?_
  exact ⟨rfl, HF8.out⟩
set_option maxHeartbeats 1600000 in
set_option maxRecDepth 100000 in
theorem spl_22n (kk : Int) (w : World) (hsz : (size : Int) - 1 = kk) (hle0 : size ≤ text.length) (hs : size ≤ 65535) (hk : ¬ (0 ≤ kk ∧ kk < (text.length : Int))) :
    Calls Tryz.prog 60 #[SB.val ⟨text, recent, last, begun⟩, .agg #[.int .i64 22, .int .i64 a, .int .i64 bb, .int .u16 (size : Int), .int .i64 n, .int .u8 (sign.toNat : Int), .int .i32 char, .string ⟨ctext.toArray⟩, .slice ad cuts.length cap]] w (DoPost w (SB.other ⟨text, recent, last, begun⟩ text) ⟨0, [], 0, 0⟩ true) := by
  have hcHC : ∀ wx, Calls Tryz.prog 57 #[SB.val ⟨text, recent, last, begun⟩, .string ⟨(text).toArray⟩] wx fun e w' => e = .returned (SB.val (SB.other ⟨text, recent, last, begun⟩ (text))) ∧ Fr (fun _ => False) wx w' := fun wx => sp_other text recent last begun (text) wx
  obtain ⟨rt, rr, rl, rb, hresHC⟩ : ∃ rt rr rl rb, (SB.other ⟨text, recent, last, begun⟩ (text)) = SB.mk rt rr rl rb := ⟨_, _, _, _, rfl⟩
  rw [hresHC] at hcHC ⊢
  simp only [SB.val, SB.cells] at hcHC
  have HC := Lib.hid hcHC
  clear hresHC hcHC
  have hls : ¬ (text.length : Int) < (size : Int) := by omega
  have hsw : IntKind.i64.wrap (size : Int) = (size : Int) := IntWalk.i64_in _ (by omega)
  have hsw2 : IntKind.i64.wrap ((size : Int) - 1) = kk := by rw [← hsz]; exact IntWalk.i64_in _ (by omega)
  clear hsz hle0
  have hin : decide (0 ≤ kk ∧ kk < (text.length : Int)) = false := by simpa using hk
  clear hk
  obtain ⟨w0, hw0, hX⟩ := box4_ex text recent last begun a bb size n sign char ctext cuts ad cap w (22)
  have HX := Lib.hid hX
  have HW0 := Lib.hid hw0
  obtain ⟨b0, b1, b2, b3, e0, e1, e2, e3, e4, e5, e6, e7, e8, r0, r1, r2, r3, t0, t1, t2, t3, rz, tz, _, hlt⟩ := hX
  have rz0 := rz 0; have rz1 := rz 1; have rz2 := rz 2; have rz3 := rz 3; have tz0 := tz 0; have tz1 := tz 1; have tz2 := tz 2; have tz3 := tz 3
  clear hw0 rz tz
  simp only [SB.val, SB.cells]
  go_enter Tryz.func60, Tryz.ntmps60
  go_wp2_with fail
  rw [← HW0.out]
  refine (sp_among _ _ _).mono ?_
  rintro e w1 ⟨rfl, hw1⟩
  rw [hw1, hin]
  clear hw1
  go_wp2_with fail
  refine (HC.out _).mono ?_
  rintro e w2 ⟨rfl, F1⟩
  have HF1 : Hid (Fr (fun _ => False) w0 w2) := Lib.hid (Fr.trans (by (repeat (with_reducible first | exact Fr.refl _ _ | exact HF1.out | refine Fr.drew ?_ | refine Fr.alloc ?_ _ | refine Fr.drewN ?_ _))) F1)
  clear F1
  obtain ⟨r0x, r1x, r2x, r3x, t0x, t1x, t2x, t3x, rz0x, rz1x, rz2x, rz3x, tz0x, tz1x, tz2x, tz3x⟩ := kept_rt HF1.out r0 r1 r2 r3 t0 t1 t2 t3 rz0 rz1 rz2 rz3 tz0 tz1 tz2 tz3
  go_wp2_with fail
  obtain ⟨w8, hw8, hF8, q0, q1, q2, q3, q4, q5, q6, q7⟩ := two_end (w1 := w2) (x := w.heap.size + 1 + 1) (y := w.heap.size + 1 + 1 + 1) (by first | exact HX.out.fr.trans HF2.out | exact HX.out.fr.trans HF1.out | exact HX.out.b4.fr.trans HF1.out | exact HX.out.fr | exact HX.out.b4.fr) (by omega) (by omega) (by omega) r0x r1x r2x r3x t0x t1x t2x t3x (.string ⟨rt.toArray⟩) (.int .i64 rr) (.string ⟨rl.toArray⟩) (.bool rb) (.int .i64 0) (.string ⟨#[]⟩) (.int .i32 0) (.int .i64 0)
  have HF8 := Lib.hid hF8
  rw [← hw8]
  refine bodyPost_ret (v := .tuple #[SB.val ⟨rt, rr, rl, rb⟩, Td.val ⟨0, [], 0, 0⟩, .bool true]) (by simp [results, Tryz.results60, go_sem, SB.val, SB.cells, Td.val, Td.cells, q0, q1, q2, q3, q4, q5, q6, q7]) rfl ?_
  exact ⟨rfl, HF8.out⟩
set_option maxHeartbeats 1600000 in
set_option maxRecDepth 100000 in
theorem spl_22y (k : Nat) (w : World) (hsz : (size : Int) - 1 = (k : Int)) (hle0 : size ≤ text.length) (hs : size ≤ 65535) (hk : k < text.length) (hl : text.length ≤ 1099511627776) :
    Calls Tryz.prog 60 #[SB.val ⟨text, recent, last, begun⟩, .agg #[.int .i64 22, .int .i64 a, .int .i64 bb, .int .u16 (size : Int), .int .i64 n, .int .u8 (sign.toNat : Int), .int .i32 char, .string ⟨ctext.toArray⟩, .slice ad cuts.length cap]] w (DoPost w (SB.other ⟨text, recent, last, begun⟩ (text.take k ++ sign :: text.drop (k + 1))) ⟨0, [], 0, 0⟩ true) := by
  have hcHC : ∀ wx, Calls Tryz.prog 57 #[SB.val ⟨text, recent, last, begun⟩, .string ⟨(text.take k ++ sign :: text.drop (k + 1)).toArray⟩] wx fun e w' => e = .returned (SB.val (SB.other ⟨text, recent, last, begun⟩ (text.take k ++ sign :: text.drop (k + 1)))) ∧ Fr (fun _ => False) wx w' := fun wx => sp_other text recent last begun (text.take k ++ sign :: text.drop (k + 1)) wx
  obtain ⟨rt, rr, rl, rb, hresHC⟩ : ∃ rt rr rl rb, (SB.other ⟨text, recent, last, begun⟩ (text.take k ++ sign :: text.drop (k + 1))) = SB.mk rt rr rl rb := ⟨_, _, _, _, rfl⟩
  rw [hresHC] at hcHC ⊢
  simp only [SB.val, SB.cells] at hcHC
  have HC := Lib.hid hcHC
  clear hresHC hcHC
  have hls : ¬ (text.length : Int) < (size : Int) := by omega
  have hsw : IntKind.i64.wrap (size : Int) = (size : Int) := IntWalk.i64_in _ (by omega)
  have hsw2 : IntKind.i64.wrap ((size : Int) - 1) = (k : Int) := by rw [← hsz]; exact IntWalk.i64_in _ (by omega)
  clear hsz hle0
  have hin : decide (0 ≤ (k : Int) ∧ (k : Int) < (text.length : Int)) = true := by simp; omega
  have x1 := ext_take text k
  have x2 := ext_drop text (k + 1)
  have hapA := bytes_appL (text.take k) [sign]
  have hapB := bytes_appL (text.take k ++ [sign]) (text.drop (k + 1))
  have eT : text.take k ++ [sign] ++ text.drop (k + 1) = text.take k ++ sign :: text.drop (k + 1) := by simp
  rw [eT] at hapB
  have hlA : ¬ (9223372036854775807 < (text.take k).length + 1) := by simp; omega
  have hlB : ¬ (9223372036854775807 < (text.take k ++ [sign]).length + (text.drop (k + 1)).length) := by simp; omega
  have hk1 : IntKind.i64.wrap ((k : Int) + 1) = ((k + 1 : Nat) : Int) := by rw [IntWalk.i64_in _ (by omega)]; omega
  have hk2 : ((k + 1 : Nat) : Int) ≤ (text.length : Int) := by omega
  have hk3 : (0 : Int) ≤ ((k + 1 : Nat) : Int) := by omega
  have hk4 : (k : Int) ≤ (text.length : Int) := by omega
  have hk5 : (0 : Int) ≤ (k : Int) := by omega
  obtain ⟨ta, hta⟩ : ∃ ta, ta = text.take k := ⟨_, rfl⟩
  obtain ⟨tb, htb⟩ : ∃ tb, tb = text.drop (k + 1) := ⟨_, rfl⟩
  obtain ⟨tm, htm⟩ : ∃ tm, tm = text.take k ++ [sign] := ⟨_, rfl⟩
  obtain ⟨tf, htf⟩ : ∃ tf, tf = text.take k ++ sign :: text.drop (k + 1) := ⟨_, rfl⟩
  rw [← htm] at hapA hapB hlB
  rw [← htf] at hapB HC
  rw [← hta] at x1 hapA hlA
  rw [← htb] at x2 hapB hlB
  obtain ⟨k1, hkk1⟩ : ∃ k1, k1 = k + 1 := ⟨_, rfl⟩
  rw [← hkk1] at x2 hk1 hk2 hk3
  clear eT hta htb htm htf hkk1 hk
  obtain ⟨w0, hw0, hX⟩ := box4_ex text recent last begun a bb size n sign char ctext cuts ad cap w (22)
  have HX := Lib.hid hX
  have HW0 := Lib.hid hw0
  obtain ⟨b0, b1, b2, b3, e0, e1, e2, e3, e4, e5, e6, e7, e8, r0, r1, r2, r3, t0, t1, t2, t3, rz, tz, _, hlt⟩ := hX
  have rz0 := rz 0; have rz1 := rz 1; have rz2 := rz 2; have rz3 := rz 3; have tz0 := tz 0; have tz1 := tz 1; have tz2 := tz 2; have tz3 := tz 3
  clear hw0 rz tz
  simp only [SB.val, SB.cells]
  go_enter Tryz.func60, Tryz.ntmps60
  go_wp2_with fail
  rw [← HW0.out]
  refine (sp_among _ _ _).mono ?_
  rintro e w1 ⟨rfl, hw1⟩
  rw [hw1, hin]
  clear hw1
  go_wp2_with fail
  have hcv := conv_sign w0 sign
  have hcvd := conv_signd w0 sign
  have hnw := World.new_ne w0 _ b0
  go_region_held (fun w' => w'.cell? ⟨w.heap.size, 0, none⟩ = some (.string ⟨text.toArray⟩) ∧ w'.cell? ⟨w.heap.size, 1, none⟩ = some (.int .i64 recent) ∧ w'.cell? ⟨w.heap.size, 2, none⟩ = some (.string ⟨last.toArray⟩) ∧ w'.cell? ⟨w.heap.size, 3, none⟩ = some (.bool begun) ∧ w'.cell? ⟨w.heap.size + 1, 5, none⟩ = some (.int .u8 (sign.toNat : Int))) (((repeat' apply And.intro) <;> (try simp only [World.cell?_drew]) <;> first | with_reducible assumption | with_reducible exact alloc_cell (by with_reducible assumption) | with_reducible exact far4 (by with_reducible assumption) (by dsimp only; omega) | with_reducible exact far4 (far4 (by with_reducible assumption) (by dsimp only; omega)) (by dsimp only; omega))) ((go_at_call 57; refine (HC.out _).mono ?_; rintro e w1 ⟨rfl, F1⟩; have HF1 : Hid (Fr (fun _ => False) w0 w1) := Lib.hid (Fr.trans (by (repeat (with_reducible first | exact Fr.refl _ _ | exact HF1.out | refine Fr.drew ?_ | refine Fr.alloc ?_ _ | refine Fr.drewN ?_ _))) F1); clear F1; have b0x := keep1 HF1.out b0; have b1x := keep1 HF1.out b1; have b2x := keep1 HF1.out b2; have b3x := keep1 HF1.out b3; have e5x := keep1 HF1.out e5; obtain ⟨r0x, r1x, r2x, r3x, t0x, t1x, t2x, t3x, rz0x, rz1x, rz2x, rz3x, tz0x, tz1x, tz2x, tz3x⟩ := kept_rt HF1.out r0 r1 r2 r3 t0 t1 t2 t3 rz0 rz1 rz2 rz3 tz0 tz1 tz2 tz3))
  go_wp2_with fail
  obtain ⟨w8, hw8, hF8, q0, q1, q2, q3, q4, q5, q6, q7⟩ := two_end (w1 := w1) (x := w.heap.size + 1 + 1) (y := w.heap.size + 1 + 1 + 1) (by first | exact HX.out.fr.trans HF2.out | exact HX.out.fr.trans HF1.out | exact HX.out.b4.fr.trans HF1.out | exact HX.out.fr | exact HX.out.b4.fr) (by omega) (by omega) (by omega) r0x r1x r2x r3x t0x t1x t2x t3x (.string ⟨rt.toArray⟩) (.int .i64 rr) (.string ⟨rl.toArray⟩) (.bool rb) (.int .i64 0) (.string ⟨#[]⟩) (.int .i32 0) (.int .i64 0)
  have HF8 := Lib.hid hF8
  rw [← hw8]
  refine bodyPost_ret (v := .tuple #[SB.val ⟨rt, rr, rl, rb⟩, Td.val ⟨0, [], 0, 0⟩, .bool true]) (by simp [results, Tryz.results60, go_sem, SB.val, SB.cells, Td.val, Td.cells, q0, q1, q2, q3, q4, q5, q6, q7]) rfl ?_
  exact ⟨rfl, HF8.out⟩
theorem sp_look (op : Int) (hop : op = 14 ∨ op = 21 ∨ op = 22) (w : World) (hl : text.length ≤ 1099511627776) (hs : size ≤ 65535) :
    Calls Tryz.prog 60 #[SB.val ⟨text, recent, last, begun⟩, .agg #[.int .i64 op, .int .i64 a, .int .i64 bb, .int .u16 (size : Int), .int .i64 n, .int .u8 (sign.toNat : Int), .int .i32 char, .string ⟨ctext.toArray⟩, .slice ad cuts.length cap]] w (DoPost w (SB.look ⟨text, recent, last, begun⟩ ⟨op, a, bb, size, n, sign, char, ctext, cuts, ad, cap⟩).1 (SB.look ⟨text, recent, last, begun⟩ ⟨op, a, bb, size, n, sign, char, ctext, cuts, ad, cap⟩).2.1 (SB.look ⟨text, recent, last, begun⟩ ⟨op, a, bb, size, n, sign, char, ctext, cuts, ad, cap⟩).2.2) := by
  unfold SB.look
  simp only
  rcases hop with rfl | rfl | rfl
  · rw [if_pos rfl]
    by_cases h : text.length < size
    · rw [if_pos h]
      exact spl_14x text recent last begun a bb size n sign char ctext cuts ad cap w h hs
    · rw [if_neg h]
      exact spl_14 text recent last begun a bb size n sign char ctext cuts ad cap w (by omega) hs
  · rw [if_neg (by decide), if_neg (by decide)]
    by_cases h : size < text.length
    · rw [if_pos ⟨by omega, by omega⟩]
      exact spl_21y text recent last begun a bb size n sign char ctext cuts ad cap size w rfl hs h hl
    · rw [if_neg (by omega)]
      exact spl_21n text recent last begun a bb size n sign char ctext cuts ad cap (size : Int) w rfl hs (by omega)
  · rw [if_neg (by decide), if_pos rfl]
    by_cases h : text.length < size
    · rw [if_pos h]
      exact spl_22x text recent last begun a bb size n sign char ctext cuts ad cap w h hs
    · rw [if_neg h]
      rcases Nat.eq_zero_or_pos size with h0 | h0
      · rw [if_neg (by omega)]
        exact spl_22n text recent last begun a bb size n sign char ctext cuts ad cap ((size : Int) - 1) w rfl (by omega) hs (by omega)
      · obtain ⟨k, hk⟩ : ∃ k, k = size - 1 := ⟨_, rfl⟩
        have hk2 : (size : Int) - 1 = (k : Int) := by omega
        rw [hk2, if_pos ⟨by omega, by omega⟩]
        exact spl_22y text recent last begun a bb size n sign char ctext cuts ad cap k w hk2 (by omega) hs (by omega) hl
end
end Go.Proofs.YtbodbajgpgaoeaaGreatDoor
