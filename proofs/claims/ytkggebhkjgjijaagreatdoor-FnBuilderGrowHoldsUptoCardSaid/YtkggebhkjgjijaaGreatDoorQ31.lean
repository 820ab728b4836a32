/- SpecG. -/
import Derived.Test.YtkggebhkjgjijaaGreatDoorQ29
import Derived.Test.YtkggebhkjgjijaaGreatDoorQ30
import Derived.Deep.Cut
namespace Go.Proofs.YtkggebhkjgjijaaGreatDoor
open Go Go.RowKit

theorem five_blocks (w : World) (o0 o1 o2 o3 o4 : Obj) :
    (((((w.alloc o0).alloc o1).alloc o2).alloc o3).alloc o4).heap[w.heap.size]? = some o0 ∧ (((((w.alloc o0).alloc o1).alloc o2).alloc o3).alloc o4).heap[w.heap.size + 1]? = some o1 ∧ (((((w.alloc o0).alloc o1).alloc o2).alloc o3).alloc o4).heap[w.heap.size + 1 + 1]? = some o2 ∧
    (((((w.alloc o0).alloc o1).alloc o2).alloc o3).alloc o4).heap[w.heap.size + 1 + 1 + 1]? = some o3 ∧ (((((w.alloc o0).alloc o1).alloc o2).alloc o3).alloc o4).heap[w.heap.size + 1 + 1 + 1 + 1]? = some o4 := by
  obtain ⟨h0, h1, h2, h3⟩ := four_blocks w o0 o1 o2 o3
  have F := (Fr.refl (fun _ => False) ((((w.alloc o0).alloc o1).alloc o2).alloc o3)).alloc o4
  have h4 := heap_alloc_new ((((w.alloc o0).alloc o1).alloc o2).alloc o3) o4
  simp only [World.size_alloc] at h4
  exact ⟨F.blk h0 (fun q => q), F.blk h1 (fun q => q), F.blk h2 (fun q => q), F.blk h3 (fun q => q), h4⟩
theorem sp_among01 (w : World) : Calls Tryz.prog 16 #[.int .i64 0, .int .i64 1] w fun e w' => e = .returned (.bool true) ∧ w' = w := sp_among 0 1 w
theorem row4 {w : World} {g : Nat} {a b c d : Value} {T : TypeId} (h : w.heap[g]? = some (.cells #[a, b, c, d] T (0, 0))) : w.cell? ⟨g, 0, none⟩ = some a ∧ w.cell? ⟨g, 1, none⟩ = some b ∧ w.cell? ⟨g, 2, none⟩ = some c ∧ w.cell? ⟨g, 3, none⟩ = some d ∧ w.frozen? ⟨g, 0, none⟩ = false ∧ w.frozen? ⟨g, 1, none⟩ = false ∧ w.frozen? ⟨g, 2, none⟩ = false ∧ w.frozen? ⟨g, 3, none⟩ = false :=
  ⟨by rw [cell_of_row _ _ _ _ _ _ h]; rfl, by rw [cell_of_row _ _ _ _ _ _ h]; rfl, by rw [cell_of_row _ _ _ _ _ _ h]; rfl, by rw [cell_of_row _ _ _ _ _ _ h]; rfl, frozen_row h 0, frozen_row h 1, frozen_row h 2, frozen_row h 3⟩
theorem fq_1 {w w3 : World} {o : Obj} (F : Fr (fun _ => False) (w.alloc o).drew w3) : w3.heap[w.heap.size]? = some o := F.blk (heap_alloc_new w o) (fun q => q)
theorem fr4 {S : Nat → Prop} {w w' : World} {x : Nat} (F : Fr S w w') (hx : S x) (a b c d : Value) : Fr S w ((((w'.setCell ⟨x, 0, none⟩ a).setCell ⟨x, 1, none⟩ b).setCell ⟨x, 2, none⟩ c).setCell ⟨x, 3, none⟩ d) :=
  (((F.setCell (fun _ => hx) a).setCell (fun _ => hx) b).setCell (fun _ => hx) c).setCell (fun _ => hx) d
/-- Two rows of four cells that were made behind w2; else nothing was changed. -/
structure Two (w2 w : World) (x y : Nat) (a b c d a' b' c' d' : Value) : Prop where
  x0 : w.cell? ⟨x, 0, none⟩ = some a
  x1 : w.cell? ⟨x, 1, none⟩ = some b
  x2 : w.cell? ⟨x, 2, none⟩ = some c
  x3 : w.cell? ⟨x, 3, none⟩ = some d
  y0 : w.cell? ⟨y, 0, none⟩ = some a'
  y1 : w.cell? ⟨y, 1, none⟩ = some b'
  y2 : w.cell? ⟨y, 2, none⟩ = some c'
  y3 : w.cell? ⟨y, 3, none⟩ = some d'
  xl : w2.heap.size ≤ x
  yl : w2.heap.size ≤ y
  fr : Fr (fun z => w2.heap.size ≤ z) w2 w
theorem Two.symm {w2 w : World} {x y : Nat} {a b c d a' b' c' d' : Value} (h : Two w2 w x y a b c d a' b' c' d') : Two w2 w y x a' b' c' d' a b c d := ⟨h.y0, h.y1, h.y2, h.y3, h.x0, h.x1, h.x2, h.x3, h.yl, h.xl, h.fr⟩
/-- A row of four cells that was made behind w2; else nothing was changed. -/
structure OneR (w2 w : World) (x : Nat) (a b c d : Value) : Prop where
  x0 : w.cell? ⟨x, 0, none⟩ = some a
  x1 : w.cell? ⟨x, 1, none⟩ = some b
  x2 : w.cell? ⟨x, 2, none⟩ = some c
  x3 : w.cell? ⟨x, 3, none⟩ = some d
  xl : w2.heap.size ≤ x
  fr : Fr (fun z => w2.heap.size ≤ z) w2 w
theorem OneR.a {w2 w3 : World} (F : Fr (fun z => w2.heap.size ≤ z) w2 w3) (a b c d : Value) (E : TypeId) : OneR w2 (w3.alloc (.cells #[a, b, c, d] E)) w3.heap.size a b c d := by
  obtain ⟨s0, s1, s2, s3, _⟩ := row4 (heap_alloc_new w3 (.cells #[a, b, c, d] E))
  exact ⟨s0, s1, s2, s3, F.size, F.alloc _⟩
theorem OneR.s {w2 w3 : World} {x : Nat} (F : Fr (fun z => w2.heap.size ≤ z) w2 w3) (hx : w2.heap.size ≤ x) {z0 z1 z2 z3 : Value} (h0 : w3.cell? ⟨x, 0, none⟩ = some z0) (h1 : w3.cell? ⟨x, 1, none⟩ = some z1) (h2 : w3.cell? ⟨x, 2, none⟩ = some z2) (h3 : w3.cell? ⟨x, 3, none⟩ = some z3) (a b c d : Value) :
    OneR w2 ((((w3.setCell ⟨x, 0, none⟩ a).setCell ⟨x, 1, none⟩ b).setCell ⟨x, 2, none⟩ c).setCell ⟨x, 3, none⟩ d) x a b c d := by
  obtain ⟨p0, p1, p2, p3⟩ := near4 h0 h1 h2 h3 a b c d
  exact ⟨p0, p1, p2, p3, hx, fr4 F hx a b c d⟩
theorem own_one1 {E : TypeId} {w : World} {base : Nat} {v a : Value} (h : Own E 1 w base v 1 [a]) : ∃ (g cap : Nat) (cur : Array Value), v = .slice (some ⟨g, 0, none⟩) 1 cap ∧ base ≤ g ∧ w.heap[g]? = some (.cells cur E (0, 0)) ∧ w.cell? ⟨g, 0, none⟩ = some a := by
  rcases h.2 with ⟨_, h0⟩ | ⟨g, cap, cur, e, hb, hh, h1, h2, h3, h4⟩
  · exact absurd h0 (by decide)
  · refine ⟨g, cap, cur, e, hb, hh, ?_⟩
    have hv : [a][0]? = some a := rfl
    rw [cell_of_row w g 0 _ _ _ hh, ← Array.getElem?_toList]
    rw [← h4, List.getElem?_take] at hv
    split at hv
    · exact hv
    · cases hv
theorem reads_str1 {w : World} {g : Nat} (s : List UInt8) (h0 : w.cell? ⟨g, 0, none⟩ = some (.string ⟨s.toArray⟩)) : Reads strC 1 w (some ⟨g, 0, none⟩) [s] := by
  refine ⟨fun j x hx => ⟨g, 0, rfl, fun k v hv => ?_⟩⟩
  cases j with
  | succ j => simp at hx
  | zero =>
    simp only [List.getElem?_cons_zero, Option.some.injEq] at hx
    subst hx
    have e : 0 + 0 * 1 + k = k := by omega
    rw [e]
    match k, hv with
    | 0, hv => injection hv with hv; rw [← hv]; exact h0
    | k + 1, hv => simp [strC] at hv
theorem far2 {w : World} {x : Nat} {p : Addr} {a b v : Value} (h : w.cell? p = some v) (hn : p.block ≠ x) : ((w.setCell ⟨x, 0, none⟩ a).setCell ⟨x, 1, none⟩ b).cell? p = some v :=
  ((just2 w x a b).cell (World.block_lt_of_cell? _ _ h) hn).trans h
theorem near2 {w : World} {x : Nat} {z0 z1 : Value} (h0 : w.cell? ⟨x, 0, none⟩ = some z0) (h1 : w.cell? ⟨x, 1, none⟩ = some z1) (a b : Value) :
    ((w.setCell ⟨x, 0, none⟩ a).setCell ⟨x, 1, none⟩ b).cell? ⟨x, 0, none⟩ = some a ∧ ((w.setCell ⟨x, 0, none⟩ a).setCell ⟨x, 1, none⟩ b).cell? ⟨x, 1, none⟩ = some b := by
  have ne : ∀ i j : Nat, i ≠ j → (⟨x, i, none⟩ : Addr) ≠ ⟨x, j, none⟩ := fun i j h q => by injection q with _ q; exact h q
  refine ⟨?_, ?_⟩
  · rw [World.cell?_setCell_other _ _ _ _ (ne 1 0 (by decide))]
    exact World.cell?_setCell_same _ _ _ h0
  · exact World.cell?_setCell_same _ _ _ (u := z1) (by rw [World.cell?_setCell_other _ _ _ _ (ne 0 1 (by decide))]; exact h1)
/-- A yard is stored, then an answer. -/
theorem stores24 {w : World} {x y : Nat} (hne : x ≠ y) {z0 z1 u0 u1 u2 u3 : Value} (h0 : w.cell? ⟨x, 0, none⟩ = some z0) (h1 : w.cell? ⟨x, 1, none⟩ = some z1) (k0 : w.cell? ⟨y, 0, none⟩ = some u0) (k1 : w.cell? ⟨y, 1, none⟩ = some u1) (k2 : w.cell? ⟨y, 2, none⟩ = some u2) (k3 : w.cell? ⟨y, 3, none⟩ = some u3) (a b a' b' c' d' : Value) :
    ((((((w.setCell ⟨x, 0, none⟩ a).setCell ⟨x, 1, none⟩ b).setCell ⟨y, 0, none⟩ a').setCell ⟨y, 1, none⟩ b').setCell ⟨y, 2, none⟩ c').setCell ⟨y, 3, none⟩ d').cell? ⟨x, 0, none⟩ = some a ∧
    ((((((w.setCell ⟨x, 0, none⟩ a).setCell ⟨x, 1, none⟩ b).setCell ⟨y, 0, none⟩ a').setCell ⟨y, 1, none⟩ b').setCell ⟨y, 2, none⟩ c').setCell ⟨y, 3, none⟩ d').cell? ⟨x, 1, none⟩ = some b ∧
    ((((((w.setCell ⟨x, 0, none⟩ a).setCell ⟨x, 1, none⟩ b).setCell ⟨y, 0, none⟩ a').setCell ⟨y, 1, none⟩ b').setCell ⟨y, 2, none⟩ c').setCell ⟨y, 3, none⟩ d').cell? ⟨y, 0, none⟩ = some a' ∧
    ((((((w.setCell ⟨x, 0, none⟩ a).setCell ⟨x, 1, none⟩ b).setCell ⟨y, 0, none⟩ a').setCell ⟨y, 1, none⟩ b').setCell ⟨y, 2, none⟩ c').setCell ⟨y, 3, none⟩ d').cell? ⟨y, 1, none⟩ = some b' ∧
    ((((((w.setCell ⟨x, 0, none⟩ a).setCell ⟨x, 1, none⟩ b).setCell ⟨y, 0, none⟩ a').setCell ⟨y, 1, none⟩ b').setCell ⟨y, 2, none⟩ c').setCell ⟨y, 3, none⟩ d').cell? ⟨y, 2, none⟩ = some c' ∧
    ((((((w.setCell ⟨x, 0, none⟩ a).setCell ⟨x, 1, none⟩ b).setCell ⟨y, 0, none⟩ a').setCell ⟨y, 1, none⟩ b').setCell ⟨y, 2, none⟩ c').setCell ⟨y, 3, none⟩ d').cell? ⟨y, 3, none⟩ = some d' := by
  obtain ⟨p0, p1⟩ := near2 h0 h1 a b
  obtain ⟨s0, s1, s2, s3⟩ := near4 (far2 (x := x) (a := a) (b := b) k0 (fun q => hne q.symm)) (far2 k1 (fun q => hne q.symm)) (far2 k2 (fun q => hne q.symm)) (far2 k3 (fun q => hne q.symm)) a' b' c' d'
  exact ⟨far4 p0 hne, far4 p1 hne, s0, s1, s2, s3⟩
/-- What Do returns: a yard, what the call tells, and whether this is settled. -/
def YPost (w : World) (I1 I2 : Option Addr) (r : Yd × Td × Bool) (e : Ending) (w' : World) : Prop :=
  ∃ A1 n1 c1 A2 n2 c2, e = .returned (.tuple #[.agg #[.slice A1 n1 c1, .slice A2 n2 c2], r.2.1.val, .bool r.2.2]) ∧ YV w' A1 n1 c1 A2 n2 c2 r.1 ∧ Fr (fun _ => False) w w' ∧
    (∀ r o s, A1 = some ⟨r, o, s⟩ → w.heap.size ≤ r ∨ I1 = some ⟨r, o, s⟩) ∧ (∀ r o s, A2 = some ⟨r, o, s⟩ → w.heap.size ≤ r ∨ I2 = some ⟨r, o, s⟩)
theorem own_fresh {E : TypeId} {size : Nat} {w : World} {base n c : Nat} {A : Option Addr} {xs : List Value} (h : Own E size w base (.slice A n c) n xs) (r o : Nat) (s : Option Nat) (hA : A = some ⟨r, o, s⟩) : base ≤ r := by
  rcases h.2 with ⟨e, _⟩ | ⟨g, cap, cur, e, hb, _⟩
  · injection e with e
    rw [e] at hA
    cases hA
  · injection e with e
    rw [e] at hA
    injection hA with hA
    injection hA with hA
    omega

section
variable (A1 : Option Addr) (c1 : Nat) (A2 : Option Addr) (c2 : Nat) (op bb : Int) (size : Nat) (n : Int) (sign : UInt8) (char : Int) (ctext : List UInt8) (cuts : List Nat) (ad : Option Addr) (cap : Nat)
/-- The five blocks that Do begins with. -/
structure BoxB (w w0 : World) : Prop where
  y0 : w0.cell? ⟨w.heap.size, 0, none⟩ = some (.slice A1 0 c1)
  y1 : w0.cell? ⟨w.heap.size, 1, none⟩ = some (.slice A2 1 c2)
  e0 : w0.cell? ⟨w.heap.size + 1, 0, none⟩ = some (.int .i64 op)
  e1 : w0.cell? ⟨w.heap.size + 1, 1, none⟩ = some (.int .i64 0)
  e2 : w0.cell? ⟨w.heap.size + 1, 2, none⟩ = some (.int .i64 bb)
  e3 : w0.cell? ⟨w.heap.size + 1, 3, none⟩ = some (.int .u16 (size : Int))
  e4 : w0.cell? ⟨w.heap.size + 1, 4, none⟩ = some (.int .i64 n)
  e5 : w0.cell? ⟨w.heap.size + 1, 5, none⟩ = some (.int .u8 (sign.toNat : Int))
  e6 : w0.cell? ⟨w.heap.size + 1, 6, none⟩ = some (.int .i32 char)
  e7 : w0.cell? ⟨w.heap.size + 1, 7, none⟩ = some (.string ⟨ctext.toArray⟩)
  e8 : w0.cell? ⟨w.heap.size + 1, 8, none⟩ = some (.slice ad cuts.length cap)
  u0 : w0.cell? ⟨w.heap.size + 1 + 1, 0, none⟩ = some (.slice none 0 0)
  u1 : w0.cell? ⟨w.heap.size + 1 + 1, 1, none⟩ = some (.slice none 0 0)
  t0 : w0.cell? ⟨w.heap.size + 1 + 1 + 1, 0, none⟩ = some (.int .i64 0)
  t1 : w0.cell? ⟨w.heap.size + 1 + 1 + 1, 1, none⟩ = some (.string ⟨#[]⟩)
  t2 : w0.cell? ⟨w.heap.size + 1 + 1 + 1, 2, none⟩ = some (.int .i32 0)
  t3 : w0.cell? ⟨w.heap.size + 1 + 1 + 1, 3, none⟩ = some (.int .i64 0)
  n0 : w0.cell? ⟨w.heap.size + 1 + 1 + 1 + 1, 0, none⟩ = some (.int .i64 0)
  n1 : w0.cell? ⟨w.heap.size + 1 + 1 + 1 + 1, 1, none⟩ = some (.string ⟨#[]⟩)
  n2 : w0.cell? ⟨w.heap.size + 1 + 1 + 1 + 1, 2, none⟩ = some (.int .i32 0)
  n3 : w0.cell? ⟨w.heap.size + 1 + 1 + 1 + 1, 3, none⟩ = some (.int .i64 4)
  yz : ∀ i, w0.frozen? ⟨w.heap.size, i, none⟩ = false
  uz : ∀ i, w0.frozen? ⟨w.heap.size + 1 + 1, i, none⟩ = false
  tz : ∀ i, w0.frozen? ⟨w.heap.size + 1 + 1 + 1, i, none⟩ = false
  fr : Fr (fun _ => False) w w0
  lt : w.heap.size + 1 + 1 + 1 + 1 < w0.heap.size
theorem BoxB_new (w : World) : BoxB A1 c1 A2 c2 op bb size n sign char ctext cuts ad cap w (((((w.alloc (.cells #[.slice A1 0 c1, .slice A2 1 c2] 42)).alloc (.cells #[.int .i64 op, .int .i64 0, .int .i64 bb, .int .u16 (size : Int), .int .i64 n, .int .u8 (sign.toNat : Int), .int .i32 char, .string ⟨ctext.toArray⟩, .slice ad cuts.length cap] 27)).alloc (.cells #[.slice none 0 0, .slice none 0 0] 42)).alloc (.cells #[.int .i64 0, .string ⟨#[]⟩, .int .i32 0, .int .i64 0] 45)).alloc (.cells #[.int .i64 0, .string ⟨#[]⟩, .int .i32 0, .int .i64 4] 45)) := by
  obtain ⟨h0, h1, h2, h3, h4⟩ := five_blocks w (.cells #[.slice A1 0 c1, .slice A2 1 c2] 42) (.cells #[.int .i64 op, .int .i64 0, .int .i64 bb, .int .u16 (size : Int), .int .i64 n, .int .u8 (sign.toNat : Int), .int .i32 char, .string ⟨ctext.toArray⟩, .slice ad cuts.length cap] 27) (.cells #[.slice none 0 0, .slice none 0 0] 42) (.cells #[.int .i64 0, .string ⟨#[]⟩, .int .i32 0, .int .i64 0] 45) (.cells #[.int .i64 0, .string ⟨#[]⟩, .int .i32 0, .int .i64 4] 45)
  refine ⟨?_, ?_, ?_, ?_, ?_, ?_, ?_, ?_, ?_, ?_, ?_, ?_, ?_, ?_, ?_, ?_, ?_, ?_, ?_, ?_, ?_, ?_, ?_, ?_, ((((((Fr.refl (fun _ => False) w).alloc _).alloc _).alloc _).alloc _).alloc _), lt_of_blk h4⟩
  all_goals first | (rw [cell_of_row _ _ _ _ _ _ h0]; rfl) | (rw [cell_of_row _ _ _ _ _ _ h1]; rfl) | (rw [cell_of_row _ _ _ _ _ _ h2]; rfl) | (rw [cell_of_row _ _ _ _ _ _ h3]; rfl) | (rw [cell_of_row _ _ _ _ _ _ h4]; rfl) | exact fun i => frozen_row h0 i | exact fun i => frozen_row h2 i | exact fun i => frozen_row h3 i
set_option maxHeartbeats 3200000 in
set_option maxRecDepth 100000 in
theorem spg_noneb (w : World) (y : Yd) (h1 : ¬ op < 1) (_h2 : 36 ≤ op) (hY : YV w A1 0 c1 A2 1 c2 y) :
    Calls Tryz.prog 10 #[.agg #[.slice A1 0 c1, .slice A2 1 c2], .agg #[.int .i64 op, .int .i64 0, .int .i64 bb, .int .u16 (size : Int), .int .i64 n, .int .u8 (sign.toNat : Int), .int .i32 char, .string ⟨ctext.toArray⟩, .slice ad cuts.length cap]] w (YPost w A1 A2 (y, Td.said' 4, true)) := by
  obtain ⟨w0, hw0⟩ : ∃ w0, w0 = (((((w.alloc (.cells #[.slice A1 0 c1, .slice A2 1 c2] 42)).alloc (.cells #[.int .i64 op, .int .i64 0, .int .i64 bb, .int .u16 (size : Int), .int .i64 n, .int .u8 (sign.toNat : Int), .int .i32 char, .string ⟨ctext.toArray⟩, .slice ad cuts.length cap] 27)).alloc (.cells #[.slice none 0 0, .slice none 0 0] 42)).alloc (.cells #[.int .i64 0, .string ⟨#[]⟩, .int .i32 0, .int .i64 0] 45)).alloc (.cells #[.int .i64 0, .string ⟨#[]⟩, .int .i32 0, .int .i64 4] 45)) := ⟨_, rfl⟩
  have hX : BoxB A1 c1 A2 c2 op bb size n sign char ctext cuts ad cap w w0 := by rw [hw0]; exact BoxB_new ..
  have HX := Lib.hid hX
  have HW0 := Lib.hid hw0
  have HY := Lib.hid hY
  have m1b : decide (op < 1) = false := by simpa using h1
  clear hY
  obtain ⟨y0, y1, e0, e1, e2, e3, e4, e5, e6, e7, e8, u0, u1, t0, t1, t2, t3, n0, n1, n2, n3, yz, uz, tz, _, hlt⟩ := hX
  have yz0 := yz 0; have yz1 := yz 1; have uz0 := uz 0; have uz1 := uz 1; have tz0 := tz 0; have tz1 := tz 1; have tz2 := tz 2; have tz3 := tz 3
  clear hw0 yz uz tz
  go_enter Tryz.func10, Tryz.ntmps10
  go_wp2_with fail
  rw [← HW0.out]
  go_region_held3 (fun w' => w'.cell? ⟨w.heap.size, 0, none⟩ = some (.slice A1 0 c1) ∧ w'.cell? ⟨w.heap.size, 1, none⟩ = some (.slice A2 1 c2) ∧ w'.cell? ⟨w.heap.size + 1 + 1 + 1 + 1, 0, none⟩ = some (.int .i64 0) ∧ w'.cell? ⟨w.heap.size + 1 + 1 + 1 + 1, 1, none⟩ = some (.string ⟨#[]⟩) ∧ w'.cell? ⟨w.heap.size + 1 + 1 + 1 + 1, 2, none⟩ = some (.int .i32 0) ∧ w'.cell? ⟨w.heap.size + 1 + 1 + 1 + 1, 3, none⟩ = some (.int .i64 4)) (((repeat' apply And.intro) <;> (try simp only [World.cell?_drew]) <;> first | with_reducible assumption | with_reducible exact alloc_cell (by with_reducible assumption) | with_reducible exact alloc_cell (alloc_cell (by with_reducible assumption)) | with_reducible exact far2 (by with_reducible assumption) (by dsimp only; omega) | with_reducible exact far4 (far2 (by with_reducible assumption) (by dsimp only; omega)) (by dsimp only; omega) | with_reducible exact far4 (by with_reducible assumption) (by dsimp only; omega) | with_reducible exact far4 (far4 (by with_reducible assumption) (by dsimp only; omega)) (by dsimp only; omega) | with_reducible exact far4 (alloc_cell (by with_reducible assumption)) (by dsimp only; omega) | with_reducible exact alloc_cell (far4 (by with_reducible assumption) (by dsimp only; omega)) | with_reducible exact far4 (far4 (alloc_cell (by with_reducible assumption)) (by dsimp only; omega)) (by dsimp only; omega) | with_reducible exact far4 (alloc_cell (alloc_cell (by with_reducible assumption))) (by dsimp only; omega) | with_reducible exact far4 (alloc_cell (far4 (by with_reducible assumption) (by dsimp only; omega))) (by dsimp only; omega))) (fail)
  go_wp2_with fail
  obtain ⟨w8, hw8⟩ : ∃ w8, w8 = ((((((w0.setCell ⟨w.heap.size + 1 + 1, 0, none⟩ (.slice A1 0 c1)).setCell ⟨w.heap.size + 1 + 1, 1, none⟩ (.slice A2 1 c2)).setCell ⟨w.heap.size + 1 + 1 + 1, 0, none⟩ (.int .i64 0)).setCell ⟨w.heap.size + 1 + 1 + 1, 1, none⟩ (.string ⟨#[]⟩)).setCell ⟨w.heap.size + 1 + 1 + 1, 2, none⟩ (.int .i32 0)).setCell ⟨w.heap.size + 1 + 1 + 1, 3, none⟩ (.int .i64 4)).drew := ⟨_, rfl⟩
  have HF8 := Lib.hid (show Fr (fun _ => False) w w8 by rw [hw8]; (repeat (with_reducible first | exact HX.out.fr | refine Fr.setCell ?_ (fun q => by dsimp only at q; omega) _ | refine Fr.drew ?_ | refine Fr.alloc ?_ _ | exact HFW.out)))
  obtain ⟨p0, p1, p2, p3, p4, p5⟩ := stores24 (w := w0) (x := w.heap.size + 1 + 1) (y := w.heap.size + 1 + 1 + 1) (by omega) u0 u1 t0 t1 t2 t3 (.slice A1 0 c1) (.slice A2 1 c2) (.int .i64 0) (.string ⟨#[]⟩) (.int .i32 0) (.int .i64 4)
  have q0 : w8.cell? ⟨w.heap.size + 1 + 1, 0, none⟩ = some (.slice A1 0 c1) := by rw [hw8, World.cell?_drew]; exact p0
  have q1 : w8.cell? ⟨w.heap.size + 1 + 1, 1, none⟩ = some (.slice A2 1 c2) := by rw [hw8, World.cell?_drew]; exact p1
  have q2 : w8.cell? ⟨w.heap.size + 1 + 1 + 1, 0, none⟩ = some (.int .i64 0) := by rw [hw8, World.cell?_drew]; exact p2
  have q3 : w8.cell? ⟨w.heap.size + 1 + 1 + 1, 1, none⟩ = some (.string ⟨#[]⟩) := by rw [hw8, World.cell?_drew]; exact p3
  have q4 : w8.cell? ⟨w.heap.size + 1 + 1 + 1, 2, none⟩ = some (.int .i32 0) := by rw [hw8, World.cell?_drew]; exact p4
  have q5 : w8.cell? ⟨w.heap.size + 1 + 1 + 1, 3, none⟩ = some (.int .i64 4) := by rw [hw8, World.cell?_drew]; exact p5
  rw [← hw8]
  refine bodyPost_ret (v := .tuple #[.agg #[.slice A1 0 c1, .slice A2 1 c2], Td.val (Td.said' 4), .bool true]) (by simp [results, Tryz.results10, go_sem, Td.val, Td.cells, Td.said', q0, q1, q2, q3, q4, q5]) rfl ?_
  exact ⟨_, _, _, _, _, _, rfl, HY.out.fr HF8.out, HF8.out, fun _ _ _ q => .inr q, fun _ _ _ q => .inr q⟩
set_option maxHeartbeats 3200000 in
set_option maxRecDepth 100000 in
theorem spg_bld (w : World) (s : List UInt8) (h1 : ¬ op < 1) (h2 : ¬ 36 ≤ op) (h3 : 28 ≤ op) (hY : YV w A1 0 c1 A2 1 c2 ⟨[], [s]⟩)
    (R : List UInt8) (T : Td) (O : Bool) (hc0 : ∀ wx, Calls Tryz.prog 17 #[.string ⟨s.toArray⟩, .agg #[.int .i64 op, .int .i64 0, .int .i64 bb, .int .u16 (size : Int), .int .i64 n, .int .u8 (sign.toNat : Int), .int .i32 char, .string ⟨ctext.toArray⟩, .slice ad cuts.length cap]] wx (PutPost wx R T O)) :
    Calls Tryz.prog 10 #[.agg #[.slice A1 0 c1, .slice A2 1 c2], .agg #[.int .i64 op, .int .i64 0, .int .i64 bb, .int .u16 (size : Int), .int .i64 n, .int .u8 (sign.toNat : Int), .int .i32 char, .string ⟨ctext.toArray⟩, .slice ad cuts.length cap]] w (YPost w A1 A2 (⟨[], [R]⟩, T, O)) := by
  obtain ⟨w0, hw0⟩ : ∃ w0, w0 = (((((w.alloc (.cells #[.slice A1 0 c1, .slice A2 1 c2] 42)).alloc (.cells #[.int .i64 op, .int .i64 0, .int .i64 bb, .int .u16 (size : Int), .int .i64 n, .int .u8 (sign.toNat : Int), .int .i32 char, .string ⟨ctext.toArray⟩, .slice ad cuts.length cap] 27)).alloc (.cells #[.slice none 0 0, .slice none 0 0] 42)).alloc (.cells #[.int .i64 0, .string ⟨#[]⟩, .int .i32 0, .int .i64 0] 45)).alloc (.cells #[.int .i64 0, .string ⟨#[]⟩, .int .i32 0, .int .i64 4] 45)) := ⟨_, rfl⟩
  have hX : BoxB A1 c1 A2 c2 op bb size n sign char ctext cuts ad cap w w0 := by rw [hw0]; exact BoxB_new ..
  have HX := Lib.hid hX
  have HW0 := Lib.hid hw0
  obtain ⟨tn, tt, tc, ts⟩ := T
  have hc : ∀ wx, Calls Tryz.prog 17 #[.string ⟨s.toArray⟩, .agg #[.int .i64 op, .int .i64 0, .int .i64 bb, .int .u16 (size : Int), .int .i64 n, .int .u8 (sign.toNat : Int), .int .i32 char, .string ⟨ctext.toArray⟩, .slice ad cuts.length cap]] wx (PutPost wx R ⟨tn, tt, tc, ts⟩ O) := hc0
  unfold PutPost at hc
  simp only [Td.val, Td.cells] at hc
  have HC := Lib.hid hc
  have HY := Lib.hid hY
  have m1 : ¬ op < 1 := h1
  have m2 : ¬ 36 ≤ op := h2
  have m3 : 28 ≤ op := h3
  have m1b : decide (op < 1) = false := by simpa using h1
  clear hc hc0 hY h1 h2 h3
  obtain ⟨y0, y1, e0, e1, e2, e3, e4, e5, e6, e7, e8, u0, u1, t0, t1, t2, t3, n0, n1, n2, n3, yz, uz, tz, _, hlt⟩ := hX
  have yz0 := yz 0; have yz1 := yz 1; have uz0 := uz 0; have uz1 := uz 1; have tz0 := tz 0; have tz1 := tz 1; have tz2 := tz 2; have tz3 := tz 3
  clear hw0 yz uz tz
  go_enter Tryz.func10, Tryz.ntmps10
  go_wp2_with fail
  rw [← HW0.out]
  refine (sp_copied A1 0 c1 A2 1 c2 ⟨[], [s]⟩ _ (HY.out.fr HX.out.fr) (by simp) (by simp)).mono ?_
  rintro e w1 ⟨v1, v2, rfl, o1, o2, F1⟩
  have o1' : Own 57 4 w1 w0.heap.size v1 0 (sbs []) := o1
  have o2' : Own 9 1 w1 w0.heap.size v2 1 [.string ⟨s.toArray⟩] := o2
  obtain ⟨g, d1, cur, rfl, hg, hgb, x0⟩ := own_one1 o2'
  obtain ⟨B2, d2, rfl⟩ := o1'.value
  have HB2 := Lib.hid (show B2 = none → d2 = 0 from fun q => (Own.zero o1' q).2)
  have HFRE := Lib.hid (show (∀ r o s, B2 = some ⟨r, o, s⟩ → w.heap.size ≤ r ∨ A1 = some ⟨r, o, s⟩) ∧ (∀ r o s, some (⟨g, 0, none⟩ : Addr) = some ⟨r, o, s⟩ → w.heap.size ≤ r ∨ A2 = some ⟨r, o, s⟩) from ⟨fun r o s q => .inl (Nat.le_trans HX.out.fr.size (own_fresh o1' r o s q)), fun r o s q => .inl (Nat.le_trans HX.out.fr.size (by injection q with q; injection q with q; omega))⟩)
  have HFW := Lib.hid F1
  have xz : ∀ i, w1.frozen? ⟨g, i, none⟩ = false := fun i => frozen_row hgb i
  have xz0 := xz 0
  have hgl : g < w1.heap.size := lt_of_blk hgb
  have hgH : w.heap.size + 1 + 1 + 1 + 1 < g := by omega
  clear o1 o1' o2 o2' F1 hgb xz
  have y0x : w1.cell? ⟨w.heap.size, 0, none⟩ = some (.slice A1 0 c1) := (HFW.out.cell (Nat.lt_of_le_of_lt (by dsimp only; omega) HX.out.lt) (fun q => q)).trans y0
  have y1x : w1.cell? ⟨w.heap.size, 1, none⟩ = some (.slice A2 1 c2) := (HFW.out.cell (Nat.lt_of_le_of_lt (by dsimp only; omega) HX.out.lt) (fun q => q)).trans y1
  have e0x : w1.cell? ⟨w.heap.size + 1, 0, none⟩ = some (.int .i64 op) := (HFW.out.cell (Nat.lt_of_le_of_lt (by dsimp only; omega) HX.out.lt) (fun q => q)).trans e0
  have e1x : w1.cell? ⟨w.heap.size + 1, 1, none⟩ = some (.int .i64 0) := (HFW.out.cell (Nat.lt_of_le_of_lt (by dsimp only; omega) HX.out.lt) (fun q => q)).trans e1
  have e2x : w1.cell? ⟨w.heap.size + 1, 2, none⟩ = some (.int .i64 bb) := (HFW.out.cell (Nat.lt_of_le_of_lt (by dsimp only; omega) HX.out.lt) (fun q => q)).trans e2
  have e3x : w1.cell? ⟨w.heap.size + 1, 3, none⟩ = some (.int .u16 (size : Int)) := (HFW.out.cell (Nat.lt_of_le_of_lt (by dsimp only; omega) HX.out.lt) (fun q => q)).trans e3
  have e4x : w1.cell? ⟨w.heap.size + 1, 4, none⟩ = some (.int .i64 n) := (HFW.out.cell (Nat.lt_of_le_of_lt (by dsimp only; omega) HX.out.lt) (fun q => q)).trans e4
  have e5x : w1.cell? ⟨w.heap.size + 1, 5, none⟩ = some (.int .u8 (sign.toNat : Int)) := (HFW.out.cell (Nat.lt_of_le_of_lt (by dsimp only; omega) HX.out.lt) (fun q => q)).trans e5
  have e6x : w1.cell? ⟨w.heap.size + 1, 6, none⟩ = some (.int .i32 char) := (HFW.out.cell (Nat.lt_of_le_of_lt (by dsimp only; omega) HX.out.lt) (fun q => q)).trans e6
  have e7x : w1.cell? ⟨w.heap.size + 1, 7, none⟩ = some (.string ⟨ctext.toArray⟩) := (HFW.out.cell (Nat.lt_of_le_of_lt (by dsimp only; omega) HX.out.lt) (fun q => q)).trans e7
  have e8x : w1.cell? ⟨w.heap.size + 1, 8, none⟩ = some (.slice ad cuts.length cap) := (HFW.out.cell (Nat.lt_of_le_of_lt (by dsimp only; omega) HX.out.lt) (fun q => q)).trans e8
  have u0x : w1.cell? ⟨w.heap.size + 1 + 1, 0, none⟩ = some (.slice none 0 0) := (HFW.out.cell (Nat.lt_of_le_of_lt (by dsimp only; omega) HX.out.lt) (fun q => q)).trans u0
  have u1x : w1.cell? ⟨w.heap.size + 1 + 1, 1, none⟩ = some (.slice none 0 0) := (HFW.out.cell (Nat.lt_of_le_of_lt (by dsimp only; omega) HX.out.lt) (fun q => q)).trans u1
  have t0x : w1.cell? ⟨w.heap.size + 1 + 1 + 1, 0, none⟩ = some (.int .i64 0) := (HFW.out.cell (Nat.lt_of_le_of_lt (by dsimp only; omega) HX.out.lt) (fun q => q)).trans t0
  have t1x : w1.cell? ⟨w.heap.size + 1 + 1 + 1, 1, none⟩ = some (.string ⟨#[]⟩) := (HFW.out.cell (Nat.lt_of_le_of_lt (by dsimp only; omega) HX.out.lt) (fun q => q)).trans t1
  have t2x : w1.cell? ⟨w.heap.size + 1 + 1 + 1, 2, none⟩ = some (.int .i32 0) := (HFW.out.cell (Nat.lt_of_le_of_lt (by dsimp only; omega) HX.out.lt) (fun q => q)).trans t2
  have t3x : w1.cell? ⟨w.heap.size + 1 + 1 + 1, 3, none⟩ = some (.int .i64 0) := (HFW.out.cell (Nat.lt_of_le_of_lt (by dsimp only; omega) HX.out.lt) (fun q => q)).trans t3
  have yz0x : w1.frozen? ⟨w.heap.size, 0, none⟩ = false := (HFW.out.frz (Nat.lt_of_le_of_lt (by dsimp only; omega) HX.out.lt) (fun q => q)).trans yz0
  have yz1x : w1.frozen? ⟨w.heap.size, 1, none⟩ = false := (HFW.out.frz (Nat.lt_of_le_of_lt (by dsimp only; omega) HX.out.lt) (fun q => q)).trans yz1
  have uz0x : w1.frozen? ⟨w.heap.size + 1 + 1, 0, none⟩ = false := (HFW.out.frz (Nat.lt_of_le_of_lt (by dsimp only; omega) HX.out.lt) (fun q => q)).trans uz0
  have uz1x : w1.frozen? ⟨w.heap.size + 1 + 1, 1, none⟩ = false := (HFW.out.frz (Nat.lt_of_le_of_lt (by dsimp only; omega) HX.out.lt) (fun q => q)).trans uz1
  have tz0x : w1.frozen? ⟨w.heap.size + 1 + 1 + 1, 0, none⟩ = false := (HFW.out.frz (Nat.lt_of_le_of_lt (by dsimp only; omega) HX.out.lt) (fun q => q)).trans tz0
  have tz1x : w1.frozen? ⟨w.heap.size + 1 + 1 + 1, 1, none⟩ = false := (HFW.out.frz (Nat.lt_of_le_of_lt (by dsimp only; omega) HX.out.lt) (fun q => q)).trans tz1
  have tz2x : w1.frozen? ⟨w.heap.size + 1 + 1 + 1, 2, none⟩ = false := (HFW.out.frz (Nat.lt_of_le_of_lt (by dsimp only; omega) HX.out.lt) (fun q => q)).trans tz2
  have tz3x : w1.frozen? ⟨w.heap.size + 1 + 1 + 1, 3, none⟩ = false := (HFW.out.frz (Nat.lt_of_le_of_lt (by dsimp only; omega) HX.out.lt) (fun q => q)).trans tz3
  go_wp2_with fail
  refine (sp_among01 _).mono ?_
  rintro e w2 ⟨rfl, hw2⟩
  have hF2 : Fr (Just (w.heap.size)) w1 w2 := by rw [hw2]; exact just2 _ _ _ _
  obtain ⟨yy0, yy1⟩ := near2 y0x y1x (.slice B2 0 d2) (.slice (some ⟨g, 0, none⟩) 1 d1)
  rw [← hw2] at yy0 yy1
  clear hw2
  have HFW2 := Lib.hid (show Fr (fun _ => False) w w2 from ((HX.out.fr).trans HFW.out).trans' hF2 (fun x hx q => by have q : x = w.heap.size := q; omega))
  have e0w : w2.cell? ⟨w.heap.size + 1, 0, none⟩ = some (.int .i64 op) := (hF2.cell (World.block_lt_of_cell? _ _ e0x) (fun q => by have q : w.heap.size + 1 = w.heap.size := q; omega)).trans e0x
  have e1w : w2.cell? ⟨w.heap.size + 1, 1, none⟩ = some (.int .i64 0) := (hF2.cell (World.block_lt_of_cell? _ _ e1x) (fun q => by have q : w.heap.size + 1 = w.heap.size := q; omega)).trans e1x
  have e2w : w2.cell? ⟨w.heap.size + 1, 2, none⟩ = some (.int .i64 bb) := (hF2.cell (World.block_lt_of_cell? _ _ e2x) (fun q => by have q : w.heap.size + 1 = w.heap.size := q; omega)).trans e2x
  have e3w : w2.cell? ⟨w.heap.size + 1, 3, none⟩ = some (.int .u16 (size : Int)) := (hF2.cell (World.block_lt_of_cell? _ _ e3x) (fun q => by have q : w.heap.size + 1 = w.heap.size := q; omega)).trans e3x
  have e4w : w2.cell? ⟨w.heap.size + 1, 4, none⟩ = some (.int .i64 n) := (hF2.cell (World.block_lt_of_cell? _ _ e4x) (fun q => by have q : w.heap.size + 1 = w.heap.size := q; omega)).trans e4x
  have e5w : w2.cell? ⟨w.heap.size + 1, 5, none⟩ = some (.int .u8 (sign.toNat : Int)) := (hF2.cell (World.block_lt_of_cell? _ _ e5x) (fun q => by have q : w.heap.size + 1 = w.heap.size := q; omega)).trans e5x
  have e6w : w2.cell? ⟨w.heap.size + 1, 6, none⟩ = some (.int .i32 char) := (hF2.cell (World.block_lt_of_cell? _ _ e6x) (fun q => by have q : w.heap.size + 1 = w.heap.size := q; omega)).trans e6x
  have e7w : w2.cell? ⟨w.heap.size + 1, 7, none⟩ = some (.string ⟨ctext.toArray⟩) := (hF2.cell (World.block_lt_of_cell? _ _ e7x) (fun q => by have q : w.heap.size + 1 = w.heap.size := q; omega)).trans e7x
  have e8w : w2.cell? ⟨w.heap.size + 1, 8, none⟩ = some (.slice ad cuts.length cap) := (hF2.cell (World.block_lt_of_cell? _ _ e8x) (fun q => by have q : w.heap.size + 1 = w.heap.size := q; omega)).trans e8x
  have u0w : w2.cell? ⟨w.heap.size + 1 + 1, 0, none⟩ = some (.slice none 0 0) := (hF2.cell (World.block_lt_of_cell? _ _ u0x) (fun q => by have q : w.heap.size + 1 + 1 = w.heap.size := q; omega)).trans u0x
  have u1w : w2.cell? ⟨w.heap.size + 1 + 1, 1, none⟩ = some (.slice none 0 0) := (hF2.cell (World.block_lt_of_cell? _ _ u1x) (fun q => by have q : w.heap.size + 1 + 1 = w.heap.size := q; omega)).trans u1x
  have t0w : w2.cell? ⟨w.heap.size + 1 + 1 + 1, 0, none⟩ = some (.int .i64 0) := (hF2.cell (World.block_lt_of_cell? _ _ t0x) (fun q => by have q : w.heap.size + 1 + 1 + 1 = w.heap.size := q; omega)).trans t0x
  have t1w : w2.cell? ⟨w.heap.size + 1 + 1 + 1, 1, none⟩ = some (.string ⟨#[]⟩) := (hF2.cell (World.block_lt_of_cell? _ _ t1x) (fun q => by have q : w.heap.size + 1 + 1 + 1 = w.heap.size := q; omega)).trans t1x
  have t2w : w2.cell? ⟨w.heap.size + 1 + 1 + 1, 2, none⟩ = some (.int .i32 0) := (hF2.cell (World.block_lt_of_cell? _ _ t2x) (fun q => by have q : w.heap.size + 1 + 1 + 1 = w.heap.size := q; omega)).trans t2x
  have t3w : w2.cell? ⟨w.heap.size + 1 + 1 + 1, 3, none⟩ = some (.int .i64 0) := (hF2.cell (World.block_lt_of_cell? _ _ t3x) (fun q => by have q : w.heap.size + 1 + 1 + 1 = w.heap.size := q; omega)).trans t3x
  have uz0w : w2.frozen? ⟨w.heap.size + 1 + 1, 0, none⟩ = false := (hF2.frz (World.block_lt_of_cell? _ _ u0x) (fun q => by have q : w.heap.size + 1 + 1 = w.heap.size := q; omega)).trans uz0x
  have uz1w : w2.frozen? ⟨w.heap.size + 1 + 1, 1, none⟩ = false := (hF2.frz (World.block_lt_of_cell? _ _ u1x) (fun q => by have q : w.heap.size + 1 + 1 = w.heap.size := q; omega)).trans uz1x
  have tz0w : w2.frozen? ⟨w.heap.size + 1 + 1 + 1, 0, none⟩ = false := (hF2.frz (World.block_lt_of_cell? _ _ t0x) (fun q => by have q : w.heap.size + 1 + 1 + 1 = w.heap.size := q; omega)).trans tz0x
  have tz1w : w2.frozen? ⟨w.heap.size + 1 + 1 + 1, 1, none⟩ = false := (hF2.frz (World.block_lt_of_cell? _ _ t1x) (fun q => by have q : w.heap.size + 1 + 1 + 1 = w.heap.size := q; omega)).trans tz1x
  have tz2w : w2.frozen? ⟨w.heap.size + 1 + 1 + 1, 2, none⟩ = false := (hF2.frz (World.block_lt_of_cell? _ _ t2x) (fun q => by have q : w.heap.size + 1 + 1 + 1 = w.heap.size := q; omega)).trans tz2x
  have tz3w : w2.frozen? ⟨w.heap.size + 1 + 1 + 1, 3, none⟩ = false := (hF2.frz (World.block_lt_of_cell? _ _ t3x) (fun q => by have q : w.heap.size + 1 + 1 + 1 = w.heap.size := q; omega)).trans tz3x
  have x0w : w2.cell? ⟨g, 0, none⟩ = some (.string ⟨s.toArray⟩) := (hF2.cell (World.block_lt_of_cell? _ _ x0) (fun q => by have q : g = w.heap.size := q; omega)).trans x0
  have xz0w : w2.frozen? ⟨g, 0, none⟩ = false := (hF2.frz (World.block_lt_of_cell? _ _ x0) (fun q => by have q : g = w.heap.size := q; omega)).trans xz0
  have hlt2 : w1.heap.size ≤ w2.heap.size := hF2.size
  have hlt1 := HFW.out.size
  have hg2 : g < w2.heap.size := by omega
  have hH2 : w.heap.size + 1 + 1 + 1 + 1 < w2.heap.size := by omega
  clear hF2 y0x y1x e0x e1x e2x e3x e4x e5x e6x e7x e8x u0x u1x t0x t1x t2x t3x y0 y1 e0 e1 e2 e3 e4 e5 e6 e7 e8 u0 u1 t0 t1 t2 t3 n0 n1 n2 n3 x0
  go_wp2_with fail
  have HS := Lib.hid (show ∀ w', Fr (fun x => w2.heap.size ≤ x) w2 w' → (w'.cell? ⟨w.heap.size, 1, none⟩ = some (.slice (some ⟨g, 0, none⟩) 1 d1) ∧ w'.cell? ⟨w.heap.size + 1, 0, none⟩ = some (.int .i64 op) ∧ w'.cell? ⟨w.heap.size + 1, 1, none⟩ = some (.int .i64 0) ∧ w'.cell? ⟨w.heap.size + 1, 2, none⟩ = some (.int .i64 bb) ∧ w'.cell? ⟨w.heap.size + 1, 3, none⟩ = some (.int .u16 (size : Int)) ∧ w'.cell? ⟨w.heap.size + 1, 4, none⟩ = some (.int .i64 n) ∧ w'.cell? ⟨w.heap.size + 1, 5, none⟩ = some (.int .u8 (sign.toNat : Int)) ∧ w'.cell? ⟨w.heap.size + 1, 6, none⟩ = some (.int .i32 char) ∧ w'.cell? ⟨w.heap.size + 1, 7, none⟩ = some (.string ⟨ctext.toArray⟩) ∧ w'.cell? ⟨w.heap.size + 1, 8, none⟩ = some (.slice ad cuts.length cap) ∧ w'.cell? ⟨g, 0, none⟩ = some (.string ⟨s.toArray⟩)) from fun w' F => ⟨(F.cell (World.block_lt_of_cell? _ _ yy1) (fun q => Nat.not_lt.2 q (World.block_lt_of_cell? _ _ yy1))).trans yy1, (F.cell (World.block_lt_of_cell? _ _ e0w) (fun q => Nat.not_lt.2 q (World.block_lt_of_cell? _ _ e0w))).trans e0w, (F.cell (World.block_lt_of_cell? _ _ e1w) (fun q => Nat.not_lt.2 q (World.block_lt_of_cell? _ _ e1w))).trans e1w, (F.cell (World.block_lt_of_cell? _ _ e2w) (fun q => Nat.not_lt.2 q (World.block_lt_of_cell? _ _ e2w))).trans e2w, (F.cell (World.block_lt_of_cell? _ _ e3w) (fun q => Nat.not_lt.2 q (World.block_lt_of_cell? _ _ e3w))).trans e3w, (F.cell (World.block_lt_of_cell? _ _ e4w) (fun q => Nat.not_lt.2 q (World.block_lt_of_cell? _ _ e4w))).trans e4w, (F.cell (World.block_lt_of_cell? _ _ e5w) (fun q => Nat.not_lt.2 q (World.block_lt_of_cell? _ _ e5w))).trans e5w, (F.cell (World.block_lt_of_cell? _ _ e6w) (fun q => Nat.not_lt.2 q (World.block_lt_of_cell? _ _ e6w))).trans e6w, (F.cell (World.block_lt_of_cell? _ _ e7w) (fun q => Nat.not_lt.2 q (World.block_lt_of_cell? _ _ e7w))).trans e7w, (F.cell (World.block_lt_of_cell? _ _ e8w) (fun q => Nat.not_lt.2 q (World.block_lt_of_cell? _ _ e8w))).trans e8w, (F.cell (World.block_lt_of_cell? _ _ x0w) (fun q => Nat.not_lt.2 q (World.block_lt_of_cell? _ _ x0w))).trans x0w⟩)
  go_cut [8, 9, 10] from 11 (fun s8 s9 s10 wc => ∃ x, s8 = .string ⟨R.toArray⟩ ∧ s9 = .pointer (some ⟨x, 0, none⟩) ∧ s10 = .bool O ∧ OneR w2 wc x (.int .i64 tn) (.string ⟨tt.toArray⟩) (.int .i32 tc) (.int .i64 ts))
  case first =>
    go_region_held3 (fun w' => w'.cell? ⟨w.heap.size, 1, none⟩ = some (.slice (some ⟨g, 0, none⟩) 1 d1) ∧ w'.cell? ⟨w.heap.size + 1, 0, none⟩ = some (.int .i64 op) ∧ w'.cell? ⟨w.heap.size + 1, 1, none⟩ = some (.int .i64 0) ∧ w'.cell? ⟨w.heap.size + 1, 2, none⟩ = some (.int .i64 bb) ∧ w'.cell? ⟨w.heap.size + 1, 3, none⟩ = some (.int .u16 (size : Int)) ∧ w'.cell? ⟨w.heap.size + 1, 4, none⟩ = some (.int .i64 n) ∧ w'.cell? ⟨w.heap.size + 1, 5, none⟩ = some (.int .u8 (sign.toNat : Int)) ∧ w'.cell? ⟨w.heap.size + 1, 6, none⟩ = some (.int .i32 char) ∧ w'.cell? ⟨w.heap.size + 1, 7, none⟩ = some (.string ⟨ctext.toArray⟩) ∧ w'.cell? ⟨w.heap.size + 1, 8, none⟩ = some (.slice ad cuts.length cap) ∧ w'.cell? ⟨g, 0, none⟩ = some (.string ⟨s.toArray⟩)) (exact HS.out _ (by (repeat (with_reducible first | exact Fr.refl _ _ | refine fr4 ?_ (by omega) _ _ _ _ | refine Fr.drew ?_ | refine Fr.alloc ?_ _ | exact (HF3.out.mono (fun _ _ q => q.elim)))))) ((go_at_call 17; refine (HC.out _).mono ?_; rintro e w3 ⟨rfl, F3⟩; have HF3 : Hid (Fr (fun _ => False) w2 w3) := Lib.hid (Fr.trans (by (repeat (with_reducible first | exact Fr.refl _ _ | refine Fr.drew ?_ | refine Fr.alloc ?_ _))) F3); have yy1v : w3.cell? ⟨w.heap.size, 1, none⟩ = some (.slice (some ⟨g, 0, none⟩) 1 d1) := (HF3.out.cell (World.block_lt_of_cell? _ _ yy1) (fun q => q)).trans yy1; have e0wv : w3.cell? ⟨w.heap.size + 1, 0, none⟩ = some (.int .i64 op) := (HF3.out.cell (World.block_lt_of_cell? _ _ e0w) (fun q => q)).trans e0w; have e1wv : w3.cell? ⟨w.heap.size + 1, 1, none⟩ = some (.int .i64 0) := (HF3.out.cell (World.block_lt_of_cell? _ _ e1w) (fun q => q)).trans e1w; have e2wv : w3.cell? ⟨w.heap.size + 1, 2, none⟩ = some (.int .i64 bb) := (HF3.out.cell (World.block_lt_of_cell? _ _ e2w) (fun q => q)).trans e2w; have e3wv : w3.cell? ⟨w.heap.size + 1, 3, none⟩ = some (.int .u16 (size : Int)) := (HF3.out.cell (World.block_lt_of_cell? _ _ e3w) (fun q => q)).trans e3w; have e4wv : w3.cell? ⟨w.heap.size + 1, 4, none⟩ = some (.int .i64 n) := (HF3.out.cell (World.block_lt_of_cell? _ _ e4w) (fun q => q)).trans e4w; have e5wv : w3.cell? ⟨w.heap.size + 1, 5, none⟩ = some (.int .u8 (sign.toNat : Int)) := (HF3.out.cell (World.block_lt_of_cell? _ _ e5w) (fun q => q)).trans e5w; have e6wv : w3.cell? ⟨w.heap.size + 1, 6, none⟩ = some (.int .i32 char) := (HF3.out.cell (World.block_lt_of_cell? _ _ e6w) (fun q => q)).trans e6w; have e7wv : w3.cell? ⟨w.heap.size + 1, 7, none⟩ = some (.string ⟨ctext.toArray⟩) := (HF3.out.cell (World.block_lt_of_cell? _ _ e7w) (fun q => q)).trans e7w; have e8wv : w3.cell? ⟨w.heap.size + 1, 8, none⟩ = some (.slice ad cuts.length cap) := (HF3.out.cell (World.block_lt_of_cell? _ _ e8w) (fun q => q)).trans e8w; have x0wv : w3.cell? ⟨g, 0, none⟩ = some (.string ⟨s.toArray⟩) := (HF3.out.cell (World.block_lt_of_cell? _ _ x0w) (fun q => q)).trans x0w; have yy0v : w3.cell? ⟨w.heap.size, 0, none⟩ = some (.slice B2 0 d2) := (HF3.out.cell (World.block_lt_of_cell? _ _ yy0) (fun q => q)).trans yy0; have u0wv : w3.cell? ⟨w.heap.size + 1 + 1, 0, none⟩ = some (.slice none 0 0) := (HF3.out.cell (World.block_lt_of_cell? _ _ u0w) (fun q => q)).trans u0w; have u1wv : w3.cell? ⟨w.heap.size + 1 + 1, 1, none⟩ = some (.slice none 0 0) := (HF3.out.cell (World.block_lt_of_cell? _ _ u1w) (fun q => q)).trans u1w; have t0wv : w3.cell? ⟨w.heap.size + 1 + 1 + 1, 0, none⟩ = some (.int .i64 0) := (HF3.out.cell (World.block_lt_of_cell? _ _ t0w) (fun q => q)).trans t0w; have t1wv : w3.cell? ⟨w.heap.size + 1 + 1 + 1, 1, none⟩ = some (.string ⟨#[]⟩) := (HF3.out.cell (World.block_lt_of_cell? _ _ t1w) (fun q => q)).trans t1w; have t2wv : w3.cell? ⟨w.heap.size + 1 + 1 + 1, 2, none⟩ = some (.int .i32 0) := (HF3.out.cell (World.block_lt_of_cell? _ _ t2w) (fun q => q)).trans t2w; have t3wv : w3.cell? ⟨w.heap.size + 1 + 1 + 1, 3, none⟩ = some (.int .i64 0) := (HF3.out.cell (World.block_lt_of_cell? _ _ t3w) (fun q => q)).trans t3w; have uz0v : w3.frozen? ⟨w.heap.size + 1 + 1, 0, none⟩ = false := (HF3.out.frz (World.block_lt_of_cell? _ _ u0w) (fun q => q)).trans uz0w; have uz1v : w3.frozen? ⟨w.heap.size + 1 + 1, 1, none⟩ = false := (HF3.out.frz (World.block_lt_of_cell? _ _ u1w) (fun q => q)).trans uz1w; have tz0v : w3.frozen? ⟨w.heap.size + 1 + 1 + 1, 0, none⟩ = false := (HF3.out.frz (World.block_lt_of_cell? _ _ t0w) (fun q => q)).trans tz0w; have tz1v : w3.frozen? ⟨w.heap.size + 1 + 1 + 1, 1, none⟩ = false := (HF3.out.frz (World.block_lt_of_cell? _ _ t1w) (fun q => q)).trans tz1w; have tz2v : w3.frozen? ⟨w.heap.size + 1 + 1 + 1, 2, none⟩ = false := (HF3.out.frz (World.block_lt_of_cell? _ _ t2w) (fun q => q)).trans tz2w; have tz3v : w3.frozen? ⟨w.heap.size + 1 + 1 + 1, 3, none⟩ = false := (HF3.out.frz (World.block_lt_of_cell? _ _ t3w) (fun q => q)).trans tz3w; have xz0v : w3.frozen? ⟨g, 0, none⟩ = false := (HF3.out.frz (World.block_lt_of_cell? _ _ x0w) (fun q => q)).trans xz0w; (try (with_reducible first | (have qa := fq_1 F3; obtain ⟨za0, za1, za2, za3, ya0, ya1, ya2, ya3⟩ := row4 qa; have HQA := Lib.hid qa; have l1 := World.block_lt_of_cell? _ _ za0; dsimp only at l1; have l3 : ¬ (w2.heap.size = w3.heap.size) := (by omega); have l4 : ¬ (w3.heap.size = w2.heap.size) := (by omega); clear qa)))))
    all_goals (go_wp2_with fail; go_meet; with_reducible first | exact ⟨_, rfl, rfl, rfl, OneR.a (HF3.out.mono (fun _ _ q => q.elim)) _ _ _ _ _⟩ | exact ⟨_, rfl, rfl, rfl, OneR.s (HF3.out.mono (fun _ _ q => q.elim)) (Nat.le_refl _) za0 za1 za2 za3 _ _ _ _⟩)
  case rest =>
    obtain ⟨x12, rfl, rfl, rfl, hT⟩ := hcut
    have HT := Lib.hid hT
    have yy0c : wc.cell? ⟨w.heap.size, 0, none⟩ = some (.slice B2 0 d2) := (HT.out.fr.cell (World.block_lt_of_cell? _ _ yy0) (fun q => Nat.not_lt.2 q (World.block_lt_of_cell? _ _ yy0))).trans yy0
    have yy1c : wc.cell? ⟨w.heap.size, 1, none⟩ = some (.slice (some ⟨g, 0, none⟩) 1 d1) := (HT.out.fr.cell (World.block_lt_of_cell? _ _ yy1) (fun q => Nat.not_lt.2 q (World.block_lt_of_cell? _ _ yy1))).trans yy1
    have e1wc : wc.cell? ⟨w.heap.size + 1, 1, none⟩ = some (.int .i64 0) := (HT.out.fr.cell (World.block_lt_of_cell? _ _ e1w) (fun q => Nat.not_lt.2 q (World.block_lt_of_cell? _ _ e1w))).trans e1w
    have u0wc : wc.cell? ⟨w.heap.size + 1 + 1, 0, none⟩ = some (.slice none 0 0) := (HT.out.fr.cell (World.block_lt_of_cell? _ _ u0w) (fun q => Nat.not_lt.2 q (World.block_lt_of_cell? _ _ u0w))).trans u0w
    have u1wc : wc.cell? ⟨w.heap.size + 1 + 1, 1, none⟩ = some (.slice none 0 0) := (HT.out.fr.cell (World.block_lt_of_cell? _ _ u1w) (fun q => Nat.not_lt.2 q (World.block_lt_of_cell? _ _ u1w))).trans u1w
    have t0wc : wc.cell? ⟨w.heap.size + 1 + 1 + 1, 0, none⟩ = some (.int .i64 0) := (HT.out.fr.cell (World.block_lt_of_cell? _ _ t0w) (fun q => Nat.not_lt.2 q (World.block_lt_of_cell? _ _ t0w))).trans t0w
    have t1wc : wc.cell? ⟨w.heap.size + 1 + 1 + 1, 1, none⟩ = some (.string ⟨#[]⟩) := (HT.out.fr.cell (World.block_lt_of_cell? _ _ t1w) (fun q => Nat.not_lt.2 q (World.block_lt_of_cell? _ _ t1w))).trans t1w
    have t2wc : wc.cell? ⟨w.heap.size + 1 + 1 + 1, 2, none⟩ = some (.int .i32 0) := (HT.out.fr.cell (World.block_lt_of_cell? _ _ t2w) (fun q => Nat.not_lt.2 q (World.block_lt_of_cell? _ _ t2w))).trans t2w
    have t3wc : wc.cell? ⟨w.heap.size + 1 + 1 + 1, 3, none⟩ = some (.int .i64 0) := (HT.out.fr.cell (World.block_lt_of_cell? _ _ t3w) (fun q => Nat.not_lt.2 q (World.block_lt_of_cell? _ _ t3w))).trans t3w
    have x0wc : wc.cell? ⟨g, 0, none⟩ = some (.string ⟨s.toArray⟩) := (HT.out.fr.cell (World.block_lt_of_cell? _ _ x0w) (fun q => Nat.not_lt.2 q (World.block_lt_of_cell? _ _ x0w))).trans x0w
    have uz0c : wc.frozen? ⟨w.heap.size + 1 + 1, 0, none⟩ = false := (HT.out.fr.frz (World.block_lt_of_cell? _ _ u0w) (fun q => Nat.not_lt.2 q (World.block_lt_of_cell? _ _ u0w))).trans uz0w
    have uz1c : wc.frozen? ⟨w.heap.size + 1 + 1, 1, none⟩ = false := (HT.out.fr.frz (World.block_lt_of_cell? _ _ u1w) (fun q => Nat.not_lt.2 q (World.block_lt_of_cell? _ _ u1w))).trans uz1w
    have tz0c : wc.frozen? ⟨w.heap.size + 1 + 1 + 1, 0, none⟩ = false := (HT.out.fr.frz (World.block_lt_of_cell? _ _ t0w) (fun q => Nat.not_lt.2 q (World.block_lt_of_cell? _ _ t0w))).trans tz0w
    have tz1c : wc.frozen? ⟨w.heap.size + 1 + 1 + 1, 1, none⟩ = false := (HT.out.fr.frz (World.block_lt_of_cell? _ _ t1w) (fun q => Nat.not_lt.2 q (World.block_lt_of_cell? _ _ t1w))).trans tz1w
    have tz2c : wc.frozen? ⟨w.heap.size + 1 + 1 + 1, 2, none⟩ = false := (HT.out.fr.frz (World.block_lt_of_cell? _ _ t2w) (fun q => Nat.not_lt.2 q (World.block_lt_of_cell? _ _ t2w))).trans tz2w
    have tz3c : wc.frozen? ⟨w.heap.size + 1 + 1 + 1, 3, none⟩ = false := (HT.out.fr.frz (World.block_lt_of_cell? _ _ t3w) (fun q => Nat.not_lt.2 q (World.block_lt_of_cell? _ _ t3w))).trans tz3w
    have xz0c : wc.frozen? ⟨g, 0, none⟩ = false := (HT.out.fr.frz (World.block_lt_of_cell? _ _ x0w) (fun q => Nat.not_lt.2 q (World.block_lt_of_cell? _ _ x0w))).trans xz0w
    have s0 : wc.cell? ⟨x12, 0, none⟩ = some (.int .i64 tn) := HT.out.x0
    have s1 : wc.cell? ⟨x12, 1, none⟩ = some (.string ⟨tt.toArray⟩) := HT.out.x1
    have s2 : wc.cell? ⟨x12, 2, none⟩ = some (.int .i32 tc) := HT.out.x2
    have s3 : wc.cell? ⟨x12, 3, none⟩ = some (.int .i64 ts) := HT.out.x3
    have hyl := HT.out.xl
    clear hT yy0 yy1 e1w u0w u1w t0w t1w t2w t3w x0w e0w e2w e3w e4w e5w e6w e7w e8w uz0w uz1w tz0w tz1w tz2w tz3w xz0w
    go_wp2_with fail
    obtain ⟨w5, hw5⟩ : ∃ w5, w5 = (wc.setCell ⟨g, 0, none⟩ (.string ⟨R.toArray⟩)) := ⟨_, rfl⟩
    rw [← hw5]
    have g0 : w5.cell? ⟨g, 0, none⟩ = some (.string ⟨R.toArray⟩) := by rw [hw5]; exact World.cell?_setCell_same _ _ _ x0wc
    have hF5 : Fr (Just g) wc w5 := by rw [hw5]; exact just1 _ _ _
    clear hw5
    have yy05 : w5.cell? ⟨w.heap.size, 0, none⟩ = some (.slice B2 0 d2) := (hF5.cell (World.block_lt_of_cell? _ _ yy0c) (fun q => by have q : w.heap.size = g := q; omega)).trans yy0c
    have yy15 : w5.cell? ⟨w.heap.size, 1, none⟩ = some (.slice (some ⟨g, 0, none⟩) 1 d1) := (hF5.cell (World.block_lt_of_cell? _ _ yy1c) (fun q => by have q : w.heap.size = g := q; omega)).trans yy1c
    have u05 : w5.cell? ⟨w.heap.size + 1 + 1, 0, none⟩ = some (.slice none 0 0) := (hF5.cell (World.block_lt_of_cell? _ _ u0wc) (fun q => by have q : w.heap.size + 1 + 1 = g := q; omega)).trans u0wc
    have u15 : w5.cell? ⟨w.heap.size + 1 + 1, 1, none⟩ = some (.slice none 0 0) := (hF5.cell (World.block_lt_of_cell? _ _ u1wc) (fun q => by have q : w.heap.size + 1 + 1 = g := q; omega)).trans u1wc
    have t05 : w5.cell? ⟨w.heap.size + 1 + 1 + 1, 0, none⟩ = some (.int .i64 0) := (hF5.cell (World.block_lt_of_cell? _ _ t0wc) (fun q => by have q : w.heap.size + 1 + 1 + 1 = g := q; omega)).trans t0wc
    have t15 : w5.cell? ⟨w.heap.size + 1 + 1 + 1, 1, none⟩ = some (.string ⟨#[]⟩) := (hF5.cell (World.block_lt_of_cell? _ _ t1wc) (fun q => by have q : w.heap.size + 1 + 1 + 1 = g := q; omega)).trans t1wc
    have t25 : w5.cell? ⟨w.heap.size + 1 + 1 + 1, 2, none⟩ = some (.int .i32 0) := (hF5.cell (World.block_lt_of_cell? _ _ t2wc) (fun q => by have q : w.heap.size + 1 + 1 + 1 = g := q; omega)).trans t2wc
    have t35 : w5.cell? ⟨w.heap.size + 1 + 1 + 1, 3, none⟩ = some (.int .i64 0) := (hF5.cell (World.block_lt_of_cell? _ _ t3wc) (fun q => by have q : w.heap.size + 1 + 1 + 1 = g := q; omega)).trans t3wc
    have s05 : w5.cell? ⟨x12, 0, none⟩ = some (.int .i64 tn) := (hF5.cell (World.block_lt_of_cell? _ _ s0) (fun q => by have q : x12 = g := q; omega)).trans s0
    have s15 : w5.cell? ⟨x12, 1, none⟩ = some (.string ⟨tt.toArray⟩) := (hF5.cell (World.block_lt_of_cell? _ _ s1) (fun q => by have q : x12 = g := q; omega)).trans s1
    have s25 : w5.cell? ⟨x12, 2, none⟩ = some (.int .i32 tc) := (hF5.cell (World.block_lt_of_cell? _ _ s2) (fun q => by have q : x12 = g := q; omega)).trans s2
    have s35 : w5.cell? ⟨x12, 3, none⟩ = some (.int .i64 ts) := (hF5.cell (World.block_lt_of_cell? _ _ s3) (fun q => by have q : x12 = g := q; omega)).trans s3
    have uz05 : w5.frozen? ⟨w.heap.size + 1 + 1, 0, none⟩ = false := (hF5.frz (World.block_lt_of_cell? _ _ u0wc) (fun q => by have q : w.heap.size + 1 + 1 = g := q; omega)).trans uz0c
    have uz15 : w5.frozen? ⟨w.heap.size + 1 + 1, 1, none⟩ = false := (hF5.frz (World.block_lt_of_cell? _ _ u1wc) (fun q => by have q : w.heap.size + 1 + 1 = g := q; omega)).trans uz1c
    have tz05 : w5.frozen? ⟨w.heap.size + 1 + 1 + 1, 0, none⟩ = false := (hF5.frz (World.block_lt_of_cell? _ _ t0wc) (fun q => by have q : w.heap.size + 1 + 1 + 1 = g := q; omega)).trans tz0c
    have tz15 : w5.frozen? ⟨w.heap.size + 1 + 1 + 1, 1, none⟩ = false := (hF5.frz (World.block_lt_of_cell? _ _ t1wc) (fun q => by have q : w.heap.size + 1 + 1 + 1 = g := q; omega)).trans tz1c
    have tz25 : w5.frozen? ⟨w.heap.size + 1 + 1 + 1, 2, none⟩ = false := (hF5.frz (World.block_lt_of_cell? _ _ t2wc) (fun q => by have q : w.heap.size + 1 + 1 + 1 = g := q; omega)).trans tz2c
    have tz35 : w5.frozen? ⟨w.heap.size + 1 + 1 + 1, 3, none⟩ = false := (hF5.frz (World.block_lt_of_cell? _ _ t3wc) (fun q => by have q : w.heap.size + 1 + 1 + 1 = g := q; omega)).trans tz3c
    have HFW := Lib.hid (show Fr (fun _ => False) w w5 from (HFW2.out.trans' HT.out.fr (fun x hx q => by have := HFW2.out.size; omega)).trans' hF5 (fun x hx q => by have q : x = g := q; have h9 := HX.out.fr.size; omega))
    clear hF5 yy0c yy1c u0wc u1wc t0wc t1wc t2wc t3wc s0 s1 s2 s3 x0wc e1wc uz0c uz1c tz0c tz1c tz2c tz3c xz0c
    have hHx : w.heap.size + 1 + 1 + 1 + 1 < x12 := by omega
    go_region_held3 (fun w' => w'.cell? ⟨w.heap.size, 0, none⟩ = some (.slice B2 0 d2) ∧ w'.cell? ⟨w.heap.size, 1, none⟩ = some (.slice (some ⟨g, 0, none⟩) 1 d1) ∧ w'.cell? ⟨x12, 0, none⟩ = some (.int .i64 tn) ∧ w'.cell? ⟨x12, 1, none⟩ = some (.string ⟨tt.toArray⟩) ∧ w'.cell? ⟨x12, 2, none⟩ = some (.int .i32 tc) ∧ w'.cell? ⟨x12, 3, none⟩ = some (.int .i64 ts)) (((repeat' apply And.intro) <;> (try simp only [World.cell?_drew]) <;> first | with_reducible assumption | with_reducible exact alloc_cell (by with_reducible assumption) | with_reducible exact alloc_cell (alloc_cell (by with_reducible assumption)) | with_reducible exact far2 (by with_reducible assumption) (by dsimp only; omega) | with_reducible exact far4 (far2 (by with_reducible assumption) (by dsimp only; omega)) (by dsimp only; omega) | with_reducible exact far4 (by with_reducible assumption) (by dsimp only; omega) | with_reducible exact far4 (far4 (by with_reducible assumption) (by dsimp only; omega)) (by dsimp only; omega) | with_reducible exact far4 (alloc_cell (by with_reducible assumption)) (by dsimp only; omega) | with_reducible exact alloc_cell (far4 (by with_reducible assumption) (by dsimp only; omega)) | with_reducible exact far4 (far4 (alloc_cell (by with_reducible assumption)) (by dsimp only; omega)) (by dsimp only; omega) | with_reducible exact far4 (alloc_cell (alloc_cell (by with_reducible assumption))) (by dsimp only; omega) | with_reducible exact far4 (alloc_cell (far4 (by with_reducible assumption) (by dsimp only; omega))) (by dsimp only; omega))) (fail)
    go_wp2_with fail
    obtain ⟨w8, hw8⟩ : ∃ w8, w8 = ((((((w5.setCell ⟨w.heap.size + 1 + 1, 0, none⟩ (.slice B2 0 d2)).setCell ⟨w.heap.size + 1 + 1, 1, none⟩ (.slice (some ⟨g, 0, none⟩) 1 d1)).setCell ⟨w.heap.size + 1 + 1 + 1, 0, none⟩ (.int .i64 tn)).setCell ⟨w.heap.size + 1 + 1 + 1, 1, none⟩ (.string ⟨tt.toArray⟩)).setCell ⟨w.heap.size + 1 + 1 + 1, 2, none⟩ (.int .i32 tc)).setCell ⟨w.heap.size + 1 + 1 + 1, 3, none⟩ (.int .i64 ts)).drew := ⟨_, rfl⟩
    have HF8 := Lib.hid (show Fr (fun _ => False) w w8 by rw [hw8]; (repeat (with_reducible first | exact HX.out.fr | refine Fr.setCell ?_ (fun q => by dsimp only at q; omega) _ | refine Fr.drew ?_ | refine Fr.alloc ?_ _ | exact HFW.out)))
    obtain ⟨p0, p1, p2, p3, p4, p5⟩ := stores24 (w := w5) (x := w.heap.size + 1 + 1) (y := w.heap.size + 1 + 1 + 1) (by omega) u05 u15 t05 t15 t25 t35 (.slice B2 0 d2) (.slice (some ⟨g, 0, none⟩) 1 d1) (.int .i64 tn) (.string ⟨tt.toArray⟩) (.int .i32 tc) (.int .i64 ts)
    have q0 : w8.cell? ⟨w.heap.size + 1 + 1, 0, none⟩ = some (.slice B2 0 d2) := by rw [hw8, World.cell?_drew]; exact p0
    have q1 : w8.cell? ⟨w.heap.size + 1 + 1, 1, none⟩ = some (.slice (some ⟨g, 0, none⟩) 1 d1) := by rw [hw8, World.cell?_drew]; exact p1
    have q2 : w8.cell? ⟨w.heap.size + 1 + 1 + 1, 0, none⟩ = some (.int .i64 tn) := by rw [hw8, World.cell?_drew]; exact p2
    have q3 : w8.cell? ⟨w.heap.size + 1 + 1 + 1, 1, none⟩ = some (.string ⟨tt.toArray⟩) := by rw [hw8, World.cell?_drew]; exact p3
    have q4 : w8.cell? ⟨w.heap.size + 1 + 1 + 1, 2, none⟩ = some (.int .i32 tc) := by rw [hw8, World.cell?_drew]; exact p4
    have q5 : w8.cell? ⟨w.heap.size + 1 + 1 + 1, 3, none⟩ = some (.int .i64 ts) := by rw [hw8, World.cell?_drew]; exact p5
    have gg : ∀ (k : Nat) (v : Value), w5.cell? ⟨g, k, none⟩ = some v → w8.cell? ⟨g, k, none⟩ = some v := fun k v h => by rw [hw8, World.cell?_drew]; exact far4 (far2 h (by dsimp only; omega)) (by dsimp only; omega)
    have hYV := Lib.hid (show YV w8 B2 0 d2 (some ⟨g, 0, none⟩) 1 d1 ⟨[], [R]⟩ from ⟨rfl, rfl, Reads.nil _ _ _ _, reads_str1 R (gg 0 _ g0), fun q => ⟨rfl, HB2.out q⟩, fun q => (by cases q)⟩)
    clear gg
    rw [← hw8]
    refine bodyPost_ret (v := .tuple #[.agg #[.slice B2 0 d2, .slice (some ⟨g, 0, none⟩) 1 d1], Td.val ⟨tn, tt, tc, ts⟩, .bool O]) (by simp [results, Tryz.results10, go_sem, Td.val, Td.cells, q0, q1, q2, q3, q4, q5]) rfl ?_
    exact ⟨_, _, _, _, _, _, rfl, hYV.out, HF8.out, HFRE.out.1, HFRE.out.2⟩
end
end Go.Proofs.YtkggebhkjgjijaaGreatDoor
