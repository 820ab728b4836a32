/- (*impl.source).Read. -/
import Derived.Test.YtmifjolehieccaaDoorPieces
namespace Go.Proofs.YtmifjolehieccaaDoor
open Go Go.RowKit

theorem elem_int : ElemOk Tryd.prog 26 3 1 8 := by
  obtain ⟨i0, hi, hz0, hz1, hz2⟩ := info_parts (show (Tryd.prog.info? 3).map (fun i => (i.zero, i.size, i.bytes)) = some (some (.int .i64 0), 1, 8) by kernel_rfl)
  exact ⟨Tryd.underlying26, ⟨i0, _, hi, hz0, hz1, hz2, rfl⟩, by decide, by decide⟩
def intV (n : Nat) : Value := .int .i64 (n : Int)
def ints' (l : List Nat) : List Value := l.map intV

/-- The strings ps lie in a row from its place o on. -/
def StrRow (w : World) (base : Nat) (A : Option Addr) (ps : List (List UInt8)) : Prop :=
  ps ≠ [] → ∃ r o cur, A = some ⟨r, o, none⟩ ∧ base ≤ r ∧ w.heap[r]? = some (.cells cur 9 (0, 0)) ∧ ∀ (j : Nat) p, ps[j]? = some p → cur[o + j]? = some (strV p)
/-- A reader of pieces: its struct's three cells, what they hold. -/
structure SrcC (w : World) (sb base : Nat) (A : Option Addr) (c : Nat) (v : Value) (ps : List (List UInt8)) (fl : Bool) (ak : List Nat) : Prop where
  bb : base ≤ sb
  st : w.heap[sb]? = some (.cells #[.slice A ps.length c, .bool fl, v] 53 (0, 0))
  row : StrRow w base A ps
  len : ps.length ≤ c
  own : Own 3 1 w base v ak.length (ints' ak)
def SrcAt (w : World) (sb base : Nat) (ps : List (List UInt8)) (fl : Bool) (ak : List Nat) : Prop := ∃ A c v, SrcC w sb base A c v ps fl ak

/-- A block of elements T. -/
def Typed (w : World) (x : Nat) (T : TypeId) : Prop := ∃ cs fz, w.heap[x]? = some (.cells cs T fz)
/-- What a reader may write: blocks that are young and no rows of bytes. -/
def srcS (w : World) (base : Nat) (x : Nat) : Prop := base ≤ x ∧ ¬ Typed w x 5
theorem Typed.ne {w : World} {x : Nat} {T T' : TypeId} (h : Typed w x T) (hne : T ≠ T') : ¬ Typed w x T' := by
  rintro ⟨cs', fz', k⟩
  obtain ⟨cs, fz, h⟩ := h
  rw [h] at k
  injection k with k
  injection k with _ k
  exact hne k

section
variable {w w' : World} {sb base : Nat} {A : Option Addr} {c : Nat} {v : Value} {ps : List (List UInt8)} {fl : Bool} {ak : List Nat}
theorem SrcC.lt (h : SrcC w sb base A c v ps fl ak) : sb < w.heap.size := lt_of_blk h.st
theorem SrcC.c0 (h : SrcC w sb base A c v ps fl ak) : w.cell? ⟨sb, 0, none⟩ = some (.slice A ps.length c) := by rw [cell_of_row w sb 0 _ _ _ h.st]; rfl
theorem SrcC.c1 (h : SrcC w sb base A c v ps fl ak) : w.cell? ⟨sb, 1, none⟩ = some (.bool fl) := by rw [cell_of_row w sb 1 _ _ _ h.st]; rfl
theorem SrcC.c2 (h : SrcC w sb base A c v ps fl ak) : w.cell? ⟨sb, 2, none⟩ = some v := by rw [cell_of_row w sb 2 _ _ _ h.st]; rfl
theorem SrcC.f (h : SrcC w sb base A c v ps fl ak) (i : Nat) : w.frozen? ⟨sb, i, none⟩ = false := by simp [World.frozen?, h.st]
theorem StrRow.fr {S : Nat → Prop} (h : StrRow w base A ps) (hf : Fr S w w') (hn : ∀ x, S x → ¬ Typed w x 9 ∨ ¬ base ≤ x) : StrRow w' base A ps := by
  intro q
  obtain ⟨r, o, cur, rfl, h1, h2, h3⟩ := h q
  refine ⟨r, o, cur, rfl, h1, hf.blk h2 (fun k => ?_), h3⟩
  rcases hn r k with k | k
  · exact k ⟨_, _, h2⟩
  · exact k h1
theorem SrcC.fr {S : Nat → Prop} (h : SrcC w sb base A c v ps fl ak) (hf : Fr S w w') (hn : ∀ x, S x → base ≤ x → Typed w x 5) : SrcC w' sb base A c v ps fl ak := by
  refine ⟨h.bb, hf.blk h.st (fun k => ?_), h.row.fr hf (fun x k => ?_), h.len, h.own.fr hf (fun g hg k => ?_)⟩
  · exact (Typed.ne ⟨_, _, h.st⟩ (by decide)) (hn _ k h.bb)
  · rcases Nat.lt_or_ge x base with q | q
    · exact .inr (by omega)
    · exact .inl ((hn x k q).ne (by decide))
  · obtain ⟨cs, fz, k2⟩ := hn g k (h.own.blk_ge hg)
    exact h.own.ne_blk k2 (by decide) hg rfl
theorem SrcC.st_own (h : SrcC w sb base A c v ps fl ak) (hf : Fr (fun x => v.ownBlock = some x) w w') : w'.heap[sb]? = some (.cells #[.slice A ps.length c, .bool fl, v] 53 (0, 0)) :=
  hf.blk h.st (fun k => h.own.ne_blk h.st (by decide) k rfl)
/-- The numbers' slice laid anew. -/
theorem SrcC.put2 {v' : Value} {ak' : List Nat} (h : SrcC w sb base A c v ps fl ak) (hf : Fr (fun x => v.ownBlock = some x) w w') (hown : Own 3 1 w' base v' ak'.length (ints' ak')) :
    SrcC (w'.setCell ⟨sb, 2, none⟩ v') sb base A c v' ps fl ak' := by
  have hne : ∀ g, v.ownBlock = some g → g ≠ sb := fun g hg => h.own.ne_blk h.st (by decide) hg
  have hst : w'.heap[sb]? = _ := hf.blk h.st (fun k => hne sb k rfl)
  refine ⟨h.bb, ?_, ?_, h.len, ?_⟩
  · simp [World.setCell, Array.getElem?_modify, hst]
  · have h1 : StrRow w' base A ps := h.row.fr hf (fun x k => .inl fun ⟨cs, fz, q⟩ => h.own.ne_blk q (by decide) k rfl)
    exact h1.fr ((Fr.refl (Just sb) w').setCell (fun _ => just_self sb) _) (fun x k => .inl (by rw [k]; exact Typed.ne ⟨_, _, hst⟩ (by decide)))
  · exact hown.fr ((Fr.refl (Just sb) w').setCell (fun _ => just_self sb) _) (fun g hg k => by
      have := hown.ne_blk hst (by decide) hg
      exact this k)
end

/-- An error of errors.New's make. -/
abbrev errV (a : Addr) : Value := .iface 123 (.pointer (some a))

set_option maxHeartbeats 1600000 in
set_option maxRecDepth 100000 in
/-- There is nothing to read: io.EOF. -/
theorem source_end (sb base : Nat) (ak : List Nat) (A : Option Addr) (n c : Nat) (ea : Addr) (w : World) (h : SrcAt w sb base [] false ak) (he : w.cell? ⟨1, 0, none⟩ = some (errV ea)) (hak : ak.length ≤ 4294967296) (hb : base ≤ w.heap.size) (_hn : n ≤ 9223372036854775807)
    (hsb : 1 < base) :
    Calls Tryd.prog 94 #[.pointer (some ⟨sb, 0, none⟩), .slice A n c] w fun e w' => e = .returned (.tuple #[.int .i64 0, errV ea]) ∧ SrcAt w' sb base [] false (ak ++ [n]) ∧ Fr (srcS w base) w w' := by
  obtain ⟨A0, c0, v0, hC⟩ := h
  have k0 := hC.c0; have k1 := hC.c1; have k2 := hC.c2; have f2 := hC.f 2
  have hlt := hC.lt
  simp only [List.length_nil] at k0
  have H := Lib.hid hC
  have HN : w.heap.size ≠ sb := by omega
  clear hC
  go_enter Tryd.func94, Tryd.ntmps94
  go_wp2_with (refine wpList_app rfl elem_int (.tmp 11) (.tmp 14) rfl base _ ak.length _ (by rfl) (H.out.own.fr ((Fr.refl (fun _ => False) w).alloc _) (fun _ _ q => q)) w.heap.size [intV n] 3 (by rfl) (by exact heap_alloc_new w _) rfl (by simp [intV, Value.oneCell']) (by omega) (by simp; omega) ?_)
  intro gb cap w1 hown hfr hat hlt1
  have hC1 := H.out.fr ((Fr.refl (fun _ => False) w).alloc (.cells #[intV n] 3)) (fun _ q => q.elim)
  have hst1 := hC1.st_own hfr
  have k2' : w1.cell? ⟨sb, 2, none⟩ = some v0 := by rw [cell_of_row w1 sb 2 _ _ _ hst1]; rfl
  have f2' : w1.frozen? ⟨sb, 2, none⟩ = false := by simp [World.frozen?, hst1]
  have hC2 := hC1.put2 (ak' := ak ++ [n]) hfr (by simpa [ints'] using hown)
  have HC2 := Lib.hid hC2
  have HO := H.out.own
  have hF2 : Fr (srcS w base) w (w1.setCell ⟨sb, 2, none⟩ (.slice (some ⟨gb, 0, none⟩) (ak.length + 1) cap)) := by
    refine Fr.setCell (((Fr.refl _ w).alloc _).trans' hfr ?_) (fun _ => ⟨H.out.bb, Typed.ne ⟨_, _, H.out.st⟩ (by decide)⟩) _
    intro i hi q
    exact ⟨HO.blk_ge q, fun ⟨cs, fz, k⟩ => HO.ne_blk k (by decide) q rfl⟩
  have hE2 : (w1.setCell ⟨sb, 2, none⟩ (.slice (some ⟨gb, 0, none⟩) (ak.length + 1) cap)).cell? ⟨1, 0, none⟩ = some (errV ea) := (hF2.cell (World.block_lt_of_cell? _ _ he) (fun q => by have := q.1; simp at this; omega)).trans he
  have q0 := hC2.c0
  have q1 := hC2.c1
  have HF2 := Lib.hid hF2
  simp only [List.length_nil] at q0
  clear hC1 hst1 hC2 hF2 HO hown hfr hat k0 k1 k2 f2 he
  generalize hw2 : w1.setCell ⟨sb, 2, none⟩ (.slice (some ⟨gb, 0, none⟩) (ak.length + 1) cap) = w2 at *
  go_wp2_with fail
  go_quiet (fail)
  go_wp2_with fail
  go_ret2
  exact ⟨rfl, ⟨_, _, _, HC2.out.fr ((Fr.refl (fun _ => False) w2).drewN _) (fun _ q => q.elim)⟩, HF2.out.drewN _⟩
set_option maxHeartbeats 1600000 in
set_option maxRecDepth 100000 in
/-- There is nothing to read: another error. -/
theorem source_fail (sb base : Nat) (ak : List Nat) (A : Option Addr) (n c : Nat) (ea : Addr) (w : World) (h : SrcAt w sb base [] true ak) (he : w.cell? ⟨8, 0, none⟩ = some (errV ea)) (hak : ak.length ≤ 4294967296) (hb : base ≤ w.heap.size) (_hn : n ≤ 9223372036854775807)
    (hsb : 8 < base) :
    Calls Tryd.prog 94 #[.pointer (some ⟨sb, 0, none⟩), .slice A n c] w fun e w' => e = .returned (.tuple #[.int .i64 0, errV ea]) ∧ SrcAt w' sb base [] true (ak ++ [n]) ∧ Fr (srcS w base) w w' := by
  obtain ⟨A0, c0, v0, hC⟩ := h
  have k0 := hC.c0; have k1 := hC.c1; have k2 := hC.c2; have f2 := hC.f 2
  have hlt := hC.lt
  simp only [List.length_nil] at k0
  have H := Lib.hid hC
  have HN : w.heap.size ≠ sb := by omega
  clear hC
  go_enter Tryd.func94, Tryd.ntmps94
  go_wp2_with (refine wpList_app rfl elem_int (.tmp 11) (.tmp 14) rfl base _ ak.length _ (by rfl) (H.out.own.fr ((Fr.refl (fun _ => False) w).alloc _) (fun _ _ q => q)) w.heap.size [intV n] 3 (by rfl) (by exact heap_alloc_new w _) rfl (by simp [intV, Value.oneCell']) (by omega) (by simp; omega) ?_)
  intro gb cap w1 hown hfr hat hlt1
  have hC1 := H.out.fr ((Fr.refl (fun _ => False) w).alloc (.cells #[intV n] 3)) (fun _ q => q.elim)
  have hst1 := hC1.st_own hfr
  have k2' : w1.cell? ⟨sb, 2, none⟩ = some v0 := by rw [cell_of_row w1 sb 2 _ _ _ hst1]; rfl
  have f2' : w1.frozen? ⟨sb, 2, none⟩ = false := by simp [World.frozen?, hst1]
  have hC2 := hC1.put2 (ak' := ak ++ [n]) hfr (by simpa [ints'] using hown)
  have HC2 := Lib.hid hC2
  have HO := H.out.own
  have hF2 : Fr (srcS w base) w (w1.setCell ⟨sb, 2, none⟩ (.slice (some ⟨gb, 0, none⟩) (ak.length + 1) cap)) := by
    refine Fr.setCell (((Fr.refl _ w).alloc _).trans' hfr ?_) (fun _ => ⟨H.out.bb, Typed.ne ⟨_, _, H.out.st⟩ (by decide)⟩) _
    intro i hi q
    exact ⟨HO.blk_ge q, fun ⟨cs, fz, k⟩ => HO.ne_blk k (by decide) q rfl⟩
  have hE2 : (w1.setCell ⟨sb, 2, none⟩ (.slice (some ⟨gb, 0, none⟩) (ak.length + 1) cap)).cell? ⟨8, 0, none⟩ = some (errV ea) := (hF2.cell (World.block_lt_of_cell? _ _ he) (fun q => by have := q.1; simp at this; omega)).trans he
  have q0 := hC2.c0
  have q1 := hC2.c1
  have HF2 := Lib.hid hF2
  simp only [List.length_nil] at q0
  clear hC1 hst1 hC2 hF2 HO hown hfr hat k0 k1 k2 f2 he
  generalize hw2 : w1.setCell ⟨sb, 2, none⟩ (.slice (some ⟨gb, 0, none⟩) (ak.length + 1) cap) = w2 at *
  go_wp2_with fail
  go_quiet (fail)
  go_wp2_with fail
  go_ret2
  exact ⟨rfl, ⟨_, _, _, HC2.out.fr ((Fr.refl (fun _ => False) w2).drewN _) (fun _ q => q.elim)⟩, HF2.out.drewN _⟩
end Go.Proofs.YtmifjolehieccaaDoor
