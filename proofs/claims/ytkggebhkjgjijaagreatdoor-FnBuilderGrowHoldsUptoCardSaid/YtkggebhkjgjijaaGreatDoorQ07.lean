/- SourceB. -/
import Derived.Test.YtkggebhkjgjijaaGreatDoorQ06
import Derived.WalkLawsBesides
namespace Go.Proofs.YtkggebhkjgjijaaGreatDoor
open Go Go.RowKit

/-- The first pieces of a text, and what is left. -/
def cutAll : List UInt8 → List Nat → List (List UInt8) × List UInt8
  | s, [] => ([], s)
  | s, c :: cs => (s.take c :: (cutAll (s.drop c) cs).1, (cutAll (s.drop c) cs).2)
def piecesF (s : List UInt8) (cuts : List Nat) : List (List UInt8) := (cutAll s cuts).1 ++ if (cutAll s cuts).2 = [] then [] else [(cutAll s cuts).2]
theorem cutAll_snoc (c : Nat) : ∀ (ks : List Nat) (s : List UInt8), cutAll s (ks ++ [c]) = ((cutAll s ks).1 ++ [(cutAll s ks).2.take c], (cutAll s ks).2.drop c)
  | [], s => rfl
  | k :: ks, s => by simp [cutAll, cutAll_snoc c ks]
theorem cutAll_flat : ∀ (ks : List Nat) (s : List UInt8), (cutAll s ks).1.flatten ++ (cutAll s ks).2 = s
  | [], s => rfl
  | k :: ks, s => by simp [cutAll, List.append_assoc, cutAll_flat ks, List.take_append_drop]
theorem piecesF_flat (s : List UInt8) (ks : List Nat) : (piecesF s ks).flatten = s := by
  have := cutAll_flat ks s
  unfold piecesF
  by_cases h : (cutAll s ks).2 = []
  · rw [h] at this; simp [h] at this ⊢; exact this
  · simp [h]; exact this
theorem cutAll_len : ∀ (ks : List Nat) (s : List UInt8), (cutAll s ks).1.length = ks.length
  | [], s => rfl
  | k :: ks, s => by simp [cutAll, cutAll_len ks]
theorem cutAll_rest_le : ∀ (ks : List Nat) (s : List UInt8), (cutAll s ks).2.length ≤ s.length
  | [], s => Nat.le_refl _
  | k :: ks, s => by
    have := cutAll_rest_le ks (s.drop k)
    simp only [cutAll]
    simp at this
    omega

theorem ext_take (l : List UInt8) (m : Nat) : ByteArray.extract ⟨l.toArray⟩ 0 m = ⟨(l.take m).toArray⟩ := by
  apply ByteArray.ext
  simp [ByteArray.data_extract]
theorem ext_drop (l : List UInt8) (m : Nat) : ByteArray.extract ⟨l.toArray⟩ m l.length = ⟨(l.drop m).toArray⟩ := by
  apply ByteArray.ext
  simp [ByteArray.data_extract]
  exact List.take_of_length_le (by simp)

def strV (s : List UInt8) : Value := .string ⟨s.toArray⟩
def strs (l : List (List UInt8)) : List Value := l.map strV
@[simp] theorem strs_length (l : List (List UInt8)) : (strs l).length = l.length := by simp [strs]
/-- A slice of uint16 that reads as ks. -/
structure U16s (w : World) (A : Option Addr) (ks : List Nat) : Prop where
  few : ∀ x ∈ ks, x ≤ 65535
  cell : 0 < ks.length → ∃ r o, A = some ⟨r, o, none⟩ ∧ ∀ j (h : j < ks.length), w.cell? ⟨r, o + j, none⟩ = some (.int .u16 (ks[j] : Int))
theorem U16s.fr {S : Nat → Prop} {w w' : World} {A : Option Addr} {ks : List Nat} (h : U16s w A ks) (hf : Fr S w w') (hn : ∀ r o, A = some ⟨r, o, none⟩ → ¬ S r) : U16s w' A ks := by
  refine ⟨h.few, fun q => ?_⟩
  obtain ⟨r, o, rfl, hc⟩ := h.cell q
  exact ⟨r, o, rfl, fun j hj => (hf.cell (World.block_lt_of_cell? _ _ (hc j hj)) (hn r o rfl)).trans (hc j hj)⟩

theorem elem_string : ElemOk Tryz.prog 40 9 1 16 := by
  obtain ⟨i0, hi, hz0, hz1, hz2⟩ := info_parts (show (Tryz.prog.info? 9).map (fun i => (i.zero, i.size, i.bytes)) = some (some (.string ⟨#[]⟩), 1, 16) by kernel_rfl)
  exact ⟨Tryz.underlying40, ⟨i0, _, hi, hz0, hz1, hz2, rfl⟩, by decide, by decide⟩

def PiecesPost (w : World) (ps : List (List UInt8)) (e : Ending) (w' : World) : Prop :=
  ∃ v, e = .returned v ∧ Own 9 1 w' w.heap.size v ps.length (strs ps) ∧ Fr (fun _ => False) w w'

/-- What holds at the head of a round. -/
structure PiecesInv (w : World) (s : List UInt8) (cuts : List Nat) (k : Nat) (v : Value) (wr : World) : Prop where
  own : Own 9 1 wr w.heap.size v k (strs (cutAll s (cuts.take k)).1)
  fr : Fr (fun _ => False) w wr

set_option maxHeartbeats 1600000 in
set_option maxRecDepth 100000 in
theorem pieces_any (s : List UInt8) (cuts : List Nat) (A : Option Addr) (c : Nat) (w : World) (hA : U16s w A cuts) (_hs : s.length ≤ 1099511627776) (hc : cuts.length ≤ 4294967296) :
    Calls Tryz.prog 62 #[.string ⟨s.toArray⟩, .slice A cuts.length c] w (PiecesPost w (piecesF s cuts)) := by
  have HA := Lib.hid hA
  clear hA
  go_enter Tryz.func62, Tryz.ntmps62
  go_wp2_with fail
  go_loopw [0, 5, 11] (fun sv v i wr => ∃ k : Nat, k ≤ cuts.length ∧ i = .int .i64 (k : Int) ∧ sv = .string ⟨(cutAll s (cuts.take k)).2.toArray⟩ ∧ PiecesInv w s cuts k v wr) (fun _ _ i _ => cuts.length - (intOf i).toNat)
  case atStart => exact ⟨0, Nat.zero_le _, rfl, rfl, ⟨Own.nil _ _ _ _, Fr.refl _ _⟩⟩
  case round =>
    obtain ⟨k, hk, rfl, rfl, hI⟩ := hrel
    by_cases hlt : k < cuts.length
    · obtain ⟨r, o, rfl, hcell⟩ := HA.out.cell (by omega)
      have hc1 : wr.cell? ⟨r, o + k, none⟩ = some (.int .u16 (cuts[k] : Int)) := (hI.fr.cell (World.block_lt_of_cell? _ _ (hcell k hlt)) (fun q => q)).trans (hcell k hlt)
      have hfew := HA.out.few cuts[k] (List.getElem_mem _)
      have hrl := cutAll_rest_le (cuts.take k) s
      generalize hrest : (cutAll s (cuts.take k)).2 = rest at *
      generalize hcut : cuts[k] = ck at *
      have HR := Lib.hid hrest
      have HCK := Lib.hid hcut
      clear hrest hcut hcell
      obtain ⟨m, hm⟩ : ∃ m, m = min ck rest.length := ⟨_, rfl⟩
      have hmin : min (ck : Int) (rest.length : Int) = (m : Int) := by omega
      have hml : m ≤ rest.length := by omega
      have hmi : (m : Int) ≤ (rest.length : Int) := by omega
      have hm0 : (0 : Int) ≤ (m : Int) := by omega
      have HM := Lib.hid hm
      have hx1 := ext_take rest m
      have hx2 := ext_drop rest m
      clear hm
      go_wp2_with fail
      go_region_held3 (fun _ => True) (trivial) ((refine step_app rfl elem_string (.tmp 20) (.tmp 24) rfl w.heap.size _ k _ (by rfl) (hI.own.fr (((Fr.refl (fun _ => False) wr).alloc _).drew) (fun _ _ q => q)) wr.heap.size [strV (rest.take m)] 9 (by rfl) (by exact heap_alloc_new wr _) rfl (by simp [strV, Value.oneCell']) (by omega) (by have := hI.fr.size; simp; omega) ?_; intro gb cap w1 hown hfr hat hlt1))
      have R : PiecesInv w s cuts (k + 1) (.slice (some ⟨gb, 0, none⟩) (k + 1) cap) w1 ∧ (cutAll s (cuts.take (k + 1))).2 = rest.drop m := by
        have e := cutAll_snoc cuts[k] (cuts.take k) s
        rw [← List.take_succ_eq_append_getElem hlt, HR.out, HCK.out] at e
        have e1 : rest.take ck = rest.take m := by rw [HM.out, ← List.take_eq_take_min]
        have e2 : rest.drop ck = rest.drop m := by rw [HM.out]; rcases Nat.le_total ck rest.length with h | h; rw [Nat.min_eq_left h]; rw [Nat.min_eq_right h, List.drop_of_length_le h, List.drop_length]
        rw [e, e1, e2]
        refine ⟨⟨?_, (hI.fr.alloc _).drew.trans' hfr ?_⟩, rfl⟩
        · rw [e, e1]
          simpa [strs] using hown
        · intro i hi q
          have := hI.own.blk_ge q
          omega
      obtain ⟨R1, R2⟩ := R
      have HR1 := Lib.hid R1
      have HR2 := Lib.hid R2
      clear R1 R2 hown hfr hat hI
      go_wp2_with fail
      go_roundw
      case rel => exact ⟨k + 1, by omega, by go_num, by rw [HR2.out], HR1.out⟩
      case measure => simp [intOf]; omega
    · have hkk : cuts.take k = cuts := List.take_of_length_le (by omega)
      have hq : piecesF s cuts = (cutAll s (cuts.take k)).1 ++ if (cutAll s (cuts.take k)).2 = [] then [] else [(cutAll s (cuts.take k)).2] := by rw [hkk]; rfl
      have hql : (cutAll s (cuts.take k)).1.length = k := by rw [cutAll_len]; simp; omega
      have hIo := hI.own
      have hIf := hI.fr
      obtain ⟨A5, cap5, rfl⟩ := hIo.value
      generalize cutAll s (cuts.take k) = q at *
      obtain ⟨q1, q2⟩ := q
      have HO := Lib.hid hIo
      have HQ := Lib.hid hq
      have HL := Lib.hid hql
      clear hIo hI hq hql hkk
      by_cases hr : q2 = []
      · subst hr
        go_wp2_with fail
        go_ret
        refine ⟨_, rfl, ?_, hIf⟩
        rw [HQ.out]
        simpa [HL.out] using HO.out
      · have hb1 : (!q2.isEmpty) = true := by simp [hr]
        have hb2 : q2.isEmpty = false := by simp [hr]
        have HRR := Lib.hid hr
        clear hr
        go_wp2_with (refine wpList_app rfl elem_string (.tmp 32) (.tmp 34) rfl w.heap.size _ k _ (by rfl) (HO.out.fr ((Fr.refl (fun _ => False) wr).alloc _) (fun _ _ q => q)) wr.heap.size [strV q2] 9 (by rfl) (by exact heap_alloc_new wr _) rfl (by simp [strV, Value.oneCell']) (by omega) (by have := hIf.size; simp; omega) ?_)
        intro gb cap w1 hown hfr hat hlt1
        have HO1 := Lib.hid hown
        have HF1 := Lib.hid ((hIf.alloc _).trans' hfr (fun i hi q => by have := HO.out.blk_ge q; omega))
        clear hown hfr hat
        go_wp2_with fail
        go_ret
        refine ⟨_, rfl, ?_, HF1.out⟩
        rw [HQ.out, if_neg HRR.out]
        simpa [HL.out, strs] using HO1.out
end Go.Proofs.YtkggebhkjgjijaaGreatDoor

namespace Go.Proofs.YtkggebhkjgjijaaGreatDoor
open Go Go.RowKit

theorem elem_int : ElemOk Tryz.prog 116 3 1 8 := by
  obtain ⟨i0, hi, hz0, hz1, hz2⟩ := info_parts (show (Tryz.prog.info? 3).map (fun i => (i.zero, i.size, i.bytes)) = some (some (.int .i64 0), 1, 8) by kernel_rfl)
  exact ⟨Tryz.underlying116, ⟨i0, _, hi, hz0, hz1, hz2, rfl⟩, by decide, by decide⟩
def intV (n : Nat) : Value := .int .i64 (n : Int)
def ints' (l : List Nat) : List Value := l.map intV

/-- The strings ps lie in a row from its place o on. -/
def StrRow (w : World) (base : Nat) (A : Option Addr) (ps : List (List UInt8)) : Prop :=
  ps ≠ [] → ∃ r o cur, A = some ⟨r, o, none⟩ ∧ base ≤ r ∧ w.heap[r]? = some (.cells cur 9 (0, 0)) ∧ ∀ (j : Nat) p, ps[j]? = some p → cur[o + j]? = some (strV p)
/-- A reader of pieces: its struct's three cells, what they hold. -/
structure SrcC (w : World) (sb base : Nat) (A : Option Addr) (c : Nat) (v : Value) (ps : List (List UInt8)) (fl : Bool) (ak : List Nat) : Prop where
  bb : base ≤ sb
  st : w.heap[sb]? = some (.cells #[.slice A ps.length c, .bool fl, v] 118 (0, 0))
  row : StrRow w base A ps
  len : ps.length ≤ c
  own : Own 3 1 w base v ak.length (ints' ak)
def SrcAt (w : World) (sb base : Nat) (ps : List (List UInt8)) (fl : Bool) (ak : List Nat) : Prop := ∃ A c v, SrcC w sb base A c v ps fl ak

/-- A block of elements T. -/
def Typed (w : World) (x : Nat) (T : TypeId) : Prop := ∃ cs fz, w.heap[x]? = some (.cells cs T fz)
/-- What a reader may write: blocks that are young and no rows of bytes. -/
def srcS (w : World) (base : Nat) (x : Nat) : Prop := base ≤ x ∧ ¬ Typed w x 5
theorem Typed.ne {w : World} {x : Nat} {T T' : TypeId} (h : Typed w x T) (hne : T ≠ T') : ¬ Typed w x T' := by
  rintro ⟨cs', fz', k⟩
  obtain ⟨cs, fz, h⟩ := h
  rw [h] at k
  injection k with k
  injection k with _ k
  exact hne k

section
variable {w w' : World} {sb base : Nat} {A : Option Addr} {c : Nat} {v : Value} {ps : List (List UInt8)} {fl : Bool} {ak : List Nat}
theorem SrcC.lt (h : SrcC w sb base A c v ps fl ak) : sb < w.heap.size := lt_of_blk h.st
theorem SrcC.c0 (h : SrcC w sb base A c v ps fl ak) : w.cell? ⟨sb, 0, none⟩ = some (.slice A ps.length c) := by rw [cell_of_row w sb 0 _ _ _ h.st]; rfl
theorem SrcC.c1 (h : SrcC w sb base A c v ps fl ak) : w.cell? ⟨sb, 1, none⟩ = some (.bool fl) := by rw [cell_of_row w sb 1 _ _ _ h.st]; rfl
theorem SrcC.c2 (h : SrcC w sb base A c v ps fl ak) : w.cell? ⟨sb, 2, none⟩ = some v := by rw [cell_of_row w sb 2 _ _ _ h.st]; rfl
theorem SrcC.f (h : SrcC w sb base A c v ps fl ak) (i : Nat) : w.frozen? ⟨sb, i, none⟩ = false := by simp [World.frozen?, h.st]
theorem StrRow.fr {S : Nat → Prop} (h : StrRow w base A ps) (hf : Fr S w w') (hn : ∀ x, S x → ¬ Typed w x 9 ∨ ¬ base ≤ x) : StrRow w' base A ps := by
  intro q
  obtain ⟨r, o, cur, rfl, h1, h2, h3⟩ := h q
  refine ⟨r, o, cur, rfl, h1, hf.blk h2 (fun k => ?_), h3⟩
  rcases hn r k with k | k
  · exact k ⟨_, _, h2⟩
  · exact k h1
theorem SrcC.fr {S : Nat → Prop} (h : SrcC w sb base A c v ps fl ak) (hf : Fr S w w') (hn : ∀ x, S x → base ≤ x → Typed w x 5) : SrcC w' sb base A c v ps fl ak := by
  refine ⟨h.bb, hf.blk h.st (fun k => ?_), h.row.fr hf (fun x k => ?_), h.len, h.own.fr hf (fun g hg k => ?_)⟩
  · exact (Typed.ne ⟨_, _, h.st⟩ (by decide)) (hn _ k h.bb)
  · rcases Nat.lt_or_ge x base with q | q
    · exact .inr (by omega)
    · exact .inl ((hn x k q).ne (by decide))
  · obtain ⟨cs, fz, k2⟩ := hn g k (h.own.blk_ge hg)
    exact h.own.ne_blk k2 (by decide) hg rfl
theorem SrcC.st_own (h : SrcC w sb base A c v ps fl ak) (hf : Fr (fun x => v.ownBlock = some x) w w') : w'.heap[sb]? = some (.cells #[.slice A ps.length c, .bool fl, v] 118 (0, 0)) :=
  hf.blk h.st (fun k => h.own.ne_blk h.st (by decide) k rfl)
/-- The numbers' slice laid anew. -/
theorem SrcC.put2 {v' : Value} {ak' : List Nat} (h : SrcC w sb base A c v ps fl ak) (hf : Fr (fun x => v.ownBlock = some x) w w') (hown : Own 3 1 w' base v' ak'.length (ints' ak')) :
    SrcC (w'.setCell ⟨sb, 2, none⟩ v') sb base A c v' ps fl ak' := by
  have hne : ∀ g, v.ownBlock = some g → g ≠ sb := fun g hg => h.own.ne_blk h.st (by decide) hg
  have hst : w'.heap[sb]? = _ := hf.blk h.st (fun k => hne sb k rfl)
  refine ⟨h.bb, ?_, ?_, h.len, ?_⟩
  · simp [World.setCell, Array.getElem?_modify, hst]
  · have h1 : StrRow w' base A ps := h.row.fr hf (fun x k => .inl fun ⟨cs, fz, q⟩ => h.own.ne_blk q (by decide) k rfl)
    exact h1.fr ((Fr.refl (Just sb) w').setCell (fun _ => just_self sb) _) (fun x k => .inl (by rw [k]; exact Typed.ne ⟨_, _, hst⟩ (by decide)))
  · exact hown.fr ((Fr.refl (Just sb) w').setCell (fun _ => just_self sb) _) (fun g hg k => by
      have := hown.ne_blk hst (by decide) hg
      exact this k)
end

/-- An error of errors.New's make. -/
abbrev errV (a : Addr) : Value := .iface 145 (.pointer (some a))

set_option maxHeartbeats 1600000 in
set_option maxRecDepth 100000 in
/-- There is nothing to read: io.EOF. -/
theorem source_end (sb base : Nat) (ak : List Nat) (A : Option Addr) (n c : Nat) (ea : Addr) (w : World) (h : SrcAt w sb base [] false ak) (he : w.cell? ⟨0, 0, none⟩ = some (errV ea)) (hak : ak.length ≤ 4294967296) (hb : base ≤ w.heap.size) (_hn : n ≤ 9223372036854775807)
    (hsb : 0 < base) :
    Calls Tryz.prog 110 #[.pointer (some ⟨sb, 0, none⟩), .slice A n c] w fun e w' => e = .returned (.tuple #[.int .i64 0, errV ea]) ∧ SrcAt w' sb base [] false (ak ++ [n]) ∧ Fr (srcS w base) w w' := by
  obtain ⟨A0, c0, v0, hC⟩ := h
  have k0 := hC.c0; have k1 := hC.c1; have k2 := hC.c2; have f2 := hC.f 2
  have hlt := hC.lt
  simp only [List.length_nil] at k0
  have H := Lib.hid hC
  have HN : w.heap.size ≠ sb := by omega
  clear hC
  go_enter Tryz.func110, Tryz.ntmps110
  go_wp2_with (refine wpList_app rfl elem_int (.tmp 11) (.tmp 14) rfl base _ ak.length _ (by rfl) (H.out.own.fr ((Fr.refl (fun _ => False) w).alloc _) (fun _ _ q => q)) w.heap.size [intV n] 3 (by rfl) (by exact heap_alloc_new w _) rfl (by simp [intV, Value.oneCell']) (by omega) (by simp; omega) ?_)
  intro gb cap w1 hown hfr hat hlt1
  have hC1 := H.out.fr ((Fr.refl (fun _ => False) w).alloc (.cells #[intV n] 3)) (fun _ q => q.elim)
  have hst1 := hC1.st_own hfr
  have k2' : w1.cell? ⟨sb, 2, none⟩ = some v0 := by rw [cell_of_row w1 sb 2 _ _ _ hst1]; rfl
  have f2' : w1.frozen? ⟨sb, 2, none⟩ = false := by simp [World.frozen?, hst1]
  have hC2 := hC1.put2 (ak' := ak ++ [n]) hfr (by simpa [ints'] using hown)
  have HC2 := Lib.hid hC2
  have HO := H.out.own
  have hF2 : Fr (srcS w base) w (w1.setCell ⟨sb, 2, none⟩ (.slice (some ⟨gb, 0, none⟩) (ak.length + 1) cap)) := by
    refine Fr.setCell (((Fr.refl _ w).alloc _).trans' hfr ?_) (fun _ => ⟨H.out.bb, Typed.ne ⟨_, _, H.out.st⟩ (by decide)⟩) _
    intro i hi q
    exact ⟨HO.blk_ge q, fun ⟨cs, fz, k⟩ => HO.ne_blk k (by decide) q rfl⟩
  have hE2 : (w1.setCell ⟨sb, 2, none⟩ (.slice (some ⟨gb, 0, none⟩) (ak.length + 1) cap)).cell? ⟨0, 0, none⟩ = some (errV ea) := (hF2.cell (World.block_lt_of_cell? _ _ he) (fun q => by have := q.1; simp at this; omega)).trans he
  have q0 := hC2.c0
  have q1 := hC2.c1
  have HF2 := Lib.hid hF2
  simp only [List.length_nil] at q0
  clear hC1 hst1 hC2 hF2 HO hown hfr hat k0 k1 k2 f2 he
  generalize hw2 : w1.setCell ⟨sb, 2, none⟩ (.slice (some ⟨gb, 0, none⟩) (ak.length + 1) cap) = w2 at *
  go_wp2_with fail
  go_quiet (fail)
  go_wp2_with fail
  go_ret2
  exact ⟨rfl, ⟨_, _, _, HC2.out.fr ((Fr.refl (fun _ => False) w2).drewN _) (fun _ q => q.elim)⟩, HF2.out.drewN _⟩
end Go.Proofs.YtkggebhkjgjijaaGreatDoor

namespace Go.Proofs.YtkggebhkjgjijaaGreatDoor
open Go Go.RowKit

section
variable {w w' : World} {sb base : Nat} {A : Option Addr} {c : Nat} {v : Value} {p q : List UInt8} {rest : List (List UInt8)} {fl : Bool} {ak : List Nat}
theorem SrcC.drew {ps : List (List UInt8)} (h : SrcC w sb base A c v ps fl ak) : SrcC w.drew sb base A c v ps fl ak := h.fr ((Fr.refl (fun _ => False) w).drew) (fun _ (q : False) => q.elim)
/-- Where the first piece lies. -/
theorem SrcC.first (h : SrcC w sb base A c v (p :: rest) fl ak) : ∃ r o, A = some ⟨r, o, none⟩ ∧ base ≤ r ∧ w.cell? ⟨r, o, none⟩ = some (strV p) ∧ w.frozen? ⟨r, o, none⟩ = false ∧ Typed w r 9 := by
  obtain ⟨r, o, cur, rfl, h1, h2, h3⟩ := h.row (by simp)
  refine ⟨r, o, rfl, h1, ?_, by simp [World.frozen?, h2], ⟨_, _, h2⟩⟩
  have := h3 0 p rfl
  rw [cell_of_row w r o _ _ _ h2]
  simpa using this
theorem SrcC.putStr {r o : Nat} (h : SrcC w sb base (some ⟨r, o, none⟩) c v (p :: rest) fl ak) : SrcC (w.setCell ⟨r, o, none⟩ (strV q)) sb base (some ⟨r, o, none⟩) c v (q :: rest) fl ak := by
  obtain ⟨r', o', cur, e, h1, h2, h3⟩ := h.row (by simp)
  injection e with e
  injection e with e1 e2 e3
  subst e1 e2
  have hne : sb ≠ r := by
    rintro rfl
    have := h.st
    rw [h2] at this
    injection this with this
    injection this with _ this
    exact absurd this (by decide)
  have hfr : Fr (Just r) w (w.setCell ⟨r, o, none⟩ (strV q)) := (Fr.refl _ w).setCell (fun _ => just_self r) _
  refine ⟨h.bb, hfr.blk h.st (fun k => hne k), fun _ => ⟨r, o, cur.setIfInBounds o (strV q), rfl, h1, ?_, ?_⟩, h.len, h.own.fr hfr (fun g hg k => h.own.ne_blk h2 (by decide) hg k)⟩
  · simp [World.setCell, Array.getElem?_modify, h2]
  · intro j x hx
    cases j with
    | zero =>
      simp only [List.getElem?_cons_zero, Option.some.injEq] at hx
      subst hx
      have := h3 0 p rfl
      have hlt : o < cur.size := (Array.getElem?_eq_some_iff.1 this).1
      simp [hlt]
    | succ j =>
      have := h3 (j + 1) x (by simpa using hx)
      rw [Array.getElem?_setIfInBounds_ne (by omega)]
      exact this
theorem SrcC.tail {r o : Nat} {A' : Option Addr} (h : SrcC w sb base (some ⟨r, o, none⟩) c v (p :: rest) fl ak) (hA : ¬ c = 1 → A' = some ⟨r, o + 1, none⟩) : SrcC (w.setCell ⟨sb, 0, none⟩ (.slice A' rest.length (c - 1))) sb base A' (c - 1) v rest fl ak := by
  have hfr : Fr (Just sb) w (w.setCell ⟨sb, 0, none⟩ (.slice A' rest.length (c - 1))) := (Fr.refl _ w).setCell (fun _ => just_self sb) _
  have hlen := h.len
  simp only [List.length_cons] at hlen
  refine ⟨h.bb, ?_, fun hne => ?_, by omega, h.own.fr hfr (fun g hg k => h.own.ne_blk h.st (by decide) hg k)⟩
  · have := h.st
    simp [World.setCell, Array.getElem?_modify, this]
  · obtain ⟨r', o', cur, e, h1, h2, h3⟩ := h.row (by simp)
    injection e with e
    injection e with e1 e2 e3
    subst e1 e2
    have : 0 < rest.length := List.length_pos_iff.2 hne
    refine ⟨r, o + 1, cur, hA (by omega), h1, hfr.blk h2 (fun k => ?_), fun j x hx => ?_⟩
    · have k : r = sb := k
      subst k
      have := h.st
      rw [h2] at this
      injection this with this
      injection this with _ this
      exact absurd this (by decide)
    · have := h3 (j + 1) x (by simpa using hx)
      rwa [show o + 1 + j = o + (j + 1) by omega]
end

/-- What is left of the pieces behind a read into n bytes. -/
def psNext (p : List UInt8) (rest : List (List UInt8)) (n : Nat) : List (List UInt8) := if p.length ≤ n then rest else p.drop n :: rest
def SourcePost (w : World) (sb base : Nat) (p : List UInt8) (rest : List (List UInt8)) (fl : Bool) (ak : List Nat) (r off n : Nat) (all : List UInt8) (e : Ending) (w' : World) : Prop :=
  e = .returned (.tuple #[.int .i64 ((min p.length n : Nat) : Int), .nilIface]) ∧ SrcAt w' sb base (psNext p rest n) fl (ak ++ [n]) ∧ Row 5 w' r (splice all off (p.take n)) ∧ Fr (fun x => x = r ∨ srcS w base x) w w'

set_option maxHeartbeats 1600000 in
set_option maxRecDepth 100000 in
theorem source_some (sb base : Nat) (p : List UInt8) (rest : List (List UInt8)) (fl : Bool) (ak : List Nat) (r off n c : Nat) (all : List UInt8) (w : World) (h : SrcAt w sb base (p :: rest) fl ak) (hrow : Row 5 w r all) (hfit : off + n ≤ all.length)
    (hak : ak.length ≤ 4294967296) (hb : base ≤ w.heap.size) (_hn : n ≤ 9223372036854775807) (_hp : p.length ≤ 1099511627776) (hrl : rest.length ≤ 4294967296) :
    Calls Tryz.prog 110 #[.pointer (some ⟨sb, 0, none⟩), .slice (some ⟨r, off, none⟩) n c] w (SourcePost w sb base p rest fl ak r off n all) := by
  obtain ⟨A0, c0, v0, hC⟩ := h
  have k0 := hC.c0; have k1 := hC.c1; have k2 := hC.c2; have f2 := hC.f 2
  have hlt := hC.lt
  simp only [List.length_cons] at k0
  have H := Lib.hid hC
  have HR := Lib.hid hrow
  have HN : w.heap.size ≠ sb := by omega
  have hclen := hC.len
  simp only [List.length_cons] at hclen
  clear hC hrow
  go_enter Tryz.func110, Tryz.ntmps110
  go_wp2_with (refine wpList_app rfl elem_int (.tmp 11) (.tmp 14) rfl base _ ak.length _ (by rfl) (H.out.own.fr ((Fr.refl (fun _ => False) w).alloc _) (fun _ _ q => q)) w.heap.size [intV n] 3 (by rfl) (by exact heap_alloc_new w _) rfl (by simp [intV, Value.oneCell']) (by omega) (by simp; omega) ?_)
  intro gb cap w1 hown hfr hat hlt1
  have hC1 := H.out.fr ((Fr.refl (fun _ => False) w).alloc (.cells #[intV n] 3)) (fun _ q => q.elim)
  have hst1 := hC1.st_own hfr
  have k2' : w1.cell? ⟨sb, 2, none⟩ = some v0 := by rw [cell_of_row w1 sb 2 _ _ _ hst1]; rfl
  have f2' : w1.frozen? ⟨sb, 2, none⟩ = false := by simp [World.frozen?, hst1]
  have hC2 := hC1.put2 (ak' := ak ++ [n]) hfr (by simpa [ints'] using hown)
  have HO := H.out.own
  have hF2 : Fr (srcS w base) w (w1.setCell ⟨sb, 2, none⟩ (.slice (some ⟨gb, 0, none⟩) (ak.length + 1) cap)) := by
    refine Fr.setCell (((Fr.refl _ w).alloc _).trans' hfr ?_) (fun _ => ⟨H.out.bb, Typed.ne ⟨_, _, H.out.st⟩ (by decide)⟩) _
    intro i hi q
    exact ⟨HO.blk_ge q, fun ⟨cs, fz, k⟩ => HO.ne_blk k (by decide) q rfl⟩
  have hR2 : Row 5 (w1.setCell ⟨sb, 2, none⟩ (.slice (some ⟨gb, 0, none⟩) (ak.length + 1) cap)) r all := HR.out.fr hF2 (fun q => q.2 (by obtain ⟨fz, h1, _⟩ := HR.out; exact ⟨_, _, h1⟩))
  generalize hw2 : w1.setCell ⟨sb, 2, none⟩ (.slice (some ⟨gb, 0, none⟩) (ak.length + 1) cap) = w2 at *
  obtain ⟨r0, o0, rfl, hr0, hcell0, hfro0, hty0⟩ := hC2.first
  have q0 := hC2.c0
  have HC2 := Lib.hid hC2
  have HF2 := Lib.hid hF2
  have HR2 := Lib.hid hR2
  simp only [List.length_cons] at q0
  unfold strV at hcell0
  clear hC1 hst1 hC2 hF2 HO hown hfr hat k0 k1 k2 f2 hR2 hty0 hfro0
  obtain ⟨m, hm⟩ : ∃ m, Nat.min p.length n = m := ⟨_, rfl⟩
  have hm' : min p.length n = m := hm
  have hmp : m ≤ p.length := by omega
  have hmn : m ≤ n := by omega
  have hmi : (m : Int) ≤ (p.length : Int) := by omega
  have hm0 : (0 : Int) ≤ (m : Int) := by omega
  have HM := Lib.hid hm
  have HM' := Lib.hid hm'
  have hx2 := ext_drop p m
  clear hm hm'
  go_wp2_with (refine wpList_copy8 rfl (.tmp 30) (.tmp 36) _ rfl r off n c m all p _ _ (by rfl) (by rfl) HR2.out (Src.str _ p) HM.out (fun _ => rfl) (by omega) ?_)
  intro w3 hrow3 hfr3
  have hC3 := HC2.out.fr hfr3 (fun x k _ => by have k : x = r := k; subst k; obtain ⟨fz, h1, _⟩ := HR2.out; exact ⟨_, _, h1⟩)
  have hC4 := hC3.putStr (q := p.drop m)
  obtain ⟨r0', o0', e0, hr0', hcell3, hfro3, hty3⟩ := hC3.first
  injection e0 with e0
  injection e0 with e1 e2 e3
  subst e1 e2
  have q3 := hC3.c0
  simp only [List.length_cons] at q3
  unfold strV at hcell3
  have hF4 : Fr (fun x => x = r ∨ srcS w base x) w (w3.setCell ⟨r0, o0, none⟩ (strV (p.drop m))) := by
    have g1 : Fr (fun x => x = r ∨ srcS w base x) w w3 := (HF2.out.mono (fun i _ q => .inr q)).trans' hfr3 (fun i _ q => .inl q)
    refine g1.setCell (fun hlt => .inr ⟨hr0, ?_⟩) _
    obtain ⟨r1, o1, e1, _, _, _, hty1⟩ := H.out.first
    injection e1 with e1
    injection e1 with e1
    subst e1
    exact hty1.ne (by decide)
  have hR4 : Row 5 (w3.setCell ⟨r0, o0, none⟩ (strV (p.drop m))) r (splice all off (p.take m)) := hrow3.setCell_far (fun e => by have e : r = r0 := e; subst e; obtain ⟨fz, h1, _⟩ := hrow3; exact hty3.ne (by decide) ⟨_, _, h1⟩) _
  unfold strV at hC4 hF4 hR4
  generalize hw4 : w3.setCell ⟨r0, o0, none⟩ (.string ⟨(p.drop m).toArray⟩) = w4 at *
  have HC4 := Lib.hid hC4
  have HF4 := Lib.hid hF4
  have HR4 := Lib.hid hR4
  have p4 := hC4.c0
  obtain ⟨r0', o0', e0, _, hcell4, hfro4, _⟩ := hC4.first
  injection e0 with e0
  injection e0 with e1 e2 e3
  subst e1 e2
  have f40 := hC4.f 0
  unfold strV at hcell4
  simp only [List.length_cons] at p4
  clear hC3 hC4 hF4 hR4 hrow3 hfr3 hcell0 q0 hty3 hr0'
  go_wp2_with fail
  refine wp_region_mixed 13 (by kernel_rfl) (by kernel_rfl) (fun _ _ d _ _ h => by cases d <;> exact h) ?_
  simp only [List.take_succ_cons, List.take_zero, List.drop_succ_cons, List.drop_zero, List.filter_cons, List.filter_nil, isMv, Array.isEmpty_iff, Bool.not_false, Bool.and_true, Option.isNone_none, if_true, if_false, Bool.false_eq_true]
  repeat still_step
  refine wpStill_nil ?_
  have hfin : ∀ w', SrcAt w' sb base (psNext p rest n) fl (ak ++ [n]) → Fr (Just sb) w4 w' → SourcePost w sb base p rest fl ak r off n all (.returned (.tuple #[.int .i64 (m : Int), .nilIface])) w' := by
    intro w' g1 g2
    have e1 : p.take m = p.take n := by rw [← HM'.out, Nat.min_comm, ← List.take_eq_take_min]
    refine ⟨by rw [HM'.out], g1, ?_, HF4.out.trans' g2 (fun i _ q => .inr ?_)⟩
    · rw [← e1]
      exact HR4.out.fr g2 (fun q => HR4.out.ne_blk HC4.out.st (by decide) q)
    · have q : i = sb := q
      subst q
      exact ⟨H.out.bb, Typed.ne ⟨_, _, H.out.st⟩ (by decide)⟩
  have HFIN := Lib.hid hfin
  clear hfin
  by_cases hpe : p.length ≤ n
  · have hb1 : (p.drop m).isEmpty = true := by have := HM'.out; simp; omega
    have hnx : Hid (psNext p rest n = rest) := by unfold psNext; exact if_pos hpe
    by_cases hc1 : c0 = 1
    · subst hc1
      obtain rfl : rest = [] := List.eq_nil_of_length_eq_zero (by omega)
      simp only [List.length_nil] at p4 q3
      go_wp2_with fail
      go_ret2
      refine HFIN.out _ ?_ (((Fr.refl _ w4).setCell (fun _ => just_self sb) _).drew)
      rw [hnx.out]
      exact ⟨_, _, _, (HC4.out.tail (A' := some ⟨r0, o0, none⟩) (fun q => absurd rfl q)).drew⟩
    · go_wp2_with fail
      go_ret2
      refine HFIN.out _ ?_ (((Fr.refl _ w4).setCell (fun _ => just_self sb) _).drew)
      rw [hnx.out]
      exact ⟨_, _, _, (HC4.out.tail (fun q => rfl)).drew⟩
  · have hb1 : (p.drop m).isEmpty = false := by have := HM'.out; simp; omega
    have hnx := Lib.hid (show psNext p rest n = p.drop m :: rest by unfold psNext; rw [if_neg hpe, show m = n by have := HM'.out; omega])
    go_wp2_with fail
    go_ret2
    refine HFIN.out _ ?_ ((Fr.refl _ w4).drew)
    rw [hnx.out]
    exact ⟨_, _, _, HC4.out.drew⟩
end Go.Proofs.YtkggebhkjgjijaaGreatDoor
