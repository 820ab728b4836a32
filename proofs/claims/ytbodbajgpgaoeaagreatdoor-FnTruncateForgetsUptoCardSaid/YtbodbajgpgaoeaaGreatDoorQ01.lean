/- MemB, BufA, Grow, Mix. -/
import Derived.WalkKit
import Derived.Laws.CopyOwn
import Derived.Lib.Hide
import Derived.Deep.Draws
import Derived.Lib.AppendZeros
import Derived.Lib.ConvBytes
import Derived.OwnWalk
import Derived.Test.YtbodbajgpgaoeaaGreatDoorProg
import Derived.Deep.QuietTactic
import Derived.BigQuiet
import Derived.RegionTactic
import Derived.Defers
import Derived.Recover
import Derived.Lib.Builder
import Derived.Deep.RegionHeld3
import Derived.StillTailTactics
import Derived.WalkSpells
import Derived.Lib.ByteType
import Derived.Lib.Walk
namespace Go.Proofs.YtbodbajgpgaoeaaGreatDoor
open Go Go.RowKit

/-- Outside the blocks of S the world w' is as w was; the streams are as they were; no block has gone. -/
structure Fr (S : Nat → Prop) (w w' : World) : Prop where
  os : w'.os = w.os
  tape : w'.tape = w.tape
  output : w'.output = w.output
  size : w.heap.size ≤ w'.heap.size
  block : ∀ k, k < w.heap.size → ¬ S k → w'.heap[k]? = w.heap[k]?

section
variable {S S' : Nat → Prop} {w w' w'' : World}
theorem Fr.refl (S : Nat → Prop) (w : World) : Fr S w w := ⟨rfl, rfl, rfl, Nat.le_refl _, fun _ _ _ => rfl⟩
theorem Fr.trans (h : Fr S w w') (k : Fr S w' w'') : Fr S w w'' :=
  ⟨k.os.trans h.os, k.tape.trans h.tape, k.output.trans h.output, Nat.le_trans h.size k.size,
    fun i hi hn => (k.block i (Nat.lt_of_lt_of_le hi h.size) hn).trans (h.block i hi hn)⟩
/-- The second step may also write what is new behind w. -/
theorem Fr.trans' (h : Fr S w w') (k : Fr S' w' w'') (hs : ∀ i, i < w.heap.size → S' i → S i) : Fr S w w'' :=
  ⟨k.os.trans h.os, k.tape.trans h.tape, k.output.trans h.output, Nat.le_trans h.size k.size,
    fun i hi hn => (k.block i (Nat.lt_of_lt_of_le hi h.size) (fun q => hn (hs i hi q))).trans (h.block i hi hn)⟩
theorem Fr.mono (h : Fr S w w') (hs : ∀ i, i < w.heap.size → S i → S' i) : Fr S' w w' :=
  ⟨h.os, h.tape, h.output, h.size, fun i hi hn => h.block i hi (fun q => hn (hs i hi q))⟩
theorem Fr.drew (h : Fr S w w') : Fr S w w'.drew := ⟨h.os, h.tape, h.output, h.size, h.block⟩
theorem Fr.drewN (h : Fr S w w') (n : Nat) : Fr S w (w'.drewN n) := ⟨h.os, h.tape, h.output, h.size, h.block⟩
theorem Fr.alloc (h : Fr S w w') (o : Obj) : Fr S w (w'.alloc o) :=
  ⟨h.os, h.tape, h.output, Nat.le_trans h.size (by simp), fun i hi hn => (Below.heap_alloc w' o i (Nat.lt_of_lt_of_le hi h.size)).trans (h.block i hi hn)⟩
theorem Fr.setCell (h : Fr S w w') {p : Addr} (hp : p.block < w.heap.size → S p.block) (u : Value) : Fr S w (w'.setCell p u) :=
  ⟨h.os, h.tape, h.output, by simpa [World.setCell] using h.size, fun i hi hn => (Below.heap_setCell w' p u i (by rintro rfl; exact hn (hp hi))).trans (h.block i hi hn)⟩
theorem Fr.setRow (h : Fr S w w') {g : Nat} (hp : g < w.heap.size → S g) (cs : Array Value) : Fr S w (w'.setRow g cs) :=
  ⟨h.os, h.tape, h.output, by simpa [World.setRow] using h.size, fun i hi hn => (setRow_other w' g i cs (by rintro rfl; exact hn (hp hi))).trans (h.block i hi hn)⟩
theorem Fr.below {B : Nat} (h : Fr S w w') (hB : B ≤ w.heap.size) (hs : ∀ i, S i → B ≤ i) : Below B w w' :=
  ⟨h.os, h.tape, h.output, h.size, fun k hk => h.block k (by omega) (fun q => by have := hs k q; omega)⟩
theorem Fr.of_below (h : Below w.heap.size w w') : Fr S w w' := ⟨h.os, h.tape, h.output, h.size, fun k hk _ => h.block k hk⟩
theorem Fr.of_grown {row : Option Nat} (h : w.grownBy w' row) (hs : ∀ i, row = some i → S i) : Fr S w w' :=
  ⟨h.os, h.tape, h.output, h.size, fun k hk hn => h.block k hk (fun e => hn (hs k e.symm))⟩
theorem Fr.cell (h : Fr S w w') {p : Addr} (hp : p.block < w.heap.size) (hn : ¬ S p.block) : w'.cell? p = w.cell? p := World.cell?_of_block (h.block p.block hp hn)
theorem lt_of_blk {b : Nat} {o : Obj} (h : w.heap[b]? = some o) : b < w.heap.size := (Array.getElem?_eq_some_iff.1 h).1
theorem Fr.blk (h : Fr S w w') {b : Nat} {o : Obj} (hb : w.heap[b]? = some o) (hn : ¬ S b) : w'.heap[b]? = some o := (h.block b (lt_of_blk hb) hn).trans hb
end

/-- This block alone. -/
def Just (b : Nat) : Nat → Prop := fun x => x = b
theorem just_self (b : Nat) : Just b b := rfl

/-- Bytes as cells. -/
def bcs (l : List UInt8) : List Value := l.map fun x => Value.int .u8 (x.toNat : Int)
@[simp] theorem bcs_length (l : List UInt8) : (bcs l).length = l.length := by simp [bcs]
theorem bcs_append (l m : List UInt8) : bcs (l ++ m) = bcs l ++ bcs m := by simp [bcs]
theorem bcs_take (l : List UInt8) (n : Nat) : bcs (l.take n) = (bcs l).take n := by simp [bcs]
theorem bcs_drop (l : List UInt8) (n : Nat) : bcs (l.drop n) = (bcs l).drop n := by simp [bcs]
theorem bcs_one (l : List UInt8) : ∀ u ∈ bcs l, u.oneCell' = true := by
  intro u hu
  simp only [bcs, List.mem_map] at hu
  obtain ⟨x, _, rfl⟩ := hu
  rfl
theorem bcs_get {l : List UInt8} {i : Nat} {x : UInt8} (h : l[i]? = some x) : (bcs l)[i]? = some (.int .u8 (x.toNat : Int)) := by simp [bcs, h]
theorem bcs_get_lt (l : List UInt8) (i : Nat) (h : i < l.length) : (bcs l)[i]? = some (.int .u8 (l[i].toNat : Int)) := bcs_get (List.getElem?_eq_getElem h)

/-- Block r is a row of the bytes l, element type E, none of them frozen. -/
def Row (E : TypeId) (w : World) (r : Nat) (l : List UInt8) : Prop :=
  ∃ fz : Nat × Nat, w.heap[r]? = some (.cells (bcs l).toArray E fz) ∧ (fz.2 ≤ fz.1 ∨ l.length ≤ fz.1)

section
variable {E : TypeId} {w w' : World} {r : Nat} {l : List UInt8}
theorem Row.lt (h : Row E w r l) : r < w.heap.size := by obtain ⟨_, h, _⟩ := h; exact lt_of_blk h
theorem Row.of_block (h : Row E w r l) (hb : w'.heap[r]? = w.heap[r]?) : Row E w' r l := by
  obtain ⟨fz, h1, h2⟩ := h
  exact ⟨fz, hb.trans h1, h2⟩
theorem Row.fr {S : Nat → Prop} (h : Row E w r l) (hf : Fr S w w') (hn : ¬ S r) : Row E w' r l := h.of_block (hf.block r h.lt hn)
theorem Row.cell (h : Row E w r l) (i : Nat) (hi : i < l.length) : w.cell? ⟨r, i, none⟩ = some (.int .u8 (l[i].toNat : Int)) := by
  obtain ⟨fz, h1, _⟩ := h
  rw [cell_of_row w r i _ E fz h1]
  simpa using bcs_get_lt l i hi
theorem Row.free (h : Row E w r l) (i : Nat) (hi : i < l.length) : w.frozen? ⟨r, i, none⟩ = false := by
  obtain ⟨⟨lo, hi'⟩, h1, h2⟩ := h
  simp only [World.frozen?, h1, Bool.and_eq_false_iff, decide_eq_false_iff_not]
  simp only at h2
  omega
theorem Row.ne_blk {b : Nat} {T : TypeId} {cs : Array Value} {fz : Nat × Nat} (h : Row E w r l) (hb : w.heap[b]? = some (.cells cs T fz)) (hne : T ≠ E) : r ≠ b := by
  rintro rfl
  obtain ⟨fz', h1, _⟩ := h
  rw [hb] at h1
  injection h1 with h1
  injection h1 with _ h1
  exact hne h1
theorem Row.drew (h : Row E w r l) : Row E w.drew r l := h
theorem Row.drewN (h : Row E w r l) (n : Nat) : Row E (w.drewN n) r l := h
theorem Row.alloc (h : Row E w r l) (o : Obj) : Row E (w.alloc o) r l := h.of_block (Below.heap_alloc w o r h.lt)
theorem Row.setCell_far (h : Row E w r l) {p : Addr} (hp : r ≠ p.block) (u : Value) : Row E (w.setCell p u) r l := h.of_block (Below.heap_setCell w p u r hp)
theorem Row.new (w : World) (E : TypeId) (l : List UInt8) : Row E (w.alloc (.cells (bcs l).toArray E)) w.heap.size l := ⟨(0, 0), heap_alloc_new w _, .inl (Nat.le_refl _)⟩
end

/-- Storing cells into a block, none of them frozen. -/
theorem run_storeCells_free (P : Program) (g o : Nat) (t : TypeId) (fz : Nat × Nat) : ∀ (vs : List Value) (i : Nat) (cur : Array Value) (w : World), w.heap[g]? = some (.cells cur t fz) →
    (∀ j, o + i ≤ j → j < o + i + vs.length → ¬ (fz.1 ≤ j ∧ j < fz.2)) → o + i + vs.length ≤ cur.size → (∀ v ∈ vs, v.oneCell' = true) →
    (storeCells ⟨g, o, none⟩ vs i).run P w = .ok () (w.setRow g (cur.toList.take (o + i) ++ vs ++ cur.toList.drop (o + i + vs.length)).toArray)
  | [], i, cur, w, hg, _, _, _ => by
    simp only [storeCells, List.append_nil, List.length_nil, Nat.add_zero, List.take_append_drop, Array.toArray_toList]
    rw [setRow_self w g cur t fz hg]
    rfl
  | v :: rest, i, cur, w, hg, hfz, hl, h1 => by
    have hi : o + i < cur.size := by simp at hl; omega
    have hadd : (⟨g, o, none⟩ : Addr).add i = ⟨g, o + i, none⟩ := by unfold Addr.add; split <;> simp_all
    have hcell : w.cell? ⟨g, o + i, none⟩ = some cur[o + i] := by simp [World.cell?, hg, hi]
    have hfro : w.frozen? ⟨g, o + i, none⟩ = false := by
      have := hfz (o + i) (Nat.le_refl _) (by simp)
      obtain ⟨lo, hi'⟩ := fz
      simp only [World.frozen?, hg, Bool.and_eq_false_iff, decide_eq_false_iff_not]
      simp only at this
      omega
    have hst : (store ((⟨g, o, none⟩ : Addr).add i) v).run P w = .ok () (w.setRow g (cur.setIfInBounds (o + i) v)) := by
      rw [hadd, run_store P w _ v _ (h1 v (by simp)), hcell]
      simp [hfro, setCell_eq_setRow w g (o + i) cur t fz v hg]
    have ih := run_storeCells_free P g o t fz rest (i + 1) (cur.setIfInBounds (o + i) v) (w.setRow g (cur.setIfInBounds (o + i) v)) (setRow_heap w g cur _ t _ hg)
      (fun j h2 h3 => hfz j (by omega) (by simp; omega)) (by simp at hl ⊢; omega) (fun x hx => h1 x (by simp [hx]))
    simp only [storeCells, Sem.run_bind, hst, Result.andThen_ok, ih, setRow_setRow]
    congr 3
    have e := list_seg_step cur.toList (o + i) v rest (by simp at hl ⊢; omega)
    simpa [Array.toList_setIfInBounds, Nat.add_assoc] using e

theorem splice_take_head {α : Type} (all l : List α) {m : Nat} (h : l.length = m) : (splice all 0 l).take m = l := by
  subst h
  simp [splice]

/-- Where bytes come from: a string, or a slice whose cells read as them. -/
def Src (w : World) (v : Value) (l : List UInt8) : Prop :=
  v = .string ⟨l.toArray⟩ ∨ ∃ A c, v = .slice A l.length c ∧ (0 < l.length → ∃ ad, A = some ad ∧ ∀ j x, l[j]? = some x → w.cell? (ad.add j) = some (.int .u8 (x.toNat : Int)))

theorem Src.str (w : World) (l : List UInt8) : Src w (.string ⟨l.toArray⟩) l := .inl rfl
theorem addr_add (r o j : Nat) : (⟨r, o, none⟩ : Addr).add j = ⟨r, o + j, none⟩ := by unfold Addr.add; split <;> simp_all
theorem Src.of_row {E : TypeId} {w : World} {r o n c : Nat} {all : List UInt8} {A : Option Addr} (h : Row E w r all) (hA : 0 < n → A = some ⟨r, o, none⟩) (hl : o + n ≤ all.length) :
    Src w (.slice A n c) ((all.drop o).take n) := by
  have hlen : ((all.drop o).take n).length = n := by simp; omega
  refine .inr ⟨A, c, by rw [hlen], fun h0 => ⟨_, hA (by omega), fun j x hx => ?_⟩⟩
  rw [addr_add]
  rw [List.getElem?_take] at hx
  split at hx
  · rw [List.getElem?_drop] at hx
    obtain ⟨hj, rfl⟩ := List.getElem?_eq_some_iff.1 hx
    exact h.cell _ hj
  · cases hx

/-- What a slice reads as behind its place o. -/
theorem Src.cut {E : TypeId} {w : World} {r o n : Nat} {all : List UInt8} (h : Row E w r all) (ho : o ≤ n) (hn : n ≤ all.length) :
    Src w (.slice (if all.length = o then some ⟨r, 0, none⟩ else some ⟨r, o, none⟩) (n - o) (all.length - o)) ((all.take n).drop o) := by
  rw [List.drop_take]
  refine Src.of_row h (fun q => ?_) (by omega)
  rw [if_neg (by omega)]
theorem Src.of_heap {w w' : World} {v : Value} {l : List UInt8} (h : Src w v l) (hh : w'.heap = w.heap) : Src w' v l := by
  rcases h with h | ⟨A, c, h, k⟩
  · exact .inl h
  · refine .inr ⟨A, c, h, fun q => ?_⟩
    obtain ⟨ad, e, k⟩ := k q
    refine ⟨ad, e, fun j x hx => ?_⟩
    rw [← k j x hx]
    simp only [World.cell?, hh]
theorem Src.fr {S : Nat → Prop} {w w' : World} {v : Value} {l : List UInt8} (h : Src w v l) (hf : Fr S w w') (hS : ∀ i c E fz, S i → w.heap[i]? = some (.cells c E fz) → ∀ (j : Nat) (x : Int), c[j]? ≠ some (Value.int .u8 x)) : Src w' v l := by
  rcases h with h | ⟨A, c, h, k⟩
  · exact .inl h
  · refine .inr ⟨A, c, h, fun q => ?_⟩
    obtain ⟨ad, e, k⟩ := k q
    refine ⟨ad, e, fun j x hx => ?_⟩
    have hc := k j x hx
    refine (hf.cell (World.block_lt_of_cell? _ _ hc) (fun q => ?_)).trans hc
    unfold World.cell? at hc
    split at hc
    · rename_i c' E fz hb
      split at hc
      · cases hc
      · exact hS _ _ _ _ q hb _ _ hc
    · cases hc

theorem run_firstCells_src {P : Program} {w : World} {v : Value} {l : List UInt8} (h : Src w v l) (k : Nat) (hk : k ≤ l.length) :
    (Builtin.firstCells 1 k v).run P w = .ok (bcs (l.take k)).toArray w := by
  rcases h with rfl | ⟨A, c, rfl, hs⟩
  · simp only [Builtin.firstCells, bcs]
    have : (ByteArray.extract ⟨l.toArray⟩ 0 k).data = (l.take k).toArray := by simp [ByteArray.data_extract]
    rw [this]
    simp
  · rcases Nat.eq_zero_or_pos k with rfl | h0
    · cases A <;> simp [Builtin.firstCells, loadCells, loadCellsFrom, bcs]
    · obtain ⟨ad, rfl, hc⟩ := hs (by omega)
      have hl := run_loadCells_list (P := P) w ad (bcs (l.take k)) (by
        intro j u hu
        have hj : j < (l.take k).length := by
          have := (List.getElem?_eq_some_iff.1 hu).1
          simpa using this
        have := bcs_get_lt (l.take k) j hj
        rw [this] at hu
        injection hu with hu
        subst hu
        refine hc j _ ?_
        rw [List.getElem_take]
        exact List.getElem?_eq_getElem _)
      have hkk : (bcs (l.take k)).length = k := by simp; omega
      rw [hkk] at hl
      simp [Builtin.firstCells, hl]

theorem run_lenOf_src {P : Program} {w : World} {v : Value} {l : List UInt8} (h : Src w v l) : (Builtin.lenOf v).run P w = .ok l.length w := by
  rcases h with rfl | ⟨A, c, rfl, _⟩
  · simp [Builtin.lenOf, ByteArray.size]
  · simp [Builtin.lenOf]

/-- copy of bytes into a row of bytes. -/
theorem run_copy_bytes {P : Program} {w : World} {E : TypeId} {dT sT ty : TypeId} {r o n c k : Nat} {all l : List UInt8} {D : Option Addr} {v : Value} {i : TypeInfo}
    (hu : P.underlying dT = some (.slice E)) (hi : P.info? E = some i) (hs1 : i.size = 1) (hrow : Row E w r all) (hsrc : Src w v l) (hk : Nat.min l.length n = k)
    (hD : 0 < k → D = some ⟨r, o, none⟩) (hfit : o + k ≤ all.length) :
    ∃ w', (Builtin.copy_ #[dT, sT] ty #[.slice D n c, v]).run P w = .ok (.int .i64 (k : Int)) w' ∧ Row E w' r (splice all o (l.take k)) ∧ Fr (Just r) w w' := by
  have hlen := run_lenOf_src (P := P) hsrc
  have hkl : k ≤ l.length := by rw [← hk]; exact Nat.min_le_left _ _
  have hf := run_firstCells_src (P := P) hsrc k hkl
  rcases Nat.eq_zero_or_pos k with h0 | h0
  · subst h0
    refine ⟨w, ?_, ?_, Fr.refl _ _⟩
    · cases D <;> simp [Builtin.copy_, run_underlying hu, sizeOf, typeInfo, hi, hs1, hlen, hk, hf, storeCells, bcs, goInt]
    · simpa [splice] using hrow
  · have hD' := hD h0
    subst hD'
    obtain ⟨fz, h1, h2⟩ := hrow
    have hst := run_storeCells_free P r o E fz (bcs (l.take k)) 0 (bcs all).toArray w h1
      (fun j h3 h4 => by
        have hlt : j < all.length := by simp at h4; omega
        omega) (by simp; omega) (bcs_one _)
    refine ⟨w.setRow r (bcs (splice all o (l.take k))).toArray, ?_, ⟨fz, setRow_heap w r _ _ E fz h1, ?_⟩, (Fr.refl _ w).setRow (fun _ => just_self r) _⟩
    · have e : (bcs all).toArray.toList.take (o + 0) ++ bcs (l.take k) ++ (bcs all).toArray.toList.drop (o + 0 + (bcs (l.take k)).length) = bcs (splice all o (l.take k)) := by
        simp [splice, bcs_append, bcs_take, bcs_drop]
      rw [e] at hst
      simp [Builtin.copy_, run_underlying hu, sizeOf, typeInfo, hi, hs1, hlen, hk, hf, hst, goInt]
    · rw [length_splice _ _ _ (by simp; omega)]
      exact h2
end Go.Proofs.YtbodbajgpgaoeaaGreatDoor

namespace Go.Proofs.YtbodbajgpgaoeaaGreatDoor
open Go Go.RowKit

/-- append of bytes within the capacity. -/
theorem run_append_fit {P : Program} {w : World} {E : TypeId} {dT xT ty : TypeId} {r o n c : Nat} {all l : List UInt8} {D : Option Addr} {x : Value} {i : TypeInfo} {u : TypeDesc} {fz : Nat × Nat}
    (hu : P.underlying dT = some (.slice E)) (hx : P.underlying xT = some u) (hnot : ∀ k, u ≠ .int k) (hi : P.info? E = some i) (hs1 : i.size = 1)
    (hrow : w.heap[r]? = some (.cells (bcs all).toArray E fz)) (hsrc : Src w x l) (hroom : n + l.length ≤ c)
    (hD : 0 < l.length → D = some ⟨r, o, none⟩) (hfit : o + n + l.length ≤ all.length) (hfree : ∀ j, o + n ≤ j → j < o + n + l.length → ¬ (fz.1 ≤ j ∧ j < fz.2)) :
    ∃ w', (Builtin.append_ #[dT, xT] ty #[.slice D n c, x]).run P w = .ok (.slice D (n + l.length) c) w' ∧ w'.heap[r]? = some (.cells (bcs (splice all (o + n) l)).toArray E fz) ∧ Fr (Just r) w w' := by
  have hlen := run_lenOf_src (P := P) hsrc
  have hf := run_firstCells_src (P := P) hsrc l.length (Nat.le_refl _)
  rw [List.take_length] at hf
  rcases Nat.eq_zero_or_pos l.length with h0 | h0
  · obtain rfl : l = [] := List.eq_nil_of_length_eq_zero h0
    refine ⟨w, ?_, ?_, Fr.refl _ _⟩
    · cases D <;> simp [Builtin.append_, run_underlying hu, run_underlying hx, sizeOf, typeInfo, hi, hs1, hlen, storeCells, bcs] at hroom hf ⊢ <;> simp [hroom, hf, storeCells]
    · simpa [splice] using hrow
  · have hD' := hD h0
    subst hD'
    have hst := run_storeCells_free P r (o + n) E fz (bcs l) 0 (bcs all).toArray w hrow
      (fun j h3 h4 => hfree j (by omega) (by simp at h4; omega)) (by simp; omega) (bcs_one _)
    refine ⟨w.setRow r (bcs (splice all (o + n) l)).toArray, ?_, setRow_heap w r _ _ E fz hrow, (Fr.refl _ w).setRow (fun _ => just_self r) _⟩
    have e : (bcs all).toArray.toList.take (o + n + 0) ++ bcs l ++ (bcs all).toArray.toList.drop (o + n + 0 + (bcs l).length) = bcs (splice all (o + n) l) := by
      simp [splice, bcs_append, bcs_take, bcs_drop]
    rw [e] at hst
    simp [Builtin.append_, run_underlying hu, run_underlying hx, sizeOf, typeInfo, hi, hs1, hlen, hroom, hf, addr_add, hst]

theorem zeroCells_bcs (n : Nat) : Builtin.zeroCells (Value.int .u8 0).cells n = (bcs (List.replicate n 0)).toArray := by
  apply Array.ext
  · simp [size_zeroCells, Value.cells]
  · intro i h1 h2
    simp [Builtin.zeroCells, Value.cells, bcs, Nat.mod_one]

/-- A block of so many zero bytes. -/
def zrow (E : TypeId) (c : Nat) : Obj := .cells (bcs (List.replicate c 0)).toArray E
theorem Row.zrow (w : World) (E : TypeId) (c : Nat) : Row E (w.alloc (zrow E c)) w.heap.size (List.replicate c 0) := Row.new w E _
theorem madeCells_bcs (c : Nat) : madeCells #[Value.int .u8 0] c = (bcs (List.replicate c 0)).toArray := by
  apply Array.ext
  · simp [size_madeCells]
  · intro i h1 h2
    simp [madeCells, bcs, Nat.mod_one]
/-- make of bytes. -/
theorem run_make_bytes {P : Program} {T E : TypeId} {i : TypeInfo} (ht : P.underlying T = some (.slice E)) (hi : P.info? E = some i) (hz : i.zero = some (.int .u8 0)) (hs : i.size = 1) (hb : i.bytes = 1) (kl kc : IntKind) (l c : Nat) (hl : l ≤ c) (hc : c ≤ 281474976710656) (w : World) :
    (Instr.makeSlice T (.int kl (l : Int)) (.int kc (c : Int))).run P w = .ok (.slice (some ⟨w.heap.size, 0, none⟩) l c) (w.alloc (Go.Proofs.YtbodbajgpgaoeaaGreatDoor.zrow E c)) := by
  have hr := run_make (P := P) w T E i _ ht hi hz kl kc l c (by omega) (by omega) (by rw [hb]; omega) (by omega)
  simp only [Int.toNat_natCast, hs, Nat.mul_one, Value.cells, madeCells_bcs] at hr
  exact hr

/-- append of bytes beyond the capacity. -/
theorem run_append_grow {P : Program} {w : World} {E : TypeId} {dT xT ty : TypeId} {n c : Nat} {old l : List UInt8} {D : Option Addr} {x : Value} {i : TypeInfo} {u : TypeDesc}
    (hu : P.underlying dT = some (.slice E)) (hx : P.underlying xT = some u) (hnot : ∀ k, u ≠ .int k) (hi : P.info? E = some i) (hs1 : i.size = 1) (hby : i.bytes = 1) (hz0 : i.zero = some (.int .u8 0))
    (hold : Src w (.slice D n c) old) (hn : old.length = n) (hsrc : Src w x l) (hroom : c < n + l.length) (hlim : n + l.length ≤ 140737488355328) :
    ∃ (cap2 : Nat) (w' : World), (Builtin.append_ #[dT, xT] ty #[.slice D n c, x]).run P w = .ok (.slice (some ⟨w.heap.size, 0, none⟩) (n + l.length) cap2) w' ∧
      w'.heap[w.heap.size]? = some (.cells (bcs (old ++ l ++ List.replicate (cap2 - (n + l.length)) 0)).toArray E (0, 0)) ∧
      n + l.length ≤ cap2 ∧ cap2 ≤ 9223372036854775807 ∧ Fr (fun _ => False) w w' ∧ w'.heap.size = w.heap.size + 1 := by
  have hlen := run_lenOf_src (P := P) hsrc
  have hf := run_firstCells_src (P := P) hsrc l.length (Nat.le_refl _)
  rw [List.take_length] at hf
  have ho := run_firstCells_src (P := P) hold old.length (Nat.le_refl _)
  rw [List.take_length, hn] at ho
  have hroom' : ¬ (n + l.length ≤ c) := by omega
  have h48 := growslice_fits (need := n + l.length) (old := c) (bytes := 1) hroom (by omega)
  have h48' : ¬ (281474976710656 < Builtin.nextslicecap (n + l.length) c) := by omega
  have hge := grownCap_ge w (n + l.length) c E
  have hle := grownCap_le_maxLen w (n + l.length) c E (by unfold maxLen; omega)
  have hrep := zeroCells_bcs (grownCap w (n + l.length) c E - (n + l.length))
  refine ⟨grownCap w (n + l.length) c E, w.drew.alloc (.cells (bcs (old ++ l ++ List.replicate (grownCap w (n + l.length) c E - (n + l.length)) 0)).toArray E), ?_, heap_alloc_new w.drew _, hge, by unfold maxLen at hle; omega,
    (((Fr.refl _ w).drew).alloc _), by simp⟩
  have he' : ∀ q : List UInt8, bcs old ++ (bcs l ++ bcs q) = bcs (old ++ (l ++ q)) := fun q => by simp [bcs_append]
  have hd1 : (Builtin.firstCells 1 n (.slice D n c)).run P w.drew = .ok (bcs old).toArray w.drew := by
    have hold' : Src w.drew (.slice D n c) old := hold
    have := run_firstCells_src (P := P) hold' old.length (Nat.le_refl _)
    rwa [List.take_length, hn] at this
  have hd2 : (Builtin.firstCells 1 l.length x).run P w.drew = .ok (bcs l).toArray w.drew := by
    have hsrc' : Src w.drew x l := hsrc
    have := run_firstCells_src (P := P) hsrc' l.length (Nat.le_refl _)
    rwa [List.take_length] at this
  simp only [grownCap] at hd1 hd2 hrep ⊢
  simp [Builtin.append_, run_underlying hu, run_underlying hx, sizeOf, typeInfo, hi, hs1, hlen, hroom', hby, h48', Question.forced, newRow, zeroValue, hz0, hd1, hd2, hrep, he']

section
variable {P : Program} {w : World} {ops : Array Oper} {rest : List Oper} {o : Oper} {a : Act} {K : Act → World → Prop} {Q : Exit → Act → World → Prop}

theorem wp_copy_of_run (d s : Operand) (dT sT : TypeId) (ho : o.op = .call { callee := .builtin .copy, args := #[d, s], argTypes := #[dT, sT] }) {vd vs v' : Value} {w' : World} (hd : a.eval d = vd) (hs : a.eval s = vs)
    (hr : (Builtin.copy_ #[dT, sT] o.type #[vd, vs]).run P w = .ok v' w') (h : K (a.put o.dst v') w') : o.wp P a w K Q := by
  unfold Oper.wp
  simp [execOp, ho, resolve, invoke, builtin, hd, hs, hr, Result.andThen]
  exact h
theorem wp_append_of_run (d s : Operand) (dT sT : TypeId) (ho : o.op = .call { callee := .builtin .append, args := #[d, s], argTypes := #[dT, sT] }) {vd vs v' : Value} {w' : World} (hd : a.eval d = vd) (hs : a.eval s = vs)
    (hr : (Builtin.append_ #[dT, sT] o.type #[vd, vs]).run P w = .ok v' w') (h : K (a.put o.dst v') w') : o.wp P a w K Q := by
  unfold Oper.wp
  simp [execOp, ho, resolve, invoke, builtin, hd, hs, hr, Result.andThen]
  exact h
/-- One step of a region that draws its order, by a law on the operation. -/
theorem step_of_wp {E : Prop} (hgd : o.guard = none) (h : o.wp P a w K Q) : if Region.wanted o (yielded ops a.tmps) = true then Oper.wp P o a w K Q else E := by
  rw [if_pos (by simp [Region.wanted, hgd])]
  exact h

/-- copy of bytes into a row, as a step of a walk. -/
theorem wp_copyB (d s : Operand) (dT sT : TypeId) (ho : o.op = .call { callee := .builtin .copy, args := #[d, s], argTypes := #[dT, sT] }) (E : TypeId) (i : TypeInfo) (hu : P.underlying dT = some (.slice E)) (hi : P.info? E = some i) (hs1 : i.size = 1)
    (r off n c k : Nat) (all l : List UInt8) (D : Option Addr) (v : Value) (hd : a.eval d = .slice D n c) (hs : a.eval s = v) (hrow : Row E w r all) (hsrc : Src w v l) (hk : Nat.min l.length n = k)
    (hD : 0 < k → D = some ⟨r, off, none⟩) (hfit : off + k ≤ all.length)
    (h : ∀ w', Row E w' r (splice all off (l.take k)) → Fr (Just r) w w' → K (a.put o.dst (.int .i64 (k : Int))) w') : o.wp P a w K Q := by
  obtain ⟨w', h1, h2, h3⟩ := run_copy_bytes (P := P) (sT := sT) (ty := o.type) (c := c) hu hi hs1 hrow hsrc hk hD hfit
  exact wp_copy_of_run d s dT sT ho hd hs h1 (h w' h2 h3)
theorem wpList_copyB (hgd : o.guard = none) (d s : Operand) (dT sT : TypeId) (ho : o.op = .call { callee := .builtin .copy, args := #[d, s], argTypes := #[dT, sT] }) (E : TypeId) (i : TypeInfo) (hu : P.underlying dT = some (.slice E)) (hi : P.info? E = some i) (hs1 : i.size = 1)
    (r off n c k : Nat) (all l : List UInt8) (D : Option Addr) (v : Value) (hd : a.eval d = .slice D n c) (hs : a.eval s = v) (hrow : Row E w r all) (hsrc : Src w v l) (hk : Nat.min l.length n = k)
    (hD : 0 < k → D = some ⟨r, off, none⟩) (hfit : off + k ≤ all.length)
    (h : ∀ w', Row E w' r (splice all off (l.take k)) → Fr (Just r) w w' → wpList P ops Q rest (a.put o.dst (.int .i64 (k : Int))) w') : wpList P ops Q (o :: rest) a w :=
  wpList_plain hgd fun _ hK => wp_copyB d s dT sT ho E i hu hi hs1 r off n c k all l D v hd hs hrow hsrc hk hD hfit fun w' h1 h2 => hK _ _ (h w' h1 h2)
end
end Go.Proofs.YtbodbajgpgaoeaaGreatDoor

namespace Go.Proofs.YtbodbajgpgaoeaaGreatDoor
open Go Go.RowKit

/-- What a buffer is made of: the block of its bytes (none: nil), all bytes up to the capacity, the slice's length, the place of the next read, what the last read was. -/
structure Gh where
  row : Option Nat
  all : List UInt8
  len : Nat
  off : Nat
  lr : Int

def rowA (row : Option Nat) : Option Addr := row.map fun r => ⟨r, 0, none⟩
@[simp] theorem rowA_some (r : Nat) : rowA (some r) = some ⟨r, 0, none⟩ := rfl
@[simp] theorem rowA_none : rowA none = none := rfl

/-- Where a slice of the row lies that begins at o. -/
def cutA (row : Option Nat) (o cap : Nat) : Option Addr := if cap = o then rowA row else row.map fun r => ⟨r, o, none⟩
theorem cutA_some (r o cap : Nat) (h : ¬ cap = o) : cutA (some r) o cap = some ⟨r, o, none⟩ := by simp [cutA, h]
theorem info_u8 : (Tryz.prog.info? 5).map (fun i => (i.zero, i.size, i.bytes)) = some (some (.int .u8 0), 1, 1) := by kernel_rfl
theorem addr_add1 (r o : Nat) : (⟨r, 0, none⟩ : Addr).add o = ⟨r, o, none⟩ := by rw [addr_add, Nat.zero_add]
/-- A slice of the row from o on. -/
theorem slice_from (row : Option Nat) (n c o : Nat) (ho : o ≤ n) (w : World) : (Instr.slice 40 (.slice (rowA row) n c) (some (.int .i64 (o : Int))) none none).run Tryz.prog w = .ok (.slice (cutA row o c) (n - o) (c - o)) w := by
  obtain ⟨i0, hi, hz0, hz1, hz2⟩ := info_parts info_u8
  have h1 : (0 : Int) ≤ (o : Int) := by omega
  have h2 : (o : Int) ≤ (n : Int) := by omega
  cases row <;> simp [Instr.slice, run_underlying Tryz.underlying40, Instr.sliceBounds, run_sliceBound, sizeOf, typeInfo, hi, hz1, cutA, h2, addr_add1]
theorem slice_lh (row : Option Nat) (n c lo h : Nat) (hl : lo ≤ h) (hh : h ≤ c) (w : World) : (Instr.slice 40 (.slice (rowA row) n c) (some (.int .i64 (lo : Int))) (some (.int .i64 (h : Int))) none).run Tryz.prog w = .ok (.slice (cutA row lo c) (h - lo) (c - lo)) w := by
  obtain ⟨i0, hi, hz0, hz1, hz2⟩ := info_parts info_u8
  have h1 : (lo : Int) ≤ (h : Int) := by omega
  have h2 : (h : Int) ≤ (c : Int) := by omega
  cases row <;> simp [Instr.slice, run_underlying Tryz.underlying40, Instr.sliceBounds, run_sliceBound, sizeOf, typeInfo, hi, hz1, cutA, h1, h2, addr_add1]

/-- Block b is a bytes.Buffer with this state, whatever its numbers. -/
structure BufRaw (w : World) (b : Nat) (g : Gh) : Prop where
  st : w.heap[b]? = some (.cells #[.slice (rowA g.row) g.len g.all.length, .int .i64 (g.off : Int), .int .i8 g.lr] 96 (0, 0))
  row : ∀ r, g.row = some r → Row 5 w r g.all
  nil : g.row = none → g.all = []
  sz : g.all.length ≤ 9223372036854775807

/-- Block b is a bytes.Buffer with this state. -/
structure BufAt (w : World) (b : Nat) (g : Gh) : Prop extends BufRaw w b g where
  ol : g.off ≤ g.len
  lc : g.len ≤ g.all.length

/-- What is unread. -/
def Gh.txt (g : Gh) : List UInt8 := (g.all.take g.len).drop g.off
/-- The blocks that a buffer lies in. -/
def Gh.foot (b : Nat) (g : Gh) : Nat → Prop := fun x => x = b ∨ g.row = some x

section
variable {w w' : World} {b : Nat} {g : Gh}
theorem BufRaw.lt (h : BufRaw w b g) : b < w.heap.size := lt_of_blk h.st
theorem BufRaw.c0 (h : BufRaw w b g) : w.cell? ⟨b, 0, none⟩ = some (.slice (rowA g.row) g.len g.all.length) := by rw [cell_of_row w b 0 _ _ _ h.st]; rfl
theorem BufRaw.c1 (h : BufRaw w b g) : w.cell? ⟨b, 1, none⟩ = some (.int .i64 (g.off : Int)) := by rw [cell_of_row w b 1 _ _ _ h.st]; rfl
theorem BufRaw.c2 (h : BufRaw w b g) : w.cell? ⟨b, 2, none⟩ = some (.int .i8 g.lr) := by rw [cell_of_row w b 2 _ _ _ h.st]; rfl
theorem BufRaw.f (h : BufRaw w b g) (i : Nat) : w.frozen? ⟨b, i, none⟩ = false := by simp [World.frozen?, h.st]
theorem BufRaw.rne (h : BufRaw w b g) {r : Nat} (hr : g.row = some r) : r ≠ b := (h.row r hr).ne_blk h.st (by decide)
theorem BufRaw.rlt (h : BufRaw w b g) {r : Nat} (hr : g.row = some r) : r < w.heap.size := (h.row r hr).lt
theorem BufRaw.fr {S : Nat → Prop} (h : BufRaw w b g) (hf : Fr S w w') (hn : ∀ x, g.foot b x → ¬ S x) : BufRaw w' b g :=
  ⟨hf.blk h.st (hn b (.inl rfl)), fun r hr => (h.row r hr).fr hf (hn r (.inr hr)), h.nil, h.sz⟩
theorem BufRaw.of_heap (h : BufRaw w b g) (hh : w'.heap = w.heap) : BufRaw w' b g :=
  ⟨by rw [hh]; exact h.st, fun r hr => (h.row r hr).of_block (by rw [hh]), h.nil, h.sz⟩
theorem BufRaw.alloc (h : BufRaw w b g) (o : Obj) : BufRaw (w.alloc o) b g := h.fr ((Fr.refl (fun _ => False) w).alloc o) (fun _ _ q => q)
theorem BufAt.fr {S : Nat → Prop} (h : BufAt w b g) (hf : Fr S w w') (hn : ∀ x, g.foot b x → ¬ S x) : BufAt w' b g := ⟨h.toBufRaw.fr hf hn, h.ol, h.lc⟩
theorem BufAt.drewN (h : BufAt w b g) (n : Nat) : BufAt (w.drewN n) b g := ⟨h.toBufRaw.of_heap rfl, h.ol, h.lc⟩
theorem BufAt.drew (h : BufAt w b g) : BufAt w.drew b g := ⟨h.toBufRaw.of_heap rfl, h.ol, h.lc⟩
theorem BufRaw.foot_lt (h : BufRaw w b g) {x : Nat} (hx : g.foot b x) : x < w.heap.size := by
  rcases hx with rfl | hx
  · exact h.lt
  · exact h.rlt hx
/-- The struct's cells laid anew. -/
theorem BufRaw.put0 (h : BufRaw w b g) (n : Nat) : BufRaw (w.setCell ⟨b, 0, none⟩ (.slice (rowA g.row) n g.all.length)) b { g with len := n } := by
  refine ⟨?_, fun r hr => (h.row r hr).setCell_far (h.rne hr) _, h.nil, h.sz⟩
  have := h.st
  simp [World.setCell, Array.getElem?_modify, this]
theorem BufRaw.put1 (h : BufRaw w b g) (n : Nat) : BufRaw (w.setCell ⟨b, 1, none⟩ (.int .i64 (n : Int))) b { g with off := n } := by
  refine ⟨?_, fun r hr => (h.row r hr).setCell_far (h.rne hr) _, h.nil, h.sz⟩
  have := h.st
  simp [World.setCell, Array.getElem?_modify, this]
theorem BufRaw.put2 (h : BufRaw w b g) (n : Int) : BufRaw (w.setCell ⟨b, 2, none⟩ (.int .i8 n)) b { g with lr := n } := by
  refine ⟨?_, fun r hr => (h.row r hr).setCell_far (h.rne hr) _, h.nil, h.sz⟩
  have := h.st
  simp [World.setCell, Array.getElem?_modify, this]
/-- A new row of bytes in the struct. -/
theorem BufRaw.putRow (h : BufRaw w b g) {r : Nat} {l : List UInt8} (n : Nat) (hr : Row 5 w r l) (hl : l.length ≤ 9223372036854775807) : BufRaw (w.setCell ⟨b, 0, none⟩ (.slice (some ⟨r, 0, none⟩) n l.length)) b { g with row := some r, all := l, len := n } := by
  have hne : r ≠ b := hr.ne_blk h.st (by decide)
  refine ⟨?_, fun r' hr' => ?_, (fun q => by cases q), hl⟩
  · have := h.st
    simp [World.setCell, Array.getElem?_modify, this]
  · simp only [Option.some.injEq] at hr'
    subst hr'
    exact hr.setCell_far hne _
/-- The row's bytes laid anew. -/
theorem BufRaw.putAll (h : BufRaw w b g) {r : Nat} {l : List UInt8} (hr : g.row = some r) (hf : Fr (Just r) w w') (hrow : Row 5 w' r l) (hl : l.length = g.all.length) : BufRaw w' b { g with all := l } := by
  refine ⟨?_, fun r' hr' => ?_, fun q => ?_, by rw [hl]; exact h.sz⟩
  · simp only [hl]
    exact hf.blk h.st (fun q => h.rne hr q.symm)
  · simp only [hr, Option.some.injEq] at hr'
    subst hr'
    exact hrow
  · simp only [hr] at q
    cases q
end

section
variable (w : World) (b : Nat) (g : Gh)
theorem buf_len (h : BufAt w b g) : Calls Tryz.prog 93 #[.pointer (some ⟨b, 0, none⟩)] w fun e w' => e = .returned (.int .i64 ((g.len : Int) - (g.off : Int))) ∧ ∃ k, w' = w.drewN k := by
  have h0 := h.c0; have h1 := h.c1; have ho := h.ol; have hl := h.lc; have hz := h.sz
  clear h
  go_enter Tryz.func93, Tryz.ntmps93
  go_wp2
  go_quiet (fail)
  go_wp2
  go_ret
  exact ⟨rfl, _, rfl⟩

theorem buf_empty (h : BufAt w b g) : Calls Tryz.prog 104 #[.pointer (some ⟨b, 0, none⟩)] w fun e w' => e = .returned (.bool (decide (g.len ≤ g.off))) ∧ ∃ k, w' = w.drewN k := by
  have h0 := h.c0; have h1 := h.c1; have ho := h.ol; have hl := h.lc; have hz := h.sz
  clear h
  go_enter Tryz.func104, Tryz.ntmps104
  go_wp2
  go_quiet (fail)
  go_wp2
  go_ret
  exact ⟨by simp, _, rfl⟩

theorem buf_reset (h : BufAt w b g) : Calls Tryz.prog 91 #[.pointer (some ⟨b, 0, none⟩)] w fun e w' => e = .returned (.tuple #[]) ∧ BufAt w' b { g with len := 0, off := 0, lr := 0 } ∧ Fr (Just b) w w' := by
  have h0 := h.c0; have h1 := h.c1; have h2 := h.c2; have f0 := h.f 0; have f1 := h.f 1; have f2 := h.f 2
  have hz := h.sz
  have H := Lib.hid h
  clear h
  go_enter Tryz.func91, Tryz.ntmps91
  go_wp2
  go_end0
  refine ⟨rfl, ⟨((H.out.toBufRaw.put0 0).put1 0).put2 0, Nat.le_refl _, Nat.zero_le _⟩, ?_⟩
  exact (((Fr.refl _ w).setCell (fun _ => just_self b) _).setCell (fun _ => just_self b) _).setCell (fun _ => just_self b) _

theorem buf_try_yes (n : Nat) (h : BufAt w b g) (hn : n ≤ g.all.length - g.len) :
    Calls Tryz.prog 98 #[.pointer (some ⟨b, 0, none⟩), .int .i64 (n : Int)] w fun e w' => e = .returned (.tuple #[.int .i64 (g.len : Int), .bool true]) ∧ BufAt w' b { g with len := g.len + n } ∧ Fr (Just b) w w' := by
  have h0 := h.c0; have f0 := h.f 0; have ho := h.ol; have hl := h.lc; have hz := h.sz
  have H := Lib.hid h
  clear h
  go_enter Tryz.func98, Tryz.ntmps98
  go_wp2
  go_ret2
  refine ⟨rfl, ⟨?_, ?_, ?_⟩, ?_⟩
  · exact H.out.toBufRaw.put0 _
  · simp; omega
  · simp; omega
  · exact (Fr.refl _ w).setCell (fun _ => just_self b) _

theorem buf_try_no (n : Nat) (h : BufAt w b g) (hn : g.all.length - g.len < n) :
    Calls Tryz.prog 98 #[.pointer (some ⟨b, 0, none⟩), .int .i64 (n : Int)] w fun e w' => e = .returned (.tuple #[.int .i64 0, .bool false]) ∧ w = w' := by
  have h0 := h.c0; have f0 := h.f 0; have ho := h.ol; have hl := h.lc; have hz := h.sz
  clear h
  go_enter Tryz.func98, Tryz.ntmps98
  go_wp2
  go_ret2
  exact ⟨rfl, rfl⟩
end
end Go.Proofs.YtbodbajgpgaoeaaGreatDoor

namespace Go.Proofs.YtbodbajgpgaoeaaGreatDoor
open Go Go.RowKit

/-- make of bytes, over this program. -/
theorem mk_bytes (l c : Nat) (hl : l ≤ c) (hc : c ≤ 281474976710656) (w : World) :
    (Instr.makeSlice 40 (.int .i64 (l : Int)) (.int .i64 (c : Int))).run Tryz.prog w = .ok (.slice (some ⟨w.heap.size, 0, none⟩) l c) (w.alloc (zrow 5 c)) := by
  obtain ⟨i0, hi, hz0, hz1, hz2⟩ := info_parts info_u8
  exact run_make_bytes Tryz.underlying40 hi hz0 hz1 hz2 .i64 .i64 l c hl hc w

section
variable {w : World} {ops : Array Oper} {rest : List Oper} {o : Oper} {a : Act} {Q : Exit → Act → World → Prop}
/-- copy of bytes into a row, as a step of a walk over this program. -/
theorem wpList_copy8 (hgd : o.guard = none) (d s : Operand) (sT : TypeId) (ho : o.op = .call { callee := .builtin .copy, args := #[d, s], argTypes := #[40, sT] })
    (r off n c k : Nat) (all l : List UInt8) (D : Option Addr) (v : Value) (hd : a.eval d = .slice D n c) (hs : a.eval s = v) (hrow : Row 5 w r all) (hsrc : Src w v l) (hk : Nat.min l.length n = k)
    (hD : 0 < k → D = some ⟨r, off, none⟩) (hfit : off + k ≤ all.length)
    (h : ∀ w', Row 5 w' r (splice all off (l.take k)) → Fr (Just r) w w' → wpList Tryz.prog ops Q rest (a.put o.dst (.int .i64 (k : Int))) w') : wpList Tryz.prog ops Q (o :: rest) a w := by
  obtain ⟨i0, hi, hz0, hz1, hz2⟩ := info_parts info_u8
  exact wpList_copyB hgd d s 40 sT ho 5 i0 Tryz.underlying40 hi hz1 r off n c k all l D v hd hs hrow hsrc hk hD hfit h
end

theorem growSlice_catch_idle (w : World) :
    CallsD Tryz.prog 117 #[] .returning w fun e u' w' => e = .returned (.tuple #[]) ∧ u' = .returning ∧ w' = w := by
  have hnn : ∀ w, (binOp .neq 20 .nilIface .nilIface).run Tryz.prog w = .ok (.bool false) w := fun w => Lib.run_neq_nil_nil w Tryz.underlying20
  refine callsD_of_wpS Tryz.func117 rfl fun c₀ cs hu => ?_
  apply wpS_seq
  apply wpS_region
  simp [wpOpsS, go_sem, recoverD, hu, hnn, Tryz.ntmps117, Exit.thenS]
  refine wpS_cond (t := false) (by simp [Act.eval, Array.replicate]) ?_
  simp only [Bool.false_eq_true, if_false]
  refine wpS_of_wp (wp_skip ?_)
  cases c₀
  simp_all [bodyPostS, results, Tryz.results117]

set_option maxHeartbeats 1600000 in
set_option maxRecDepth 100000 in
/-- growSlice: a new row that begins with the slice's bytes and has room for n more. -/
theorem growSlice_any (A : Option Addr) (c n C : Nat) (l : List UInt8) (w : World) (hs : Src w (.slice A l.length c) l) (hn : 1 ≤ n) (hl : l.length + n ≤ 281474976710656) (hc : c ≤ 140737488355328)
    (hC : C = if l.length + n < 2 * c then 2 * c else l.length + n) :
    Calls Tryz.prog 109 #[.slice A l.length c, .int .i64 (n : Int)] w fun e w' => ∃ (rest : List UInt8), e = .returned (.slice (some ⟨w.heap.size, 0, none⟩) l.length (l ++ rest).length) ∧
      Row 5 w' w.heap.size (l ++ rest) ∧ l.length + n ≤ (l ++ rest).length ∧ (l ++ rest).length ≤ 9223372036854775807 ∧ Fr (fun _ => False) w w' := by
  obtain ⟨i0, hi, hz0, hz1, hz2⟩ := info_parts info_u8
  have hC1 : 1 ≤ C ∧ C ≤ 281474976710656 ∧ l.length + n ≤ C := by subst hC; split <;> omega
  have happ := Lib.run_append_nil_zeros (P := Tryz.prog) w 40 3 40 5 i0 (.int .u8 0) .i64 .i64 Tryz.underlying40 Tryz.underlying3 hi hz0 C (by omega) (by omega) (by omega) (by rw [hz2]; omega)
  rw [zeroCells_bcs, zeroCells_bcs] at happ
  have hge := grownCap_ge w C 0 5
  have hle := grownCap_le_maxLen w C 0 5 (by unfold maxLen; omega)
  generalize grownCap w C 0 5 = cap2 at happ hge hle
  unfold maxLen at hle
  have hzz : (bcs (List.replicate C 0)).toArray ++ (bcs (List.replicate (cap2 - C) 0)).toArray = (bcs (List.replicate cap2 0)).toArray := by
    rw [List.append_toArray, ← bcs_append, List.replicate_append_replicate, show C + (cap2 - C) = cap2 by omega]
  rw [hzz] at happ
  have hw1 : w.drew.alloc (.cells (bcs (List.replicate cap2 0)).toArray 5) = (w.alloc (.cells (bcs (List.replicate cap2 0)).toArray 5)).drew := rfl
  rw [hw1] at happ
  have hrow : Row 5 (w.alloc (.cells (bcs (List.replicate cap2 0)).toArray 5)).drew w.heap.size (List.replicate cap2 0) := (Row.new w 5 _).drew
  have hf1 : Fr (fun _ => False) w (w.alloc (.cells (bcs (List.replicate cap2 0)).toArray 5)).drew := ((Fr.refl _ w).alloc _).drew
  have hs1 : Src (w.alloc (.cells (bcs (List.replicate cap2 0)).toArray 5)).drew (.slice A l.length c) l := by
    rcases hs with h | ⟨A', c', h, hh⟩
    · cases h
    · injection h with h1 h2 h3
      subst h1
      refine .inr ⟨A, c, rfl, fun h0 => ?_⟩
      obtain ⟨ad, rfl, hc⟩ := hh h0
      exact ⟨ad, rfl, fun j x hx => (hf1.cell (World.block_lt_of_cell? _ _ (hc j x hx)) (fun q => q)).trans (hc j x hx)⟩
  obtain ⟨w2, hcopy, hrow2, hfr2⟩ := run_copy_bytes (P := Tryz.prog) (sT := 40) (ty := 3) (n := C) (c := cap2) (k := l.length) (o := 0) (D := some ⟨w.heap.size, 0, none⟩) Tryz.underlying40 hi hz1 hrow hs1
    (Nat.min_eq_left (by omega)) (fun _ => rfl) (by simp; omega)
  generalize (w.alloc (.cells (bcs (List.replicate cap2 0)).toArray 5)).drew = w1 at happ hrow hf1 hs1 hcopy hrow2 hfr2
  have hfin : Fr (fun _ => False) w w2 := hf1.trans' hfr2 (fun i hi q => by unfold Just at q; omega)
  have hcells : splice (List.replicate cap2 (0 : UInt8)) 0 (l.take l.length) = l ++ List.replicate (cap2 - l.length) 0 := by
    simp [splice]
  rw [hcells] at hrow2
  have hlen2 : (l ++ List.replicate (cap2 - l.length) (0 : UInt8)).length = cap2 := by simp; omega
  have HC := Lib.hid hC
  clear hC hs hs1 hrow hcells hf1 hfr2 hzz hw1
  have HR := Lib.hid hrow2
  clear hrow2
  have HF := Lib.hid hfin
  clear hfin
  have HL := Lib.hid hlen2
  clear hlen2
  by_cases hb : l.length + n < 2 * c
  · obtain rfl : C = 2 * c := by rw [HC.out, if_pos hb]
    rw [show (((2 * c : Nat)) : Int) = 2 * (c : Int) by omega] at happ
    go_enter_defers Tryz.func109, Tryz.ntmps109
    go_wp2_with (at_builtin; refine wpList_plain rfl (fun K hK => wp_append_of_run _ _ _ _ rfl rfl rfl happ (hK _ _ ?_)))
    refine leaves_cons (f := 117) (args := #[]) (by simp) (by simp [go_sem]) ?_
    refine (growSlice_catch_idle _).mono ?_
    rintro e u' w'' ⟨rfl, rfl, rfl⟩
    refine ⟨_, results_tmp rfl _ _ _, List.replicate (cap2 - l.length) 0, ?_, HR.out, ?_, ?_, HF.out⟩
    · rw [HL.out]; rfl
    · rw [HL.out]; omega
    · rw [HL.out]; omega
  · obtain rfl : C = l.length + n := by rw [HC.out, if_neg hb]
    rw [show (((l.length + n : Nat)) : Int) = (l.length : Int) + (n : Int) by omega] at happ
    go_enter_defers Tryz.func109, Tryz.ntmps109
    go_wp2_with (at_builtin; refine wpList_plain rfl (fun K hK => wp_append_of_run _ _ _ _ rfl rfl rfl happ (hK _ _ ?_)))
    refine leaves_cons (f := 117) (args := #[]) (by simp) (by simp [go_sem]) ?_
    refine (growSlice_catch_idle _).mono ?_
    rintro e u' w'' ⟨rfl, rfl, rfl⟩
    refine ⟨_, results_tmp rfl _ _ _, List.replicate (cap2 - l.length) 0, ?_, HR.out, ?_, ?_, HF.out⟩
    · rw [HL.out]; rfl
    · rw [HL.out]; omega
    · rw [HL.out]; omega

/-- What growSlice leaves: a new row that begins with the bytes l and has room for n more. -/
def GSPost (w : World) (l : List UInt8) (k n : Nat) (e : Ending) (w' : World) : Prop :=
  ∃ (r2 : Nat) (all2 : List UInt8), e = .returned (.slice (some ⟨r2, 0, none⟩) k all2.length) ∧ w.heap.size ≤ r2 ∧ Row 5 w' r2 all2 ∧ all2.take k = l ∧ k + n ≤ all2.length ∧ all2.length ≤ 9223372036854775807 ∧ Fr (fun _ => False) w w'
theorem growSlice_at (A : Option Addr) (k c n : Nat) (z : Int) (l : List UInt8) (w : World) (hs : Src w (.slice A k c) l) (hk : l.length = k) (hz : z = (n : Int)) (hn : 1 ≤ n) (hl : k + n ≤ 281474976710656) (hc : c ≤ 140737488355328) :
    Calls Tryz.prog 109 #[.slice A k c, .int .i64 z] w (GSPost w l k n) := by
  subst hk hz
  refine (growSlice_any A c n _ l w hs hn hl hc rfl).mono ?_
  rintro e w' ⟨rest, rfl, h1, h2, h3, h4⟩
  exact ⟨_, _, rfl, Nat.le_refl _, h1, by simp, h2, h3, h4⟩
end Go.Proofs.YtbodbajgpgaoeaaGreatDoor

namespace Go.Proofs.YtbodbajgpgaoeaaGreatDoor
open Go

section
variable {P : Program} {ops : Array Oper} {md : Region.Mode} {w : World}

/-- A plain move. -/
def isMv (o : Oper) : Bool := match o.op with
  | .move _ => o.after.isEmpty && o.guard.isNone
  | _ => false

theorem isMv_yields {o : Oper} (h : isMv o = true) (a : Act) : ∃ v, Yields P ops o v a ∧ ∀ (K : Act → Prop), (if Region.wanted o (yielded ops a.tmps) then o.still P a w K else K (a.put o.dst undef)) → K (a.put o.dst v) := by
  unfold isMv at h
  split at h
  · rename_i x hx
    simp only [Bool.and_eq_true, Array.isEmpty_iff, Option.isNone_iff_eq_none] at h
    have hw : Region.wanted o (yielded ops a.tmps) = true := by simp [Region.wanted, h.2]
    have hr : ∀ w', (execOp a.eval o).run P w' = .ok (.value (a.eval x)) w' := by intro w'; simp [execOp, hx]
    refine ⟨a.eval x, .inl ⟨hw, hr⟩, fun K hK => ?_⟩
    rw [hw, if_pos rfl, Oper.still, hr] at hK
    exact hK.2
  · cases h

/-- The moves, one by one. -/
def mvB (md : Region.Mode) (ops : Array Oper) : List Nat → Array Bool → Bool
  | [], _ => true
  | k :: ks, listed => (Region.ready md ops listed).contains k && Region.free md ops listed k && ((ops[k]?).map isMv).getD false && mvB md ops ks (listed.setIfInBounds k true)
def listAll : List Nat → Array Bool → Array Bool
  | [], listed => listed
  | k :: ks, listed => listAll ks (listed.setIfInBounds k true)
def opsAt (ops : Array Oper) (ks : List Nat) : List Oper := ks.filterMap (ops[·]?)

theorem wpAny_moves {Q : Exit → Act → World → Prop} (hsel : Region.noSelect ops = true) (hQ : ∀ c (a : Act) d v w, Q (.panic c) (a.put d v) w → Q (.panic c) a w) {f : Nat} {R : Act → Prop} :
    ∀ (ks : List Nat) (listed : Array Bool) (a : Act), mvB md ops ks listed = true → (∀ a, R a → wpAny P md ops Q f (listAll ks listed) a w) →
    wpStill P ops w R (opsAt ops ks) a → wpAny P md ops Q (ks.length + f) listed a w
  | [], listed, a, _, hR, h => by rw [List.length_nil, Nat.zero_add]; exact hR a h
  | k :: ks, listed, a, hB, hR, h => by
    simp only [mvB, Bool.and_eq_true] at hB
    obtain ⟨⟨⟨hr, hf⟩, hv⟩, hB'⟩ := hB
    cases ho : ops[k]? with
    | none => rw [ho] at hv; cases hv
    | some o =>
      rw [ho] at hv
      have hv : isMv o = true := by simpa using hv
      obtain ⟨v, hy, hK⟩ := isMv_yields (P := P) (ops := ops) (w := w) hv a
      have he : opsAt ops (k :: ks) = o :: opsAt ops ks := by simp [opsAt, ho]
      rw [he] at h
      have h2 := hK _ h
      rw [show (k :: ks).length + f = (ks.length + f) + 1 by simp; omega]
      exact wpAny_take ho hsel hf hr (fun c a w => hQ c a _ _ w) hy (wpAny_moves hsel hQ ks _ _ hB' hR h2)

/-- The tail begins at n; the moves ks come first. -/
def sinkM (md : Region.Mode) (ops : Array Oper) (ks : List Nat) (n : Nat) : Bool :=
  (List.range n).all fun i => ks.contains i || (List.range (n + 1)).any fun j => decide (i < j) && Region.waitsFor md ops j i

structure MixInv (md : Region.Mode) (ops : Array Oper) (ks : List Nat) (n : Nat) (listed : Array Bool) : Prop extends HeadInv md ops n listed where
  mv : ∀ k ∈ ks, listed.getD k false = true

theorem mix_waits {ks : List Nat} {n : Nat} {listed : Array Bool} (hs : sinkM md ops ks n = true) (hc : Region.chainB md ops n = true) (inv : MixInv md ops ks n listed) :
    ∀ (d i : Nat), n - i = d → i < n → listed.getD i true = false → ∀ t, n ≤ t → t ∉ Region.ready md ops listed := by
  intro d
  induction d using Nat.strongRecOn with
  | _ d ih =>
    intro i hd hi hun t ht hr
    obtain ⟨_, ot, hot, hall⟩ := mem_ready.1 hr
    have htlt : t < ops.size := (Array.getElem?_eq_some_iff.1 hot).1
    by_cases htn : t = n
    · subst htn
      have h1 := List.all_eq_true.1 hs i (List.mem_range.2 hi)
      simp only [Bool.or_eq_true] at h1
      rcases h1 with h1 | h1
      · have := inv.mv i (by simpa using h1)
        rw [getD_both hun] at this
        cases this
      obtain ⟨j, hj, hj2⟩ := List.any_eq_true.1 h1
      simp only [Bool.and_eq_true, decide_eq_true_eq] at hj2
      obtain ⟨oj, hoj, e, he, hb, hon⟩ := Region.waitsFor_spec hj2.2
      have hjle : j ≤ t := by have := List.mem_range.1 hj; omega
      by_cases hjt : j = t
      · subst hjt
        have : oj = ot := Option.some.inj (hoj.symm.trans hot)
        subst this
        have h2 := hall e he hb
        rw [hon, getD_both hun] at h2
        cases h2
      · cases hl : listed.getD j false with
        | true =>
          have h2 := inv.closed j oj hoj hl e he hb
          rw [hon, getD_both hun] at h2
          cases h2
        | false =>
          have hjs : j < listed.size := by rw [inv.size]; omega
          exact ih (t - j) (by omega) j rfl (by omega) (getD_in hjs hl) t (Nat.le_refl _) hr
    · have h1 := List.all_eq_true.1 hc t (List.mem_range.2 htlt)
      simp only [Bool.or_eq_true, decide_eq_true_eq] at h1
      rcases h1 with h1 | h1
      · omega
      · obtain ⟨o', ho', e, he, hb, hon⟩ := Region.waitsFor_spec h1
        have : o' = ot := Option.some.inj (ho'.symm.trans hot)
        subst this
        have h2 := hall e he hb
        rw [hon, getD_both (inv.tail (t - 1) (by omega) (by omega))] at h2
        cases h2

theorem MixInv.set {ks : List Nat} {n i : Nat} {listed : Array Bool} (inv : MixInv md ops ks n listed) (hi : i ∈ Region.ready md ops listed) (hin : i < n) : MixInv md ops ks n (listed.setIfInBounds i true) :=
  ⟨inv.toHeadInv.set hi hin, fun k hk => getD_set_true (inv.mv k hk)⟩

theorem mix_first {ks : List Nat} {n i : Nat} {oi : Oper} {v : Value} {L : Array Bool → Act → Prop} (hi : ops[i]? = some oi) (hsel : ∀ (j : Nat) (o : Oper) cs b, ops[j]? = some o → o.op ≠ .select cs b)
    (hs : sinkM md ops ks n = true) (hc : Region.chainB md ops n = true) (hin : i < n)
    (hdone : ∀ listed a, L listed a → ∀ j ∈ Region.ready md ops listed, n ≤ j) :
    ∀ (f : Nat) (listed : Array Bool) (a : Act), MixInv md ops ks n listed →
      (∀ j oj, ops[j]? = some oj → j ≠ i → listed.getD j true = false → (∀ e ∈ oj.after, Region.binds md e = true → e.on ≠ i) → oi.apart ops oj = true) →
      i ∈ Region.ready md ops listed → YieldsAt P ops w oi v a →
      wpAnyL P md ops w n L f (listed.setIfInBounds i true) (a.put oi.dst v) → wpAnyL P md ops w n L (f + 1) listed a := by
  intro f
  induction f with
  | zero =>
    intro listed a inv _ hr hy H
    have hun := (mem_ready.1 hr).1
    refine ⟨fun h => (by rw [h] at hr; cases hr), fun j hj => ?_⟩
    have hjn : j < n := by
      rcases Nat.lt_or_ge j n with h | h
      · exact h
      · exact absurd hj (mix_waits hs hc inv _ i rfl hin hun j h)
    refine ⟨hjn, ?_⟩
    by_cases hji : j = i
    · subst hji; exact hy.stOp hi H
    · have := hdone _ _ H j (ready_mono hj hji)
      omega
  | succ f ih =>
    intro listed a inv hfree hr hy H
    have hun := (mem_ready.1 hr).1
    refine ⟨fun h => (by rw [h] at hr; cases hr), fun j hj => ?_⟩
    have hjn : j < n := by
      rcases Nat.lt_or_ge j n with h | h
      · exact h
      · exact absurd hj (mix_waits hs hc inv _ i rfl hin hun j h)
    refine ⟨hjn, ?_⟩
    by_cases hji : j = i
    · subst hji; exact hy.stOp hi H
    · have h1 := (H.2 j (ready_mono hj hji)).2
      obtain ⟨hjun, oj, hoj, hall⟩ := mem_ready.1 hj
      have hnot : ∀ e ∈ oj.after, Region.binds md e = true → e.on ≠ i := fun e he hb heq => by
        have h1 := hall e he hb
        rw [heq, getD_both hun] at h1
        cases h1
      have h2 := stOp_put hoj (hfree j oj hoj hji hjun hnot) (fun cs b => hsel i oi cs b hi) (fun cs b => hsel j oj cs b hoj) hy h1
      have hfree' : ∀ k ok, ops[k]? = some ok → k ≠ i → (listed.setIfInBounds j true).getD k true = false →
          (∀ e ∈ ok.after, Region.binds md e = true → e.on ≠ i) → oi.apart ops ok = true := fun k ok hk hki hun hno => by
        refine hfree k ok hk hki ?_ hno
        by_cases hjk : j = k
        · subst hjk; exact hjun
        · rw [getD_set_ne true hjk] at hun; exact hun
      refine stOp_mono (fun a' h3 => ih (listed.setIfInBounds j true) a' (inv.set hj hjn) hfree' (ready_mono hr (Ne.symm hji)) h3.1 ?_) h2
      rw [Array.setIfInBounds_comm _ _ hji]
      exact h3.2

/-- The head's order, the numbers given. -/
def headB (md : Region.Mode) (ops : Array Oper) (g n : Nat) : List Nat → Array Bool → Bool
  | [], listed => Region.seqB md ops g n listed
  | k :: ks, listed => (Region.ready md ops listed).contains k && Region.free md ops listed k && decide (k < n) && headB md ops g n ks (listed.setIfInBounds k true)

theorem mix_lex {ks : List Nat} {n g : Nat} {Lq : Act → Prop} (hsel : Region.noSelect ops = true) (hs : sinkM md ops ks n = true) (hc : Region.chainB md ops n = true) :
    ∀ (hd : List Nat) (listed : Array Bool) (a : Act), MixInv md ops ks n listed → headB md ops g n hd listed = true → wpStill P ops w Lq (opsAt ops hd) a →
    wpAnyL P md ops w n (fun listed' a' => Region.seqB md ops g n listed' = true ∧ Lq a') hd.length listed a
  | [], listed, a, _, hB, h => ⟨hB, h⟩
  | k :: hd, listed, a, inv, hB, h => by
    simp only [headB, Bool.and_eq_true, decide_eq_true_eq] at hB
    obtain ⟨⟨⟨hr, hf⟩, hkn⟩, hB'⟩ := hB
    have hr' : k ∈ Region.ready md ops listed := by simpa using hr
    obtain ⟨_, o, h0, _⟩ := mem_ready.1 hr'
    have he : opsAt ops (k :: hd) = o :: opsAt ops hd := by simp [opsAt, h0]
    rw [he] at h
    have hst : stOp P ops w k (wpStill P ops w Lq (opsAt ops hd)) a := by unfold stOp; simp only [h0]; exact h
    obtain ⟨v, hy, hK⟩ := yieldsAt_of_stOp h0 hst
    exact mix_first h0 (Region.noSelect_spec hsel) hs hc hkn (fun listed' a' hL => seqB_ready hL.1) hd.length listed a inv (Region.free_spec h0 hf) hr' hy
      (mix_lex hsel hs hc hd _ _ (inv.set hr' hkn) hB' hK)

/-- Which operations ahead of n are plain moves. -/
def mvIdx (l : List Oper) (n : Nat) : List Nat := (List.range n).filter fun k => ((l[k]?).map isMv).getD false
def hdIdx (l : List Oper) (n : Nat) : List Nat := (List.range n).filter fun k => !((l[k]?).map isMv).getD false
def noDeps (ops : Array Oper) (ks : List Nat) : Bool := ks.all fun k => ((ops[k]?).map (·.after.isEmpty)).getD false
def mixB (l : List Oper) (n : Nat) : Bool :=
  Region.noSelect l.toArray && decide (n < l.length) && mvB .any l.toArray (mvIdx l n) (Array.replicate l.length false) && noDeps l.toArray (mvIdx l n) && sinkM .any l.toArray (mvIdx l n) n && Region.chainB .any l.toArray n
    && headB .any l.toArray (l.length - n) n (hdIdx l n) (listAll (mvIdx l n) (Array.replicate l.length false)) && decide ((mvIdx l n).length + (hdIdx l n).length = n) && decide ((mvIdx l n).all (· < n))

theorem listAll_size : ∀ (ks : List Nat) (listed : Array Bool), (listAll ks listed).size = listed.size
  | [], _ => rfl
  | k :: ks, listed => by rw [listAll, listAll_size ks]; simp
theorem listAll_mono : ∀ (ks : List Nat) (listed : Array Bool) (j : Nat), listed.getD j false = true → (listAll ks listed).getD j false = true
  | [], _, _, h => h
  | k :: ks, listed, j, h => by rw [listAll]; exact listAll_mono ks _ j (getD_set_true h)
theorem listAll_mem : ∀ (ks : List Nat) (listed : Array Bool) (k : Nat), k ∈ ks → k < listed.size → (listAll ks listed).getD k false = true
  | [], _, _, h, _ => by cases h
  | k' :: ks, listed, k, h, hk => by
    rw [listAll]
    rcases List.mem_cons.1 h with rfl | h
    · exact listAll_mono ks _ _ (by simp [hk])
    · exact listAll_mem ks _ k h (by simpa using hk)
theorem listAll_only : ∀ (ks : List Nat) (listed : Array Bool) (j : Nat), (listAll ks listed).getD j false = true → j ∈ ks ∨ listed.getD j false = true
  | [], _, _, h => .inr h
  | k :: ks, listed, j, h => by
    rw [listAll] at h
    rcases listAll_only ks _ j h with h | h
    · exact .inl (List.mem_cons_of_mem _ h)
    · by_cases e : k = j
      · exact .inl (by rw [e]; exact List.mem_cons_self)
      · rw [getD_set_ne false e] at h; exact .inr h

/-- The region: its moves, then what it reads, then its tail. -/
theorem wp_region_mix {id : Nat} {Q : Exit → Act → World → Prop} {a : Act} {w : World} {l : List Oper} (n : Nat) (hm : P.follows .mixedOrders = true) (hB : mixB l n = true)
    (hQ : ∀ c (a : Act) d v w, Q (.panic c) (a.put d v) w → Q (.panic c) a w)
    (h : wpStill P l.toArray w.drew (fun a' => wpStill P l.toArray w.drew (fun a'' => wpList P l.toArray Q (l.drop n) a'' w.drew) (opsAt l.toArray (hdIdx l n)) a') (opsAt l.toArray (mvIdx l n)) a) :
    (Code.region id l.toArray true).wp P Q a w := by
  simp only [mixB, Bool.and_eq_true, decide_eq_true_eq] at hB
  obtain ⟨⟨⟨⟨⟨⟨⟨⟨hsel, hn⟩, hmv⟩, hnd⟩, hs⟩, hc⟩, hhd⟩, hlen⟩, hlt⟩ := hB
  refine wp_region_any hm ?_
  have hsz : l.toArray.size = (mvIdx l n).length + ((hdIdx l n).length + (l.length - n)) := by simp; omega
  suffices H : wpAny P .any l.toArray Q ((mvIdx l n).length + ((hdIdx l n).length + (l.length - n))) (Array.replicate l.length false) a w.drew by
    rw [← hsz] at H
    simpa using H
  refine wpAny_moves hsel hQ (mvIdx l n) _ a hmv (fun a' ha => ?_) h
  have inv0 : MixInv .any l.toArray (mvIdx l n) n (listAll (mvIdx l n) (Array.replicate l.length false)) := by
    refine ⟨⟨by rw [listAll_size]; simp, fun j oj hj hl e he _ => ?_, fun t ht ht' => ?_⟩, fun k hk => ?_⟩
    · rcases listAll_only _ _ _ hl with h1 | h1
      · have := List.all_eq_true.1 hnd j h1
        rw [hj] at this
        simp only [Option.map_some, Option.getD_some, Array.isEmpty_iff] at this
        rw [this] at he
        simp at he
      · rw [getD_replicate_false] at h1; cases h1
    · refine getD_in (by rw [listAll_size]; simpa using ht') ?_
      cases hq : (listAll (mvIdx l n) (Array.replicate l.length false)).getD t false with
      | false => rfl
      | true =>
        rcases listAll_only _ _ _ hq with h1 | h1
        · have := List.all_eq_true.1 hlt t h1
          simp only [decide_eq_true_eq] at this
          omega
        · rw [getD_replicate_false] at h1; cases h1
    · have := List.all_eq_true.1 hlt k hk
      simp only [decide_eq_true_eq] at this
      exact listAll_mem _ _ k hk (by simp; omega)
  have H := mix_lex (P := P) (md := .any) (w := w.drew) (g := l.length - n) hsel hs hc (hdIdx l n) _ a' inv0 hhd ha
  have hdl : (l.drop n).length = l.length - n := by simp
  have := wpAny_of_head (Q' := Q) (g := l.length - n) (fun listed a' hL => by
    have := wpAny_of_seq (md := .any) (Q' := Q) (l.drop n) n listed a' w.drew (fun j => by simp [List.getElem?_drop]) (by rw [hdl]; exact hL.1) hL.2
    rwa [hdl] at this) _ _ _ H
  simpa using this

theorem opsAt_filter (p : Oper → Bool) : ∀ (l : List Oper) (n : Nat), opsAt l.toArray ((List.range n).filter fun k => ((l[k]?).map p).getD false) = (l.take n).filter p := by
  intro l n
  have key : ∀ n, (List.filterMap (fun k => l[k]?) ((List.range n).filter fun k => ((l[k]?).map p).getD false)) = (l.take n).filter p := by
    intro n
    induction n with
    | zero => simp
    | succ n ih =>
      rw [List.range_succ, List.filter_append, List.filterMap_append, ih, List.take_add_one, List.filter_append]
      congr 1
      cases h : l[n]? with
      | none => simp [h]
      | some o => cases hp : p o <;> simp [h, hp]
  unfold opsAt
  rw [← key n]
  congr 1
  funext k
  simp
theorem opsAt_filter_not (p : Oper → Bool) (l : List Oper) (n : Nat) (hn : n ≤ l.length) : opsAt l.toArray ((List.range n).filter fun k => !((l[k]?).map p).getD false) = (l.take n).filter (fun o => !p o) := by
  rw [← opsAt_filter (fun o => !p o)]
  congr 1
  refine List.filter_congr fun k hk => ?_
  have hk : k < l.length := by have := List.mem_range.1 hk; omega
  simp [List.getElem?_eq_getElem hk]

/-- The region, as it is used: 'n' operations ahead of the tail. -/
theorem wp_region_mixed {id : Nat} {Q : Exit → Act → World → Prop} {a : Act} {w : World} {l : List Oper} (n : Nat) (hm : P.follows .mixedOrders = true) (hB : mixB l n = true)
    (hQ : ∀ c (a : Act) d v w, Q (.panic c) (a.put d v) w → Q (.panic c) a w)
    (h : wpStill P l.toArray w.drew (fun a' => wpStill P l.toArray w.drew (fun a'' => wpList P l.toArray Q (l.drop n) a'' w.drew) ((l.take n).filter (fun o => !isMv o)) a') ((l.take n).filter isMv) a) :
    (Code.region id l.toArray true).wp P Q a w := by
  refine wp_region_mix n hm hB hQ ?_
  have hn : n ≤ l.length := by
    simp only [mixB, Bool.and_eq_true, decide_eq_true_eq] at hB
    omega
  unfold mvIdx hdIdx
  rw [opsAt_filter isMv, opsAt_filter_not isMv l n hn]
  exact h
end
end Go.Proofs.YtbodbajgpgaoeaaGreatDoor
