/- MemB. -/
import Derived.WalkKit
import Derived.Laws.CopyOwn
import Derived.Lib.Hide
import Derived.Deep.Draws
import Derived.Lib.AppendZeros
import Derived.Lib.ConvBytes
import Derived.OwnWalk
namespace Go.Proofs.YtkggebhkjgjijaaGreatDoor
open Go Go.RowKit

/-- Outside the blocks of S the world w' is as w was; the streams are as they were; no block has gone. -/
structure Fr (S : Nat → Prop) (w w' : World) : Prop where
  os : w'.os = w.os
  tape : w'.tape = w.tape
  output : w'.output = w.output
  size : w.heap.size ≤ w'.heap.size
  block : ∀ k, k < w.heap.size → ¬ S k → w'.heap[k]? = w.heap[k]?

section
variable {S S' : Nat → Prop} {w w' w'' : World}
theorem Fr.refl (S : Nat → Prop) (w : World) : Fr S w w := ⟨rfl, rfl, rfl, Nat.le_refl _, fun _ _ _ => rfl⟩
theorem Fr.trans (h : Fr S w w') (k : Fr S w' w'') : Fr S w w'' :=
  ⟨k.os.trans h.os, k.tape.trans h.tape, k.output.trans h.output, Nat.le_trans h.size k.size,
    fun i hi hn => (k.block i (Nat.lt_of_lt_of_le hi h.size) hn).trans (h.block i hi hn)⟩
/-- The second step may also write what is new behind w. -/
theorem Fr.trans' (h : Fr S w w') (k : Fr S' w' w'') (hs : ∀ i, i < w.heap.size → S' i → S i) : Fr S w w'' :=
  ⟨k.os.trans h.os, k.tape.trans h.tape, k.output.trans h.output, Nat.le_trans h.size k.size,
    fun i hi hn => (k.block i (Nat.lt_of_lt_of_le hi h.size) (fun q => hn (hs i hi q))).trans (h.block i hi hn)⟩
theorem Fr.mono (h : Fr S w w') (hs : ∀ i, i < w.heap.size → S i → S' i) : Fr S' w w' :=
  ⟨h.os, h.tape, h.output, h.size, fun i hi hn => h.block i hi (fun q => hn (hs i hi q))⟩
theorem Fr.drew (h : Fr S w w') : Fr S w w'.drew := ⟨h.os, h.tape, h.output, h.size, h.block⟩
theorem Fr.drewN (h : Fr S w w') (n : Nat) : Fr S w (w'.drewN n) := ⟨h.os, h.tape, h.output, h.size, h.block⟩
theorem Fr.alloc (h : Fr S w w') (o : Obj) : Fr S w (w'.alloc o) :=
  ⟨h.os, h.tape, h.output, Nat.le_trans h.size (by simp), fun i hi hn => (Below.heap_alloc w' o i (Nat.lt_of_lt_of_le hi h.size)).trans (h.block i hi hn)⟩
theorem Fr.setCell (h : Fr S w w') {p : Addr} (hp : p.block < w.heap.size → S p.block) (u : Value) : Fr S w (w'.setCell p u) :=
  ⟨h.os, h.tape, h.output, by simpa [World.setCell] using h.size, fun i hi hn => (Below.heap_setCell w' p u i (by rintro rfl; exact hn (hp hi))).trans (h.block i hi hn)⟩
theorem Fr.setRow (h : Fr S w w') {g : Nat} (hp : g < w.heap.size → S g) (cs : Array Value) : Fr S w (w'.setRow g cs) :=
  ⟨h.os, h.tape, h.output, by simpa [World.setRow] using h.size, fun i hi hn => (setRow_other w' g i cs (by rintro rfl; exact hn (hp hi))).trans (h.block i hi hn)⟩
theorem Fr.below {B : Nat} (h : Fr S w w') (hB : B ≤ w.heap.size) (hs : ∀ i, S i → B ≤ i) : Below B w w' :=
  ⟨h.os, h.tape, h.output, h.size, fun k hk => h.block k (by omega) (fun q => by have := hs k q; omega)⟩
theorem Fr.of_below (h : Below w.heap.size w w') : Fr S w w' := ⟨h.os, h.tape, h.output, h.size, fun k hk _ => h.block k hk⟩
theorem Fr.of_grown {row : Option Nat} (h : w.grownBy w' row) (hs : ∀ i, row = some i → S i) : Fr S w w' :=
  ⟨h.os, h.tape, h.output, h.size, fun k hk hn => h.block k hk (fun e => hn (hs k e.symm))⟩
theorem Fr.cell (h : Fr S w w') {p : Addr} (hp : p.block < w.heap.size) (hn : ¬ S p.block) : w'.cell? p = w.cell? p := World.cell?_of_block (h.block p.block hp hn)
theorem lt_of_blk {b : Nat} {o : Obj} (h : w.heap[b]? = some o) : b < w.heap.size := (Array.getElem?_eq_some_iff.1 h).1
theorem Fr.blk (h : Fr S w w') {b : Nat} {o : Obj} (hb : w.heap[b]? = some o) (hn : ¬ S b) : w'.heap[b]? = some o := (h.block b (lt_of_blk hb) hn).trans hb
end

/-- This block alone. -/
def Just (b : Nat) : Nat → Prop := fun x => x = b
theorem just_self (b : Nat) : Just b b := rfl

/-- Bytes as cells. -/
def bcs (l : List UInt8) : List Value := l.map fun x => Value.int .u8 (x.toNat : Int)
@[simp] theorem bcs_length (l : List UInt8) : (bcs l).length = l.length := by simp [bcs]
theorem bcs_append (l m : List UInt8) : bcs (l ++ m) = bcs l ++ bcs m := by simp [bcs]
theorem bcs_take (l : List UInt8) (n : Nat) : bcs (l.take n) = (bcs l).take n := by simp [bcs]
theorem bcs_drop (l : List UInt8) (n : Nat) : bcs (l.drop n) = (bcs l).drop n := by simp [bcs]
theorem bcs_one (l : List UInt8) : ∀ u ∈ bcs l, u.oneCell' = true := by
  intro u hu
  simp only [bcs, List.mem_map] at hu
  obtain ⟨x, _, rfl⟩ := hu
  rfl
theorem bcs_get {l : List UInt8} {i : Nat} {x : UInt8} (h : l[i]? = some x) : (bcs l)[i]? = some (.int .u8 (x.toNat : Int)) := by simp [bcs, h]
theorem bcs_get_lt (l : List UInt8) (i : Nat) (h : i < l.length) : (bcs l)[i]? = some (.int .u8 (l[i].toNat : Int)) := bcs_get (List.getElem?_eq_getElem h)

/-- Block r is a row of the bytes l, element type E, none of them frozen. -/
def Row (E : TypeId) (w : World) (r : Nat) (l : List UInt8) : Prop :=
  ∃ fz : Nat × Nat, w.heap[r]? = some (.cells (bcs l).toArray E fz) ∧ (fz.2 ≤ fz.1 ∨ l.length ≤ fz.1)

section
variable {E : TypeId} {w w' : World} {r : Nat} {l : List UInt8}
theorem Row.lt (h : Row E w r l) : r < w.heap.size := by obtain ⟨_, h, _⟩ := h; exact lt_of_blk h
theorem Row.of_block (h : Row E w r l) (hb : w'.heap[r]? = w.heap[r]?) : Row E w' r l := by
  obtain ⟨fz, h1, h2⟩ := h
  exact ⟨fz, hb.trans h1, h2⟩
theorem Row.fr {S : Nat → Prop} (h : Row E w r l) (hf : Fr S w w') (hn : ¬ S r) : Row E w' r l := h.of_block (hf.block r h.lt hn)
theorem Row.cell (h : Row E w r l) (i : Nat) (hi : i < l.length) : w.cell? ⟨r, i, none⟩ = some (.int .u8 (l[i].toNat : Int)) := by
  obtain ⟨fz, h1, _⟩ := h
  rw [cell_of_row w r i _ E fz h1]
  simpa using bcs_get_lt l i hi
theorem Row.free (h : Row E w r l) (i : Nat) (hi : i < l.length) : w.frozen? ⟨r, i, none⟩ = false := by
  obtain ⟨⟨lo, hi'⟩, h1, h2⟩ := h
  simp only [World.frozen?, h1, Bool.and_eq_false_iff, decide_eq_false_iff_not]
  simp only at h2
  omega
theorem Row.ne_blk {b : Nat} {T : TypeId} {cs : Array Value} {fz : Nat × Nat} (h : Row E w r l) (hb : w.heap[b]? = some (.cells cs T fz)) (hne : T ≠ E) : r ≠ b := by
  rintro rfl
  obtain ⟨fz', h1, _⟩ := h
  rw [hb] at h1
  injection h1 with h1
  injection h1 with _ h1
  exact hne h1
theorem Row.drew (h : Row E w r l) : Row E w.drew r l := h
theorem Row.drewN (h : Row E w r l) (n : Nat) : Row E (w.drewN n) r l := h
theorem Row.alloc (h : Row E w r l) (o : Obj) : Row E (w.alloc o) r l := h.of_block (Below.heap_alloc w o r h.lt)
theorem Row.setCell_far (h : Row E w r l) {p : Addr} (hp : r ≠ p.block) (u : Value) : Row E (w.setCell p u) r l := h.of_block (Below.heap_setCell w p u r hp)
theorem Row.new (w : World) (E : TypeId) (l : List UInt8) : Row E (w.alloc (.cells (bcs l).toArray E)) w.heap.size l := ⟨(0, 0), heap_alloc_new w _, .inl (Nat.le_refl _)⟩
end

/-- Storing cells into a block, none of them frozen. -/
theorem run_storeCells_free (P : Program) (g o : Nat) (t : TypeId) (fz : Nat × Nat) : ∀ (vs : List Value) (i : Nat) (cur : Array Value) (w : World), w.heap[g]? = some (.cells cur t fz) →
    (∀ j, o + i ≤ j → j < o + i + vs.length → ¬ (fz.1 ≤ j ∧ j < fz.2)) → o + i + vs.length ≤ cur.size → (∀ v ∈ vs, v.oneCell' = true) →
    (storeCells ⟨g, o, none⟩ vs i).run P w = .ok () (w.setRow g (cur.toList.take (o + i) ++ vs ++ cur.toList.drop (o + i + vs.length)).toArray)
  | [], i, cur, w, hg, _, _, _ => by
    simp only [storeCells, List.append_nil, List.length_nil, Nat.add_zero, List.take_append_drop, Array.toArray_toList]
    rw [setRow_self w g cur t fz hg]
    rfl
  | v :: rest, i, cur, w, hg, hfz, hl, h1 => by
    have hi : o + i < cur.size := by simp at hl; omega
    have hadd : (⟨g, o, none⟩ : Addr).add i = ⟨g, o + i, none⟩ := by unfold Addr.add; split <;> simp_all
    have hcell : w.cell? ⟨g, o + i, none⟩ = some cur[o + i] := by simp [World.cell?, hg, hi]
    have hfro : w.frozen? ⟨g, o + i, none⟩ = false := by
      have := hfz (o + i) (Nat.le_refl _) (by simp)
      obtain ⟨lo, hi'⟩ := fz
      simp only [World.frozen?, hg, Bool.and_eq_false_iff, decide_eq_false_iff_not]
      simp only at this
      omega
    have hst : (store ((⟨g, o, none⟩ : Addr).add i) v).run P w = .ok () (w.setRow g (cur.setIfInBounds (o + i) v)) := by
      rw [hadd, run_store P w _ v _ (h1 v (by simp)), hcell]
      simp [hfro, setCell_eq_setRow w g (o + i) cur t fz v hg]
    have ih := run_storeCells_free P g o t fz rest (i + 1) (cur.setIfInBounds (o + i) v) (w.setRow g (cur.setIfInBounds (o + i) v)) (setRow_heap w g cur _ t _ hg)
      (fun j h2 h3 => hfz j (by omega) (by simp; omega)) (by simp at hl ⊢; omega) (fun x hx => h1 x (by simp [hx]))
    simp only [storeCells, Sem.run_bind, hst, Result.andThen_ok, ih, setRow_setRow]
    congr 3
    have e := list_seg_step cur.toList (o + i) v rest (by simp at hl ⊢; omega)
    simpa [Array.toList_setIfInBounds, Nat.add_assoc] using e

theorem splice_take_head {α : Type} (all l : List α) {m : Nat} (h : l.length = m) : (splice all 0 l).take m = l := by
  subst h
  simp [splice]

/-- Where bytes come from: a string, or a slice whose cells read as them. -/
def Src (w : World) (v : Value) (l : List UInt8) : Prop :=
  v = .string ⟨l.toArray⟩ ∨ ∃ A c, v = .slice A l.length c ∧ (0 < l.length → ∃ ad, A = some ad ∧ ∀ j x, l[j]? = some x → w.cell? (ad.add j) = some (.int .u8 (x.toNat : Int)))

theorem Src.str (w : World) (l : List UInt8) : Src w (.string ⟨l.toArray⟩) l := .inl rfl
theorem addr_add (r o j : Nat) : (⟨r, o, none⟩ : Addr).add j = ⟨r, o + j, none⟩ := by unfold Addr.add; split <;> simp_all
theorem Src.of_row {E : TypeId} {w : World} {r o n c : Nat} {all : List UInt8} {A : Option Addr} (h : Row E w r all) (hA : 0 < n → A = some ⟨r, o, none⟩) (hl : o + n ≤ all.length) :
    Src w (.slice A n c) ((all.drop o).take n) := by
  have hlen : ((all.drop o).take n).length = n := by simp; omega
  refine .inr ⟨A, c, by rw [hlen], fun h0 => ⟨_, hA (by omega), fun j x hx => ?_⟩⟩
  rw [addr_add]
  rw [List.getElem?_take] at hx
  split at hx
  · rw [List.getElem?_drop] at hx
    obtain ⟨hj, rfl⟩ := List.getElem?_eq_some_iff.1 hx
    exact h.cell _ hj
  · cases hx

/-- What a slice reads as behind its place o. -/
theorem Src.cut {E : TypeId} {w : World} {r o n : Nat} {all : List UInt8} (h : Row E w r all) (ho : o ≤ n) (hn : n ≤ all.length) :
    Src w (.slice (if all.length = o then some ⟨r, 0, none⟩ else some ⟨r, o, none⟩) (n - o) (all.length - o)) ((all.take n).drop o) := by
  rw [List.drop_take]
  refine Src.of_row h (fun q => ?_) (by omega)
  rw [if_neg (by omega)]
theorem Src.of_heap {w w' : World} {v : Value} {l : List UInt8} (h : Src w v l) (hh : w'.heap = w.heap) : Src w' v l := by
  rcases h with h | ⟨A, c, h, k⟩
  · exact .inl h
  · refine .inr ⟨A, c, h, fun q => ?_⟩
    obtain ⟨ad, e, k⟩ := k q
    refine ⟨ad, e, fun j x hx => ?_⟩
    rw [← k j x hx]
    simp only [World.cell?, hh]
theorem Src.fr {S : Nat → Prop} {w w' : World} {v : Value} {l : List UInt8} (h : Src w v l) (hf : Fr S w w') (hS : ∀ i c E fz, S i → w.heap[i]? = some (.cells c E fz) → ∀ (j : Nat) (x : Int), c[j]? ≠ some (Value.int .u8 x)) : Src w' v l := by
  rcases h with h | ⟨A, c, h, k⟩
  · exact .inl h
  · refine .inr ⟨A, c, h, fun q => ?_⟩
    obtain ⟨ad, e, k⟩ := k q
    refine ⟨ad, e, fun j x hx => ?_⟩
    have hc := k j x hx
    refine (hf.cell (World.block_lt_of_cell? _ _ hc) (fun q => ?_)).trans hc
    unfold World.cell? at hc
    split at hc
    · rename_i c' E fz hb
      split at hc
      · cases hc
      · exact hS _ _ _ _ q hb _ _ hc
    · cases hc

theorem run_firstCells_src {P : Program} {w : World} {v : Value} {l : List UInt8} (h : Src w v l) (k : Nat) (hk : k ≤ l.length) :
    (Builtin.firstCells 1 k v).run P w = .ok (bcs (l.take k)).toArray w := by
  rcases h with rfl | ⟨A, c, rfl, hs⟩
  · simp only [Builtin.firstCells, bcs]
    have : (ByteArray.extract ⟨l.toArray⟩ 0 k).data = (l.take k).toArray := by simp [ByteArray.data_extract]
    rw [this]
    simp
  · rcases Nat.eq_zero_or_pos k with rfl | h0
    · cases A <;> simp [Builtin.firstCells, loadCells, loadCellsFrom, bcs]
    · obtain ⟨ad, rfl, hc⟩ := hs (by omega)
      have hl := run_loadCells_list (P := P) w ad (bcs (l.take k)) (by
        intro j u hu
        have hj : j < (l.take k).length := by
          have := (List.getElem?_eq_some_iff.1 hu).1
          simpa using this
        have := bcs_get_lt (l.take k) j hj
        rw [this] at hu
        injection hu with hu
        subst hu
        refine hc j _ ?_
        rw [List.getElem_take]
        exact List.getElem?_eq_getElem _)
      have hkk : (bcs (l.take k)).length = k := by simp; omega
      rw [hkk] at hl
      simp [Builtin.firstCells, hl]

theorem run_lenOf_src {P : Program} {w : World} {v : Value} {l : List UInt8} (h : Src w v l) : (Builtin.lenOf v).run P w = .ok l.length w := by
  rcases h with rfl | ⟨A, c, rfl, _⟩
  · simp [Builtin.lenOf, ByteArray.size]
  · simp [Builtin.lenOf]

/-- copy of bytes into a row of bytes. -/
theorem run_copy_bytes {P : Program} {w : World} {E : TypeId} {dT sT ty : TypeId} {r o n c k : Nat} {all l : List UInt8} {D : Option Addr} {v : Value} {i : TypeInfo}
    (hu : P.underlying dT = some (.slice E)) (hi : P.info? E = some i) (hs1 : i.size = 1) (hrow : Row E w r all) (hsrc : Src w v l) (hk : Nat.min l.length n = k)
    (hD : 0 < k → D = some ⟨r, o, none⟩) (hfit : o + k ≤ all.length) :
    ∃ w', (Builtin.copy_ #[dT, sT] ty #[.slice D n c, v]).run P w = .ok (.int .i64 (k : Int)) w' ∧ Row E w' r (splice all o (l.take k)) ∧ Fr (Just r) w w' := by
  have hlen := run_lenOf_src (P := P) hsrc
  have hkl : k ≤ l.length := by rw [← hk]; exact Nat.min_le_left _ _
  have hf := run_firstCells_src (P := P) hsrc k hkl
  rcases Nat.eq_zero_or_pos k with h0 | h0
  · subst h0
    refine ⟨w, ?_, ?_, Fr.refl _ _⟩
    · cases D <;> simp [Builtin.copy_, run_underlying hu, sizeOf, typeInfo, hi, hs1, hlen, hk, hf, storeCells, bcs, goInt]
    · simpa [splice] using hrow
  · have hD' := hD h0
    subst hD'
    obtain ⟨fz, h1, h2⟩ := hrow
    have hst := run_storeCells_free P r o E fz (bcs (l.take k)) 0 (bcs all).toArray w h1
      (fun j h3 h4 => by
        have hlt : j < all.length := by simp at h4; omega
        omega) (by simp; omega) (bcs_one _)
    refine ⟨w.setRow r (bcs (splice all o (l.take k))).toArray, ?_, ⟨fz, setRow_heap w r _ _ E fz h1, ?_⟩, (Fr.refl _ w).setRow (fun _ => just_self r) _⟩
    · have e : (bcs all).toArray.toList.take (o + 0) ++ bcs (l.take k) ++ (bcs all).toArray.toList.drop (o + 0 + (bcs (l.take k)).length) = bcs (splice all o (l.take k)) := by
        simp [splice, bcs_append, bcs_take, bcs_drop]
      rw [e] at hst
      simp [Builtin.copy_, run_underlying hu, sizeOf, typeInfo, hi, hs1, hlen, hk, hf, hst, goInt]
    · rw [length_splice _ _ _ (by simp; omega)]
      exact h2
end Go.Proofs.YtkggebhkjgjijaaGreatDoor

namespace Go.Proofs.YtkggebhkjgjijaaGreatDoor
open Go Go.RowKit

/-- append of bytes within the capacity. -/
theorem run_append_fit {P : Program} {w : World} {E : TypeId} {dT xT ty : TypeId} {r o n c : Nat} {all l : List UInt8} {D : Option Addr} {x : Value} {i : TypeInfo} {u : TypeDesc} {fz : Nat × Nat}
    (hu : P.underlying dT = some (.slice E)) (hx : P.underlying xT = some u) (hnot : ∀ k, u ≠ .int k) (hi : P.info? E = some i) (hs1 : i.size = 1)
    (hrow : w.heap[r]? = some (.cells (bcs all).toArray E fz)) (hsrc : Src w x l) (hroom : n + l.length ≤ c)
    (hD : 0 < l.length → D = some ⟨r, o, none⟩) (hfit : o + n + l.length ≤ all.length) (hfree : ∀ j, o + n ≤ j → j < o + n + l.length → ¬ (fz.1 ≤ j ∧ j < fz.2)) :
    ∃ w', (Builtin.append_ #[dT, xT] ty #[.slice D n c, x]).run P w = .ok (.slice D (n + l.length) c) w' ∧ w'.heap[r]? = some (.cells (bcs (splice all (o + n) l)).toArray E fz) ∧ Fr (Just r) w w' := by
  have hlen := run_lenOf_src (P := P) hsrc
  have hf := run_firstCells_src (P := P) hsrc l.length (Nat.le_refl _)
  rw [List.take_length] at hf
  rcases Nat.eq_zero_or_pos l.length with h0 | h0
  · obtain rfl : l = [] := List.eq_nil_of_length_eq_zero h0
    refine ⟨w, ?_, ?_, Fr.refl _ _⟩
    · cases D <;> simp [Builtin.append_, run_underlying hu, run_underlying hx, sizeOf, typeInfo, hi, hs1, hlen, storeCells, bcs] at hroom hf ⊢ <;> simp [hroom, hf, storeCells]
    · simpa [splice] using hrow
  · have hD' := hD h0
    subst hD'
    have hst := run_storeCells_free P r (o + n) E fz (bcs l) 0 (bcs all).toArray w hrow
      (fun j h3 h4 => hfree j (by omega) (by simp at h4; omega)) (by simp; omega) (bcs_one _)
    refine ⟨w.setRow r (bcs (splice all (o + n) l)).toArray, ?_, setRow_heap w r _ _ E fz hrow, (Fr.refl _ w).setRow (fun _ => just_self r) _⟩
    have e : (bcs all).toArray.toList.take (o + n + 0) ++ bcs l ++ (bcs all).toArray.toList.drop (o + n + 0 + (bcs l).length) = bcs (splice all (o + n) l) := by
      simp [splice, bcs_append, bcs_take, bcs_drop]
    rw [e] at hst
    simp [Builtin.append_, run_underlying hu, run_underlying hx, sizeOf, typeInfo, hi, hs1, hlen, hroom, hf, addr_add, hst]

theorem zeroCells_bcs (n : Nat) : Builtin.zeroCells (Value.int .u8 0).cells n = (bcs (List.replicate n 0)).toArray := by
  apply Array.ext
  · simp [size_zeroCells, Value.cells]
  · intro i h1 h2
    simp [Builtin.zeroCells, Value.cells, bcs, Nat.mod_one]

/-- A block of so many zero bytes. -/
def zrow (E : TypeId) (c : Nat) : Obj := .cells (bcs (List.replicate c 0)).toArray E
theorem Row.zrow (w : World) (E : TypeId) (c : Nat) : Row E (w.alloc (zrow E c)) w.heap.size (List.replicate c 0) := Row.new w E _
theorem madeCells_bcs (c : Nat) : madeCells #[Value.int .u8 0] c = (bcs (List.replicate c 0)).toArray := by
  apply Array.ext
  · simp [size_madeCells]
  · intro i h1 h2
    simp [madeCells, bcs, Nat.mod_one]
/-- make of bytes. -/
theorem run_make_bytes {P : Program} {T E : TypeId} {i : TypeInfo} (ht : P.underlying T = some (.slice E)) (hi : P.info? E = some i) (hz : i.zero = some (.int .u8 0)) (hs : i.size = 1) (hb : i.bytes = 1) (kl kc : IntKind) (l c : Nat) (hl : l ≤ c) (hc : c ≤ 281474976710656) (w : World) :
    (Instr.makeSlice T (.int kl (l : Int)) (.int kc (c : Int))).run P w = .ok (.slice (some ⟨w.heap.size, 0, none⟩) l c) (w.alloc (Go.Proofs.YtkggebhkjgjijaaGreatDoor.zrow E c)) := by
  have hr := run_make (P := P) w T E i _ ht hi hz kl kc l c (by omega) (by omega) (by rw [hb]; omega) (by omega)
  simp only [Int.toNat_natCast, hs, Nat.mul_one, Value.cells, madeCells_bcs] at hr
  exact hr

/-- append of bytes beyond the capacity. -/
theorem run_append_grow {P : Program} {w : World} {E : TypeId} {dT xT ty : TypeId} {n c : Nat} {old l : List UInt8} {D : Option Addr} {x : Value} {i : TypeInfo} {u : TypeDesc}
    (hu : P.underlying dT = some (.slice E)) (hx : P.underlying xT = some u) (hnot : ∀ k, u ≠ .int k) (hi : P.info? E = some i) (hs1 : i.size = 1) (hby : i.bytes = 1) (hz0 : i.zero = some (.int .u8 0))
    (hold : Src w (.slice D n c) old) (hn : old.length = n) (hsrc : Src w x l) (hroom : c < n + l.length) (hlim : n + l.length ≤ 140737488355328) :
    ∃ (cap2 : Nat) (w' : World), (Builtin.append_ #[dT, xT] ty #[.slice D n c, x]).run P w = .ok (.slice (some ⟨w.heap.size, 0, none⟩) (n + l.length) cap2) w' ∧
      w'.heap[w.heap.size]? = some (.cells (bcs (old ++ l ++ List.replicate (cap2 - (n + l.length)) 0)).toArray E (0, 0)) ∧
      n + l.length ≤ cap2 ∧ cap2 ≤ 9223372036854775807 ∧ Fr (fun _ => False) w w' ∧ w'.heap.size = w.heap.size + 1 := by
  have hlen := run_lenOf_src (P := P) hsrc
  have hf := run_firstCells_src (P := P) hsrc l.length (Nat.le_refl _)
  rw [List.take_length] at hf
  have ho := run_firstCells_src (P := P) hold old.length (Nat.le_refl _)
  rw [List.take_length, hn] at ho
  have hroom' : ¬ (n + l.length ≤ c) := by omega
  have h48 := growslice_fits (need := n + l.length) (old := c) (bytes := 1) hroom (by omega)
  have h48' : ¬ (281474976710656 < Builtin.nextslicecap (n + l.length) c) := by omega
  have hge := grownCap_ge w (n + l.length) c E
  have hle := grownCap_le_maxLen w (n + l.length) c E (by unfold maxLen; omega)
  have hrep := zeroCells_bcs (grownCap w (n + l.length) c E - (n + l.length))
  refine ⟨grownCap w (n + l.length) c E, w.drew.alloc (.cells (bcs (old ++ l ++ List.replicate (grownCap w (n + l.length) c E - (n + l.length)) 0)).toArray E), ?_, heap_alloc_new w.drew _, hge, by unfold maxLen at hle; omega,
    (((Fr.refl _ w).drew).alloc _), by simp⟩
  have he' : ∀ q : List UInt8, bcs old ++ (bcs l ++ bcs q) = bcs (old ++ (l ++ q)) := fun q => by simp [bcs_append]
  have hd1 : (Builtin.firstCells 1 n (.slice D n c)).run P w.drew = .ok (bcs old).toArray w.drew := by
    have hold' : Src w.drew (.slice D n c) old := hold
    have := run_firstCells_src (P := P) hold' old.length (Nat.le_refl _)
    rwa [List.take_length, hn] at this
  have hd2 : (Builtin.firstCells 1 l.length x).run P w.drew = .ok (bcs l).toArray w.drew := by
    have hsrc' : Src w.drew x l := hsrc
    have := run_firstCells_src (P := P) hsrc' l.length (Nat.le_refl _)
    rwa [List.take_length] at this
  simp only [grownCap] at hd1 hd2 hrep ⊢
  simp [Builtin.append_, run_underlying hu, run_underlying hx, sizeOf, typeInfo, hi, hs1, hlen, hroom', hby, h48', Question.forced, newRow, zeroValue, hz0, hd1, hd2, hrep, he']

section
variable {P : Program} {w : World} {ops : Array Oper} {rest : List Oper} {o : Oper} {a : Act} {K : Act → World → Prop} {Q : Exit → Act → World → Prop}

theorem wp_copy_of_run (d s : Operand) (dT sT : TypeId) (ho : o.op = .call { callee := .builtin .copy, args := #[d, s], argTypes := #[dT, sT] }) {vd vs v' : Value} {w' : World} (hd : a.eval d = vd) (hs : a.eval s = vs)
    (hr : (Builtin.copy_ #[dT, sT] o.type #[vd, vs]).run P w = .ok v' w') (h : K (a.put o.dst v') w') : o.wp P a w K Q := by
  unfold Oper.wp
  simp [execOp, ho, resolve, invoke, builtin, hd, hs, hr, Result.andThen]
  exact h
theorem wp_append_of_run (d s : Operand) (dT sT : TypeId) (ho : o.op = .call { callee := .builtin .append, args := #[d, s], argTypes := #[dT, sT] }) {vd vs v' : Value} {w' : World} (hd : a.eval d = vd) (hs : a.eval s = vs)
    (hr : (Builtin.append_ #[dT, sT] o.type #[vd, vs]).run P w = .ok v' w') (h : K (a.put o.dst v') w') : o.wp P a w K Q := by
  unfold Oper.wp
  simp [execOp, ho, resolve, invoke, builtin, hd, hs, hr, Result.andThen]
  exact h
/-- One step of a region that draws its order, by a law on the operation. -/
theorem step_of_wp {E : Prop} (hgd : o.guard = none) (h : o.wp P a w K Q) : if Region.wanted o (yielded ops a.tmps) = true then Oper.wp P o a w K Q else E := by
  rw [if_pos (by simp [Region.wanted, hgd])]
  exact h

/-- copy of bytes into a row, as a step of a walk. -/
theorem wp_copyB (d s : Operand) (dT sT : TypeId) (ho : o.op = .call { callee := .builtin .copy, args := #[d, s], argTypes := #[dT, sT] }) (E : TypeId) (i : TypeInfo) (hu : P.underlying dT = some (.slice E)) (hi : P.info? E = some i) (hs1 : i.size = 1)
    (r off n c k : Nat) (all l : List UInt8) (D : Option Addr) (v : Value) (hd : a.eval d = .slice D n c) (hs : a.eval s = v) (hrow : Row E w r all) (hsrc : Src w v l) (hk : Nat.min l.length n = k)
    (hD : 0 < k → D = some ⟨r, off, none⟩) (hfit : off + k ≤ all.length)
    (h : ∀ w', Row E w' r (splice all off (l.take k)) → Fr (Just r) w w' → K (a.put o.dst (.int .i64 (k : Int))) w') : o.wp P a w K Q := by
  obtain ⟨w', h1, h2, h3⟩ := run_copy_bytes (P := P) (sT := sT) (ty := o.type) (c := c) hu hi hs1 hrow hsrc hk hD hfit
  exact wp_copy_of_run d s dT sT ho hd hs h1 (h w' h2 h3)
theorem wpList_copyB (hgd : o.guard = none) (d s : Operand) (dT sT : TypeId) (ho : o.op = .call { callee := .builtin .copy, args := #[d, s], argTypes := #[dT, sT] }) (E : TypeId) (i : TypeInfo) (hu : P.underlying dT = some (.slice E)) (hi : P.info? E = some i) (hs1 : i.size = 1)
    (r off n c k : Nat) (all l : List UInt8) (D : Option Addr) (v : Value) (hd : a.eval d = .slice D n c) (hs : a.eval s = v) (hrow : Row E w r all) (hsrc : Src w v l) (hk : Nat.min l.length n = k)
    (hD : 0 < k → D = some ⟨r, off, none⟩) (hfit : off + k ≤ all.length)
    (h : ∀ w', Row E w' r (splice all off (l.take k)) → Fr (Just r) w w' → wpList P ops Q rest (a.put o.dst (.int .i64 (k : Int))) w') : wpList P ops Q (o :: rest) a w :=
  wpList_plain hgd fun _ hK => wp_copyB d s dT sT ho E i hu hi hs1 r off n c k all l D v hd hs hrow hsrc hk hD hfit fun w' h1 h2 => hK _ _ (h w' h1 h2)
end
end Go.Proofs.YtkggebhkjgjijaaGreatDoor
