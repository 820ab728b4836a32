/- impl.pieces: a text in pieces. -/
import Derived.Test.YtmifjolehieccaaDoorBegin
import Derived.Test.YtmifjolehieccaaDoorApp
import Derived.WalkLawsBesides
namespace Go.Proofs.YtmifjolehieccaaDoor
open Go Go.RowKit

/-- The first pieces of a text, and what is left. -/
def cutAll : List UInt8 → List Nat → List (List UInt8) × List UInt8
  | s, [] => ([], s)
  | s, c :: cs => (s.take c :: (cutAll (s.drop c) cs).1, (cutAll (s.drop c) cs).2)
def piecesF (s : List UInt8) (cuts : List Nat) : List (List UInt8) := (cutAll s cuts).1 ++ if (cutAll s cuts).2 = [] then [] else [(cutAll s cuts).2]
theorem cutAll_snoc (c : Nat) : ∀ (ks : List Nat) (s : List UInt8), cutAll s (ks ++ [c]) = ((cutAll s ks).1 ++ [(cutAll s ks).2.take c], (cutAll s ks).2.drop c)
  | [], s => rfl
  | k :: ks, s => by simp [cutAll, cutAll_snoc c ks]
theorem cutAll_flat : ∀ (ks : List Nat) (s : List UInt8), (cutAll s ks).1.flatten ++ (cutAll s ks).2 = s
  | [], s => rfl
  | k :: ks, s => by simp [cutAll, List.append_assoc, cutAll_flat ks, List.take_append_drop]
theorem piecesF_flat (s : List UInt8) (ks : List Nat) : (piecesF s ks).flatten = s := by
  have := cutAll_flat ks s
  unfold piecesF
  by_cases h : (cutAll s ks).2 = []
  · rw [h] at this; simp [h] at this ⊢; exact this
  · simp [h]; exact this
theorem cutAll_len : ∀ (ks : List Nat) (s : List UInt8), (cutAll s ks).1.length = ks.length
  | [], s => rfl
  | k :: ks, s => by simp [cutAll, cutAll_len ks]
theorem cutAll_rest_le : ∀ (ks : List Nat) (s : List UInt8), (cutAll s ks).2.length ≤ s.length
  | [], s => Nat.le_refl _
  | k :: ks, s => by
    have := cutAll_rest_le ks (s.drop k)
    simp only [cutAll]
    simp at this
    omega

theorem ext_take (l : List UInt8) (m : Nat) : ByteArray.extract ⟨l.toArray⟩ 0 m = ⟨(l.take m).toArray⟩ := by
  apply ByteArray.ext
  simp [ByteArray.data_extract]
theorem ext_drop (l : List UInt8) (m : Nat) : ByteArray.extract ⟨l.toArray⟩ m l.length = ⟨(l.drop m).toArray⟩ := by
  apply ByteArray.ext
  simp [ByteArray.data_extract]
  exact List.take_of_length_le (by simp)

def strV (s : List UInt8) : Value := .string ⟨s.toArray⟩
def strs (l : List (List UInt8)) : List Value := l.map strV
@[simp] theorem strs_length (l : List (List UInt8)) : (strs l).length = l.length := by simp [strs]
theorem strs_append (l m : List (List UInt8)) : strs (l ++ m) = strs l ++ strs m := by simp [strs]

/-- A slice of uint16 that reads as ks. -/
structure U16s (w : World) (A : Option Addr) (ks : List Nat) : Prop where
  few : ∀ x ∈ ks, x ≤ 65535
  cell : 0 < ks.length → ∃ r o, A = some ⟨r, o, none⟩ ∧ ∀ j (h : j < ks.length), w.cell? ⟨r, o + j, none⟩ = some (.int .u16 (ks[j] : Int))
theorem U16s.fr {S : Nat → Prop} {w w' : World} {A : Option Addr} {ks : List Nat} (h : U16s w A ks) (hf : Fr S w w') (hn : ∀ r o, A = some ⟨r, o, none⟩ → ¬ S r) : U16s w' A ks := by
  refine ⟨h.few, fun q => ?_⟩
  obtain ⟨r, o, rfl, hc⟩ := h.cell q
  exact ⟨r, o, rfl, fun j hj => (hf.cell (World.block_lt_of_cell? _ _ (hc j hj)) (hn r o rfl)).trans (hc j hj)⟩

theorem elem_string : ElemOk Tryd.prog 35 9 1 16 := by
  obtain ⟨i0, hi, hz0, hz1, hz2⟩ := info_parts (show (Tryd.prog.info? 9).map (fun i => (i.zero, i.size, i.bytes)) = some (some (.string ⟨#[]⟩), 1, 16) by kernel_rfl)
  exact ⟨Tryd.underlying35, ⟨i0, _, hi, hz0, hz1, hz2, rfl⟩, by decide, by decide⟩

def PiecesPost (w : World) (ps : List (List UInt8)) (e : Ending) (w' : World) : Prop :=
  ∃ v, e = .returned v ∧ Own 9 1 w' w.heap.size v ps.length (strs ps) ∧ Fr (fun _ => False) w w'

/-- What holds at the head of a round. -/
structure PiecesInv (w : World) (s : List UInt8) (cuts : List Nat) (k : Nat) (v : Value) (wr : World) : Prop where
  own : Own 9 1 wr w.heap.size v k (strs (cutAll s (cuts.take k)).1)
  fr : Fr (fun _ => False) w wr

set_option maxHeartbeats 1600000 in
set_option maxRecDepth 100000 in
theorem pieces_any (s : List UInt8) (cuts : List Nat) (A : Option Addr) (c : Nat) (w : World) (hA : U16s w A cuts) (_hs : s.length ≤ 1099511627776) (hc : cuts.length ≤ 4294967296) :
    Calls Tryd.prog 16 #[.string ⟨s.toArray⟩, .slice A cuts.length c] w (PiecesPost w (piecesF s cuts)) := by
  have HA := Lib.hid hA
  clear hA
  go_enter Tryd.func16, Tryd.ntmps16
  go_wp2_with fail
  go_loopw [0, 5, 11] (fun sv v i wr => ∃ k : Nat, k ≤ cuts.length ∧ i = .int .i64 (k : Int) ∧ sv = .string ⟨(cutAll s (cuts.take k)).2.toArray⟩ ∧ PiecesInv w s cuts k v wr) (fun _ _ i _ => cuts.length - (intOf i).toNat)
  case atStart => exact ⟨0, Nat.zero_le _, rfl, rfl, ⟨Own.nil _ _ _ _, Fr.refl _ _⟩⟩
  case round =>
    obtain ⟨k, hk, rfl, rfl, hI⟩ := hrel
    by_cases hlt : k < cuts.length
    · obtain ⟨r, o, rfl, hcell⟩ := HA.out.cell (by omega)
      have hc1 : wr.cell? ⟨r, o + k, none⟩ = some (.int .u16 (cuts[k] : Int)) := (hI.fr.cell (World.block_lt_of_cell? _ _ (hcell k hlt)) (fun q => q)).trans (hcell k hlt)
      have hfew := HA.out.few cuts[k] (List.getElem_mem _)
      have hrl := cutAll_rest_le (cuts.take k) s
      generalize hrest : (cutAll s (cuts.take k)).2 = rest at *
      generalize hcut : cuts[k] = ck at *
      have HR := Lib.hid hrest
      have HCK := Lib.hid hcut
      clear hrest hcut hcell
      obtain ⟨m, hm⟩ : ∃ m, m = min ck rest.length := ⟨_, rfl⟩
      have hmin : min (ck : Int) (rest.length : Int) = (m : Int) := by omega
      have hml : m ≤ rest.length := by omega
      have hmi : (m : Int) ≤ (rest.length : Int) := by omega
      have hm0 : (0 : Int) ≤ (m : Int) := by omega
      have HM := Lib.hid hm
      have hx1 := ext_take rest m
      have hx2 := ext_drop rest m
      clear hm
      go_wp2_with fail
      go_region_held3 (fun _ => True) (trivial) ((refine step_app rfl elem_string (.tmp 20) (.tmp 24) rfl w.heap.size _ k _ (by rfl) (hI.own.fr (((Fr.refl (fun _ => False) wr).alloc _).drew) (fun _ _ q => q)) wr.heap.size [strV (rest.take m)] 9 (by rfl) (by exact heap_alloc_new wr _) rfl (by simp [strV, Value.oneCell']) (by omega) (by have := hI.fr.size; simp; omega) ?_; intro gb cap w1 hown hfr hat hlt1))
      have R : PiecesInv w s cuts (k + 1) (.slice (some ⟨gb, 0, none⟩) (k + 1) cap) w1 ∧ (cutAll s (cuts.take (k + 1))).2 = rest.drop m := by
        have e := cutAll_snoc cuts[k] (cuts.take k) s
        rw [← List.take_succ_eq_append_getElem hlt, HR.out, HCK.out] at e
        have e1 : rest.take ck = rest.take m := by rw [HM.out, ← List.take_eq_take_min]
        have e2 : rest.drop ck = rest.drop m := by rw [HM.out]; rcases Nat.le_total ck rest.length with h | h; rw [Nat.min_eq_left h]; rw [Nat.min_eq_right h, List.drop_of_length_le h, List.drop_length]
        rw [e, e1, e2]
        refine ⟨⟨?_, (hI.fr.alloc _).drew.trans' hfr ?_⟩, rfl⟩
        · rw [e, e1]
          simpa [strs] using hown
        · intro i hi q
          have := hI.own.blk_ge q
          omega
      obtain ⟨R1, R2⟩ := R
      have HR1 := Lib.hid R1
      have HR2 := Lib.hid R2
      clear R1 R2 hown hfr hat hI
      go_wp2_with fail
      go_roundw
      case rel => exact ⟨k + 1, by omega, by go_num, by rw [HR2.out], HR1.out⟩
      case measure => simp [intOf]; omega
    · have hkk : cuts.take k = cuts := List.take_of_length_le (by omega)
      have hq : piecesF s cuts = (cutAll s (cuts.take k)).1 ++ if (cutAll s (cuts.take k)).2 = [] then [] else [(cutAll s (cuts.take k)).2] := by rw [hkk]; rfl
      have hql : (cutAll s (cuts.take k)).1.length = k := by rw [cutAll_len]; simp; omega
      have hIo := hI.own
      have hIf := hI.fr
      obtain ⟨A5, cap5, rfl⟩ := hIo.value
      generalize cutAll s (cuts.take k) = q at *
      obtain ⟨q1, q2⟩ := q
      have HO := Lib.hid hIo
      have HQ := Lib.hid hq
      have HL := Lib.hid hql
      clear hIo hI hq hql hkk
      by_cases hr : q2 = []
      · subst hr
        go_wp2_with fail
        go_ret
        refine ⟨_, rfl, ?_, hIf⟩
        rw [HQ.out]
        simpa [HL.out] using HO.out
      · have hb1 : (!q2.isEmpty) = true := by simp [hr]
        have hb2 : q2.isEmpty = false := by simp [hr]
        have HRR := Lib.hid hr
        clear hr
        go_wp2_with (refine wpList_app rfl elem_string (.tmp 32) (.tmp 34) rfl w.heap.size _ k _ (by rfl) (HO.out.fr ((Fr.refl (fun _ => False) wr).alloc _) (fun _ _ q => q)) wr.heap.size [strV q2] 9 (by rfl) (by exact heap_alloc_new wr _) rfl (by simp [strV, Value.oneCell']) (by omega) (by have := hIf.size; simp; omega) ?_)
        intro gb cap w1 hown hfr hat hlt1
        have HO1 := Lib.hid hown
        have HF1 := Lib.hid ((hIf.alloc _).trans' hfr (fun i hi q => by have := HO.out.blk_ge q; omega))
        clear hown hfr hat
        go_wp2_with fail
        go_ret
        refine ⟨_, rfl, ?_, HF1.out⟩
        rw [HQ.out, if_neg HRR.out]
        simpa [HL.out, strs] using HO1.out
end Go.Proofs.YtmifjolehieccaaDoor
