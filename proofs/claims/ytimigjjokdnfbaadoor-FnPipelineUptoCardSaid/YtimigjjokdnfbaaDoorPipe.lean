/- The plain law of FnPipeline: what a row of buffers has when each one gives to the next, and when the last one takes from all others. No program is named here. -/
import Derived.Test.YtimigjjokdnfbaaDoorPlay
namespace Go.Proofs.YtimigjjokdnfbaaDoor
open Go Go.RowKit

/-- The i-th buffer gives to the next. -/
def gvC (i : Nat) : Cl := ⟨23, (i : Int), (i : Int) + 1, 0, 0, 0, 0, [], [], none, 0⟩
/-- The buffer l takes from the buffer j. -/
def tkC (l j : Nat) : Cl := ⟨24, (l : Int), (j : Int), 0, 0, 0, 0, [], [], none, 0⟩

theorem texts_len (y : Yd) : y.texts.length = y.bufs.length := by simp [Yd.texts]
theorem texts_set (y : Yd) (i : Int) (s : SB) : (y.setBuf i s).texts = y.texts.set i.toNat s.text := by simp [Yd.texts, Yd.setBuf, List.map_set]
theorem buf_text {y : Yd} {i : Nat} {t : List UInt8} (h : y.texts[i]? = some t) : (y.buf (i : Int)).text = t := by
  simp only [Yd.texts, List.getElem?_map, Option.map_eq_some_iff] at h
  obtain ⟨s, h1, h2⟩ := h
  simp [Yd.buf, List.getD, h1, h2]
theorem inR_of {y : Yd} {i : Nat} {t : List UInt8} (h : y.texts[i]? = some t) : inR (i : Int) y.bufs.length := by
  have := (List.getElem?_eq_some_iff.1 h).1
  rw [texts_len] at this
  exact ⟨by omega, by omega⟩
theorem do_give {y : Yd} {i : Nat} {s t : List UInt8} (h1 : y.texts[i]? = some s) (h2 : y.texts[i + 1]? = some t) :
    ∃ y', y.do (gvC i) = (y', Td.ofN s.length, true) ∧ y'.texts = (y.texts.set i []).set (i + 1) (t ++ s) := by
  have r1 := inR_of h1
  have r2 := inR_of h2
  have e1 := buf_text h1
  have e2 := buf_text h2
  simp only [Int.natCast_add, Int.cast_ofNat_Int] at r2 e2
  have hne : ¬ ((i : Int) = (i : Int) + 1) := by omega
  refine ⟨_, by simp [Yd.do, Yd.flow, gvC, r1, r2, hne, e1]; rfl, ?_⟩
  have e3 : ((i : Int) + 1).toNat = i + 1 := by omega
  rw [texts_set, texts_set, e3, Int.toNat_natCast]
  split
  · rename_i hs
    subst hs
    simp [SB.other, e2]
  · simp [SB.other, SB.write, e2]
theorem do_take {y : Yd} {l j : Nat} {s t : List UInt8} (hne : l ≠ j) (h1 : y.texts[l]? = some s) (h2 : y.texts[j]? = some t) :
    ∃ y', y.do (tkC l j) = (y', Td.ofN t.length, true) ∧ y'.texts = (y.texts.set l (s ++ t)).set j [] := by
  have r1 := inR_of h1
  have r2 := inR_of h2
  have e1 := buf_text h1
  have e2 := buf_text h2
  have hne' : ¬ ((l : Int) = (j : Int)) := by omega
  refine ⟨_, by simp [Yd.do, Yd.flow, tkC, r1, r2, hne', e1, e2]; rfl, ?_⟩
  rw [texts_set, texts_set, Int.toNat_natCast, Int.toNat_natCast]
  simp [SB.other]

/-- What the giving calls tell. -/
def sumsF : Nat → List (List UInt8) → List Td
  | _, [] => []
  | n, b :: r => Td.ofN n :: sumsF (n + b.length) r
theorem give_run : ∀ (rest : List (List UInt8)) (k : Nat) (a : List UInt8) (y : Yd), y.texts = List.replicate k [] ++ a :: rest →
    Mild y ((List.range' k rest.length).map gvC) ∧ (runF y ((List.range' k rest.length).map gvC)).1 = sumsF a.length rest ∧ (runF y ((List.range' k rest.length).map gvC)).2.texts = List.replicate (k + rest.length) [] ++ [rest.reverse.flatten ++ a]
  | [], k, a, y, h => by simpa [Mild, runF, sumsF] using h
  | b :: rest, k, a, y, h => by
    have h1 : y.texts[k]? = some a := by rw [h, List.getElem?_append_right (by simp)]; simp
    have h2 : y.texts[k + 1]? = some b := by rw [h, List.getElem?_append_right (by simp)]; simp
    obtain ⟨y', e, ht⟩ := do_give h1 h2
    have ht2 : y'.texts = List.replicate (k + 1) [] ++ (b ++ a) :: rest := by
      rw [ht, h, List.set_append_right _ _ (by simp), List.set_append_right _ _ (by simp)]
      have e1 : k + 1 - (List.replicate k ([] : List UInt8)).length = 1 := by simp
      rw [e1]
      simp only [List.length_replicate, Nat.sub_self, List.set_cons_zero, List.set_cons_succ]
      rw [List.replicate_succ', List.append_assoc]
      rfl
    obtain ⟨m, i1, i2⟩ := give_run rest (k + 1) (b ++ a) y' ht2
    rw [List.length_cons, List.range'_succ, List.map_cons]
    refine ⟨⟨by rw [e], by rw [e]; simp [Td.ofN], by rw [e]; exact m⟩, ?_, ?_⟩
    · simp only [runF, e]
      rw [if_neg (by simp [Td.ofN])]
      simp only [i1, sumsF]
      rw [List.length_append, Nat.add_comm b.length]
    · simp only [runF, e]
      rw [if_neg (by simp [Td.ofN])]
      simp only [i2]
      rw [Nat.add_assoc, Nat.add_comm 1]
      simp
/-- The calls by which the last one takes from m others. -/
def tksF (l : Nat) : Nat → List Cl
  | 0 => []
  | m + 1 => tkC l m :: tksF l m
theorem take_run (l : Nat) : ∀ (rev : List (List UInt8)) (k : Nat) (z : List UInt8) (y : Yd), rev.length + k = l → y.texts = rev.reverse ++ (List.replicate k [] ++ [z]) →
    Mild y (tksF l rev.length) ∧ (runF y (tksF l rev.length)).1 = rev.map (fun b => Td.ofN b.length) ∧ (runF y (tksF l rev.length)).2.texts = List.replicate l [] ++ [z ++ rev.flatten]
  | [], k, z, y, hl, h => by
    obtain rfl : k = l := by simpa using hl
    simpa [Mild, runF, tksF] using h
  | b :: rev, k, z, y, hl, h => by
    simp only [List.length_cons] at hl
    have h0 : y.texts = rev.reverse ++ (b :: (List.replicate k [] ++ [z])) := by rw [h]; simp
    have h1 : y.texts[l]? = some z := by
      rw [h0, List.getElem?_append_right (by simp; omega)]
      have e1 : l - rev.reverse.length = k + 1 := by simp; omega
      rw [e1, List.getElem?_cons_succ, List.getElem?_append_right (by simp)]
      simp
    have h2 : y.texts[rev.length]? = some b := by rw [h0, List.getElem?_append_right (by simp)]; simp
    obtain ⟨y', e, ht⟩ := do_take (show l ≠ rev.length by omega) h1 h2
    have ht2 : y'.texts = rev.reverse ++ (List.replicate (k + 1) [] ++ [z ++ b]) := by
      rw [ht, h0, List.set_append_right _ _ (by simp; omega), List.set_append_right _ _ (by simp)]
      have e1 : l - rev.reverse.length = k + 1 := by simp; omega
      have e2 : rev.length - rev.reverse.length = 0 := by simp
      rw [e1, e2, List.set_cons_succ, List.set_cons_zero, List.set_append_right _ _ (by simp)]
      simp [List.replicate_succ]
    obtain ⟨m, i1, i2⟩ := take_run l rev (k + 1) (z ++ b) y' (by omega) ht2
    rw [List.length_cons, tksF]
    refine ⟨⟨by rw [e], by rw [e]; simp [Td.ofN], by rw [e]; exact m⟩, ?_, ?_⟩
    · simp only [runF, e]
      rw [if_neg (by simp [Td.ofN])]
      simp only [i1, List.map_cons]
    · simp only [runF, e]
      rw [if_neg (by simp [Td.ofN])]
      simp only [i2]
      simp
theorem tksF_range (l : Nat) : ∀ m, tksF l m = (List.range m).map (fun i => tkC l (m - 1 - i))
  | 0 => rfl
  | m + 1 => by
    rw [tksF, tksF_range l m, List.range_succ_eq_map, List.map_cons, List.map_map]
    have e : ((fun i => tkC l (m + 1 - 1 - i)) ∘ Nat.succ) = fun i => tkC l (m - 1 - i) := by
      funext i
      simp only [Function.comp_apply]
      congr 1
      omega
    rw [e]
    simp
theorem sumsF_range : ∀ (rest : List (List UInt8)) (n : Nat), sumsF n rest = (List.range rest.length).map (fun i => Td.ofN ((n + tsum (rest.take i) : Nat) : Int))
  | [], n => rfl
  | b :: r, n => by
    rw [sumsF, sumsF_range r, List.length_cons, List.range_succ_eq_map, List.map_cons, List.map_map]
    have e : ((fun i => Td.ofN ((n + tsum ((b :: r).take i) : Nat) : Int)) ∘ Nat.succ) = fun i => Td.ofN (((n + b.length) + tsum (r.take i) : Nat) : Int) := by
      funext i
      simp only [Function.comp_apply, Nat.succ_eq_add_one, List.take_succ_cons, tsum_cons]
      congr 2
      omega
    rw [e]
    simp [tsum_nil]
def stP (t : List UInt8) : St := ⟨t, 0, 0⟩
theorem begin_texts (ts : List (List UInt8)) (nb : Nat) : (Yd.begin (ts.map stP) nb).texts = ts := by
  simp only [Yd.begin, Yd.texts, List.map_map]
  exact (List.map_congr_left (fun a _ => rfl)).trans (List.map_id ts)
/-- THE PLAIN LAW. -/
theorem pipe_law (texts : List (List UInt8)) (last : Nat) (h : texts.length = last + 1) :
    Mild (Yd.begin (texts.map stP) 0) ((List.range last).map gvC) ∧ (runF (Yd.begin (texts.map stP) 0) ((List.range last).map gvC)).1 = (List.range last).map (fun i => Td.ofN ((tsum (texts.take (i + 1)) : Nat) : Int)) ∧ (runF (Yd.begin (texts.map stP) 0) ((List.range last).map gvC)).2.texts = List.replicate last [] ++ [texts.reverse.flatten] ∧
    Mild (Yd.begin (texts.map stP) 0) ((List.range last).map (fun i => tkC last (last - 1 - i))) ∧ (runF (Yd.begin (texts.map stP) 0) ((List.range last).map (fun i => tkC last (last - 1 - i)))).1 = (List.range last).map (fun i => Td.ofN (((texts.getD (last - 1 - i) []).length : Nat) : Int)) ∧ (runF (Yd.begin (texts.map stP) 0) ((List.range last).map (fun i => tkC last (last - 1 - i)))).2.texts = List.replicate last [] ++ [texts.reverse.flatten] := by
  have hy := begin_texts texts 0
  obtain ⟨y, hy0⟩ : ∃ y, y = Yd.begin (texts.map stP) 0 := ⟨_, rfl⟩
  rw [← hy0] at hy ⊢
  clear hy0
  refine ⟨?_, ?_, ?_, ?_⟩
  · cases texts with
    | nil => simp at h
    | cons a rest =>
      obtain rfl : last = rest.length := by simpa using h.symm
      have := (give_run rest 0 a y (by simpa using hy)).1
      rwa [← List.range_eq_range'] at this
  · cases texts with
    | nil => simp at h
    | cons a rest =>
      obtain rfl : last = rest.length := by simpa using h.symm
      have := (give_run rest 0 a y (by simpa using hy)).2.1
      rw [← List.range_eq_range'] at this
      rw [this, sumsF_range]
      apply List.map_congr_left
      intro i _
      rw [List.take_succ_cons, tsum_cons]
  · cases texts with
    | nil => simp at h
    | cons a rest =>
      obtain rfl : last = rest.length := by simpa using h.symm
      have := (give_run rest 0 a y (by simpa using hy)).2.2
      rw [← List.range_eq_range'] at this
      rw [this]
      simp
  · have hne : texts ≠ [] := by intro q; rw [q] at h; simp at h
    have hd : texts.dropLast.length = last := by simp [h]
    have hrl : texts.dropLast.reverse.length = last := by simp [h]
    have he : texts = texts.dropLast.reverse.reverse ++ (List.replicate 0 [] ++ [texts.getLast hne]) := by
      rw [List.reverse_reverse]
      simp [List.dropLast_concat_getLast]
    obtain ⟨m, i1, i2⟩ := take_run last texts.dropLast.reverse 0 (texts.getLast hne) y (by rw [hrl]; rfl) (hy.trans he)
    rw [hrl, tksF_range] at m i1 i2
    refine ⟨m, ?_, ?_⟩
    · rw [i1]
      apply List.ext_getElem
      · simp [h]
      · intro i h1 h2
        have hi : i < last := by simpa using h2
        have hj : last - 1 - i < texts.length := by omega
        simp only [List.getElem_map, List.getElem_reverse, List.getElem_dropLast, List.getElem_range, List.length_dropLast, h, Nat.add_sub_cancel]
        congr 2
        simp [List.getD, List.getElem?_eq_getElem hj]
    · rw [i2]
      congr 2
      have : texts.reverse = texts.getLast hne :: texts.dropLast.reverse := by
        conv => lhs; rw [← List.dropLast_concat_getLast hne]
        simp
      rw [this]
      simp
end Go.Proofs.YtimigjjokdnfbaaDoor
