/- Play. -/
import Derived.Test.YtkggebhkjgjijaaGreatDoorQ14
namespace Go.Proofs.YtkggebhkjgjijaaGreatDoor
open Go Go.RowKit

structure BRel (g : Gh) (s : SB) : Prop where
  txt : g.txt = s.text
  one : s.recent = 1 → g.lr = -1 ∧ 0 < g.off ∧ s.last = (g.all.drop (g.off - 1)).take 1
  rune : s.recent = 2 → g.lr = (s.last.length : Int) ∧ 0 < s.last.length ∧ s.last.length ≤ 4 ∧ s.last.length ≤ g.off ∧ s.last = (g.all.drop (g.off - s.last.length)).take s.last.length
  zero : s.recent = 3 ∨ s.recent = 4 → g.lr = 0
  cut : s.recent = 5 → g.lr = -1
  dom : 0 ≤ s.recent ∧ s.recent ≤ 5

theorem BRel.other {g : Gh} {s : SB} {t : List UInt8} (h : g.txt = t) : BRel g (s.other t) :=
  ⟨h, fun q => absurd q (by simp [SB.other]), fun q => absurd q (by simp [SB.other]), fun q => absurd q (by simp [SB.other]), fun q => absurd q (by simp [SB.other]), by simp [SB.other]⟩
theorem BRel.write {g g' : Gh} {s : SB} {l : List UInt8} (h : BRel g s) (ht : g'.txt = g.txt ++ l) (hl : g'.lr = 0) : BRel g' (s.write l) :=
  ⟨by rw [ht, h.txt]; rfl, fun q => absurd q (by simp [SB.write]), fun q => absurd q (by simp [SB.write]), fun _ => hl, fun q => absurd q (by simp [SB.write]), by simp [SB.write]⟩
theorem BRel.read0 {g g' : Gh} {s : SB} (r : Int) (h : BRel g s) (ht : g'.txt = g.txt) (hl : g'.lr = 0) : BRel g' (s.read 0 r) := by
  simp only [SB.read, if_true]
  exact ⟨by rw [ht, h.txt], fun q => absurd q (by simp), fun q => absurd q (by simp), fun _ => hl, fun q => absurd q (by simp), by simp⟩
theorem txt_part (g : Gh) (k n : Nat) (hl : g.len ≤ g.all.length) (hk : k + n ≤ g.txt.length) : (g.txt.drop k).take n = (g.all.drop (g.off + k)).take n := by
  have := g.txt_length hl
  simp only [Gh.txt, List.drop_drop]
  rw [List.drop_take, List.take_take, Nat.min_eq_left (by omega)]
theorem BRel.read1 {g g' : Gh} {s : SB} {k : Nat} (h : BRel g s) (hl : g.len ≤ g.all.length) (hk : 0 < k) (hkl : k ≤ g.txt.length) (ha : g'.all = g.all) (hn : g'.len = g.len) (ho : g'.off = g.off + k) (hr : g'.lr = -1) : BRel g' (s.read k 1) := by
  have e : k ≠ 0 := by omega
  simp only [SB.read, e, if_false, show ¬ ((1 : Int) = 2) by decide]
  refine ⟨by rw [← h.txt]; simp [Gh.txt, ha, hn, ho, List.drop_drop], fun _ => ⟨hr, by omega, ?_⟩, fun q => absurd q (by simp), fun q => absurd q (by simp), fun q => absurd q (by simp), by simp⟩
  have e2 : g.off + k - 1 = g.off + (k - 1) := by omega
  rw [← h.txt, txt_part g (k - 1) 1 hl (by omega), ha, ho, e2]
theorem BRel.read5 {g g' : Gh} {s : SB} {k : Nat} (h : BRel g s) (hk : 0 < k) (ha : g'.all = g.all) (hn : g'.len = g.len) (ho : g'.off = g.off + k) (hr : g'.lr = -1) : BRel g' (s.read k 5) := by
  have e : k ≠ 0 := by omega
  simp only [SB.read, e, if_false]
  exact ⟨by rw [← h.txt]; simp [Gh.txt, ha, hn, ho, List.drop_drop], fun q => absurd q (by simp), fun q => absurd q (by simp), fun q => absurd q (by simp), fun _ => hr, by simp⟩
theorem BRel.read2 {g g' : Gh} {s : SB} {k : Nat} (h : BRel g s) (hl : g.len ≤ g.all.length) (hk : 0 < k) (hk4 : k ≤ 4) (hkl : k ≤ g.txt.length) (ha : g'.all = g.all) (hn : g'.len = g.len) (ho : g'.off = g.off + k) (hr : g'.lr = (k : Int)) : BRel g' (s.read k 2) := by
  have e : k ≠ 0 := by omega
  simp only [SB.read, e, if_false, if_true]
  have hlen : (s.text.take k).length = k := by rw [← h.txt]; simp; omega
  refine ⟨by rw [← h.txt]; simp [Gh.txt, ha, hn, ho, List.drop_drop], fun q => absurd q (by simp), fun _ => ⟨by simp only [hlen]; exact hr, by simp only [hlen]; exact hk, by simp only [hlen]; exact hk4, by simp only [hlen]; omega, ?_⟩, fun q => absurd q (by simp), fun q => absurd q (by simp), by simp⟩
  simp only [hlen]
  rw [ha, ho, ← h.txt]
  have := txt_part g 0 k hl (by omega)
  simp only [List.drop_zero, Nat.add_zero] at this
  rw [this]
  congr 2
  omega
/-- The bytes ahead of what is unread, taken back. -/
theorem txt_back {g g' : Gh} {k : Nat} (ho : k ≤ g.off) (hol : g.off ≤ g.len) (_hl : g.len ≤ g.all.length) (ha : g'.all = g.all) (hn : g'.len = g.len) (hof : g'.off = g.off - k) : g'.txt = (g.all.drop (g.off - k)).take k ++ g.txt := by
  simp only [Gh.txt, ha, hn, hof]
  have e : (g.all.drop (g.off - k)).take k = ((g.all.take g.len).drop (g.off - k)).take k := by
    rw [List.drop_take, List.take_take, Nat.min_eq_left (by omega)]
  have e2 : (g.all.take g.len).drop g.off = ((g.all.take g.len).drop (g.off - k)).drop k := by
    rw [List.drop_drop]
    congr 1
    omega
  rw [e, e2, List.take_append_drop]
theorem BRel.back1 {g g' : Gh} {s : SB} (h : BRel g s) (hr : s.recent = 1 ∨ s.recent = 2) (hol : g.off ≤ g.len) (hl : g.len ≤ g.all.length) (ha : g'.all = g.all) (hn : g'.len = g.len) (hof : g'.off = g.off - 1) : BRel g' (s.other (s.last.drop (s.last.length - 1) ++ s.text)) := by
  refine BRel.other ?_
  rcases hr with hr | hr
  · obtain ⟨h1, h2, h3⟩ := h.one hr
    rw [txt_back (k := 1) (by omega) hol hl ha hn hof, h.txt, h3]
    have : ((g.all.drop (g.off - 1)).take 1).length = 1 := by simp; omega
    rw [this]
    rfl
  · obtain ⟨h1, h2, h3, h4, h5⟩ := h.rune hr
    rw [txt_back (k := 1) (by omega) hol hl ha hn hof, h.txt]
    congr 1
    generalize s.last.length = k at *
    rw [h5, List.drop_take, List.drop_drop]
    have e1 : k - (k - 1) = 1 := by omega
    have e2 : g.off - k + (k - 1) = g.off - 1 := by omega
    rw [e1, e2]
theorem BRel.back2 {g g' : Gh} {s : SB} (h : BRel g s) (hr : s.recent = 2) (hol : g.off ≤ g.len) (hl : g.len ≤ g.all.length) (ha : g'.all = g.all) (hn : g'.len = g.len) (hof : g'.off = g.off - s.last.length) : BRel g' (s.other (s.last ++ s.text)) := by
  refine BRel.other ?_
  obtain ⟨h1, h2, h3, h4, h5⟩ := h.rune hr
  rw [txt_back (k := s.last.length) h4 hol hl ha hn hof, h.txt]
  congr 1
  exact h5.symm
/-- Nothing that counts was changed. -/
theorem BRel.same {g g' : Gh} {s : SB} (h : BRel g s) (he : g' = g) : BRel g' s := he ▸ h

end Go.Proofs.YtkggebhkjgjijaaGreatDoor

namespace Go.Proofs.YtkggebhkjgjijaaGreatDoor
open Go Go.RowKit

structure Rel (bs : List (Nat × Gh)) (ds : List (Nat × BG)) (y : Yd) : Prop where
  bl : bs.length = y.bufs.length
  dl : ds.length = y.blds.length
  b : ∀ (i : Nat) (p : Nat × Gh) (s : SB), bs[i]? = some p → y.bufs[i]? = some s → BRel p.2 s
  d : ∀ (i : Nat) (p : Nat × BG) (s : List UInt8), ds[i]? = some p → y.blds[i]? = some s → p.2.txt = s

theorem Yd.buf_get {y : Yd} {i : Int} (h : inR i y.bufs.length) : y.bufs[i.toNat]? = some (y.buf i) := by
  have : i.toNat < y.bufs.length := by unfold inR at h; omega
  simp [Yd.buf, List.getD, List.getElem?_eq_getElem this]
theorem Yd.bld_get {y : Yd} {i : Int} (h : inR i y.blds.length) : y.blds[i.toNat]? = some (y.bld i) := by
  have : i.toNat < y.blds.length := by unfold inR at h; omega
  simp [Yd.bld, List.getD, List.getElem?_eq_getElem this]
section
variable {bs : List (Nat × Gh)} {ds : List (Nat × BG)} {y : Yd}
theorem Rel.getBuf (h : Rel bs ds y) {i : Int} (hi : inR i y.bufs.length) : ∃ b g, bs[i.toNat]? = some (b, g) ∧ BRel g (y.buf i) := by
  have hl : i.toNat < bs.length := by rw [h.bl]; unfold inR at hi; omega
  exact ⟨_, _, List.getElem?_eq_getElem hl, h.b _ _ _ (List.getElem?_eq_getElem hl) (Yd.buf_get hi)⟩
theorem Rel.getBld (h : Rel bs ds y) {i : Int} (hi : inR i y.blds.length) : ∃ b g, ds[i.toNat]? = some (b, g) ∧ g.txt = y.bld i := by
  have hl : i.toNat < ds.length := by rw [h.dl]; unfold inR at hi; omega
  exact ⟨_, _, List.getElem?_eq_getElem hl, h.d _ _ _ (List.getElem?_eq_getElem hl) (Yd.bld_get hi)⟩
theorem Rel.setBuf (h : Rel bs ds y) (i : Int) {b : Nat} {g : Gh} {s : SB} (hg : BRel g s) : Rel (bs.set i.toNat (b, g)) ds (y.setBuf i s) := by
  refine ⟨by simp [Yd.setBuf, h.bl], h.dl, fun k p s' h1 h2 => ?_, h.d⟩
  simp only [Yd.setBuf] at h2
  by_cases hk : i.toNat = k
  · subst hk
    by_cases hl : i.toNat < bs.length
    · rw [List.getElem?_set_self hl] at h1
      rw [List.getElem?_set_self (by rw [← h.bl]; exact hl)] at h2
      injection h1 with h1
      injection h2 with h2
      subst h1 h2
      exact hg
    · rw [List.getElem?_eq_none (by simp; omega)] at h1
      cases h1
  · rw [List.getElem?_set_ne hk] at h1 h2
    exact h.b k p s' h1 h2
theorem Rel.setBld (h : Rel bs ds y) (i : Int) {d : Nat} {e : BG} {s : List UInt8} (hg : e.txt = s) : Rel bs (ds.set i.toNat (d, e)) (y.setBld i s) := by
  refine ⟨h.bl, by simp [Yd.setBld, h.dl], h.b, fun k p s' h1 h2 => ?_⟩
  simp only [Yd.setBld] at h2
  by_cases hk : i.toNat = k
  · subst hk
    by_cases hl : i.toNat < ds.length
    · rw [List.getElem?_set_self hl] at h1
      rw [List.getElem?_set_self (by rw [← h.dl]; exact hl)] at h2
      injection h1 with h1
      injection h2 with h2
      subst h1 h2
      exact hg
    · rw [List.getElem?_eq_none (by simp; omega)] at h1
      cases h1
  · rw [List.getElem?_set_ne hk] at h1 h2
    exact h.d k p s' h1 h2
end

/-- How long texts are together. -/
def tsum (l : List (List UInt8)) : Nat := (l.map List.length).sum
theorem tsum_nil : tsum [] = 0 := rfl
theorem tsum_cons (a : List UInt8) (l : List (List UInt8)) : tsum (a :: l) = a.length + tsum l := by simp [tsum]
theorem tsum_get : ∀ (l : List (List UInt8)) (i : Nat) (a : List UInt8), l[i]? = some a → ∀ x : List UInt8, tsum (l.set i x) + a.length = tsum l + x.length
  | [], i, a, h, x => by simp at h
  | b :: l, 0, a, h, x => by
    simp only [List.getElem?_cons_zero, Option.some.injEq] at h
    subst h
    simp only [List.set_cons_zero, tsum_cons]
    omega
  | b :: l, i + 1, a, h, x => by
    have := tsum_get l i a (by simpa using h) x
    simp only [List.set_cons_succ, tsum_cons]
    omega
theorem tsum_mem : ∀ (l : List (List UInt8)) (i : Nat) (a : List UInt8), l[i]? = some a → a.length ≤ tsum l
  | [], i, a, h => by simp at h
  | b :: l, 0, a, h => by
    simp only [List.getElem?_cons_zero, Option.some.injEq] at h
    subst h
    rw [tsum_cons]; omega
  | b :: l, i + 1, a, h => by
    have := tsum_mem l i a (by simpa using h)
    rw [tsum_cons]; omega
def Yd.tot (y : Yd) : Nat := tsum y.texts + tsum y.blds
theorem Yd.texts_get {y : Yd} {i : Nat} {s : SB} (h : y.bufs[i]? = some s) : y.texts[i]? = some s.text := by simp [Yd.texts, h]
theorem Yd.texts_set (y : Yd) (i : Int) (s : SB) : (y.setBuf i s).texts = y.texts.set i.toNat s.text := by simp [Yd.texts, Yd.setBuf, List.map_set]
theorem Yd.tot_setBuf {y : Yd} {i : Int} (h : inR i y.bufs.length) (s : SB) : (y.setBuf i s).tot + (y.buf i).text.length = y.tot + s.text.length := by
  have := tsum_get y.texts i.toNat _ (Yd.texts_get (Yd.buf_get h)) s.text
  unfold Yd.tot
  rw [Yd.texts_set]
  simp only [Yd.setBuf]
  omega
theorem Yd.tot_setBld {y : Yd} {i : Int} (h : inR i y.blds.length) (s : List UInt8) : (y.setBld i s).tot + (y.bld i).length = y.tot + s.length := by
  have := tsum_get y.blds i.toNat _ (Yd.bld_get h) s
  unfold Yd.tot
  simp only [Yd.setBld, Yd.texts] at *
  omega
theorem Yd.buf_le {y : Yd} {i : Int} (h : inR i y.bufs.length) : (y.buf i).text.length ≤ y.tot := by
  have := tsum_mem y.texts i.toNat _ (Yd.texts_get (Yd.buf_get h))
  unfold Yd.tot
  omega
theorem Yd.bld_le {y : Yd} {i : Int} (h : inR i y.blds.length) : (y.bld i).length ≤ y.tot := by
  have := tsum_mem y.blds i.toNat _ (Yd.bld_get h)
  unfold Yd.tot
  omega
theorem Yd.two_le {y : Yd} {i j : Int} (h : inR i y.bufs.length) (k : inR j y.bufs.length) (hij : i ≠ j) : (y.buf i).text.length + (y.buf j).text.length ≤ y.tot := by
  have h1 := Yd.tot_setBuf h (SB.other SB.zero [])
  have hk : inR j (y.setBuf i (SB.other SB.zero [])).bufs.length := by simpa [Yd.setBuf] using k
  have h2 := Yd.buf_le hk
  have e : (y.setBuf i (SB.other SB.zero [])).buf j = y.buf j := by
    have : i.toNat ≠ j.toNat := by unfold inR at h k; omega
    simp [Yd.setBuf, Yd.buf, List.getD, List.getElem?_set_ne this]
  rw [e] at h2
  have e1 : (SB.other SB.zero []).text.length = 0 := rfl
  rw [e1] at h1
  omega
theorem enc_le (r : Int) : (enc r).length ≤ 4 := by
  unfold enc
  split
  · simp
  · unfold Lib.encodeRune
    rw [List.length_map]
    unfold Lib.encodeRuneZ
    repeat' split
    all_goals simp
end Go.Proofs.YtkggebhkjgjijaaGreatDoor

namespace Go.Proofs.YtkggebhkjgjijaaGreatDoor
open Go Go.RowKit

theorem SB.read_len (b : SB) (n : Nat) (r : Int) (hr : r = 2 → n ≤ 4) : (b.read n r).text.length ≤ b.text.length ∧ (b.read n r).last.length ≤ 4 := by
  unfold SB.read
  by_cases hn : n = 0
  · simp [hn]
  · rw [if_neg hn]
    refine ⟨by simp, ?_⟩
    by_cases h2 : r = 2
    · simp only [h2, if_true, List.length_take]
      have := hr h2
      omega
    · simp only [h2, if_false, List.length_take]
      omega
theorem SB.reads_len (b : SB) (c : Cl) : (b.reads c).1.text.length ≤ b.text.length ∧ (b.reads c).1.last.length ≤ 4 := by
  unfold SB.reads
  simp only
  repeat' split
  all_goals first
    | exact b.read_len _ _ (fun q => absurd q (by decide))
    | exact b.read_len 0 2 (fun _ => by decide)
    | exact ⟨Nat.zero_le _, Nat.zero_le _⟩
    | (rename_i h; exact b.read_len _ 2 (fun _ => (dec_le b.text h).2.2))
theorem SB.look_len (b : SB) (c : Cl) (h : b.last.length ≤ 4) : (b.look c).1.text.length ≤ b.text.length ∧ (b.look c).1.last.length ≤ 4 := by
  unfold SB.look
  simp only
  repeat' split
  all_goals first
    | exact ⟨Nat.le_refl _, h⟩
    | exact ⟨Nat.le_refl _, Nat.zero_le _⟩
    | (constructor
       · (simp [SB.other] <;> omega)
       · exact Nat.zero_le _)
theorem SB.back_len (b : SB) (c : Cl) (h : b.last.length ≤ 4) : (b.back c).1.text.length ≤ b.text.length + 4 ∧ (b.back c).1.last.length ≤ 4 := by
  unfold SB.back
  repeat' split
  all_goals first
    | exact ⟨Nat.le_add_right _ _, h⟩
    | (constructor
       · (simp [SB.other] <;> omega)
       · exact Nat.zero_le _)
theorem SB.do_len (b : SB) (c : Cl) (h : b.last.length ≤ 4) : (b.do c).1.text.length ≤ b.text.length + c.text.length + 4 ∧ (b.do c).1.last.length ≤ 4 := by
  have he := enc_le c.char
  have h1 := b.reads_len c
  have h2 := b.look_len c h
  have h3 := b.back_len c h
  unfold SB.do
  repeat' split
  all_goals first
    | exact ⟨Nat.le_trans h1.1 (Nat.le_trans (Nat.le_add_right _ _) (Nat.le_add_right _ _)), h1.2⟩
    | exact ⟨Nat.le_trans h2.1 (Nat.le_trans (Nat.le_add_right _ _) (Nat.le_add_right _ _)), h2.2⟩
    | exact ⟨Nat.le_trans h3.1 (Nat.add_le_add_right (Nat.le_add_right _ _) _), h3.2⟩
    | exact ⟨Nat.le_trans (Nat.le_add_right _ _) (Nat.le_add_right _ _), h⟩
    | (constructor
       · (simp [SB.other, SB.write] <;> omega)
       · exact Nat.zero_le _)
theorem putS_len (s : List UInt8) (c : Cl) : (putS s c).1.length ≤ s.length + c.text.length + 4 := by
  have he := enc_le c.char
  unfold putS
  repeat' split
  all_goals (simp <;> omega)

/-- What a read returned last is short. -/
def Yd.ok (y : Yd) : Prop := ∀ (i : Nat) (s : SB), y.bufs[i]? = some s → s.last.length ≤ 4
theorem Yd.ok.buf {y : Yd} (h : y.ok) {i : Int} (hi : inR i y.bufs.length) : (y.buf i).last.length ≤ 4 := h _ _ (Yd.buf_get hi)
theorem Yd.ok.setBuf {y : Yd} (h : y.ok) (i : Int) {s : SB} (hs : s.last.length ≤ 4) : (y.setBuf i s).ok := by
  intro k t ht
  simp only [Yd.setBuf, List.getElem?_set] at ht
  split at ht
  · split at ht
    · injection ht with ht
      subst ht
      exact hs
    · cases ht
  · exact h k t ht
theorem Yd.ok.setBld {y : Yd} (h : y.ok) (i : Int) (s : List UInt8) : (y.setBld i s).ok := h
theorem Yd.setBuf_len (y : Yd) (i : Int) (s : SB) : (y.setBuf i s).bufs.length = y.bufs.length := by simp [Yd.setBuf]
theorem Yd.buf_set_ne {y : Yd} {i j : Int} (hi : 0 ≤ i) (hj : 0 ≤ j) (h : i ≠ j) (s : SB) : (y.setBuf i s).buf j = y.buf j := by
  have : i.toNat ≠ j.toNat := by omega
  simp [Yd.setBuf, Yd.buf, List.getD, List.getElem?_set_ne this]

theorem Yd.flow_len {y : Yd} (c : Cl) (h : y.ok) (ha : inR c.a y.bufs.length) : (y.flow c).1.ok ∧ (y.flow c).1.tot ≤ y.tot + c.text.length ∧ (y.flow c).1.bufs.length = y.bufs.length ∧ (y.flow c).1.blds.length = y.blds.length := by
  unfold Yd.flow
  simp only
  split
  · split
    · exact ⟨h, Nat.le_add_right _ _, rfl, rfl⟩
    · have := Yd.tot_setBuf ha ((y.buf c.a).other [])
      refine ⟨h.setBuf _ (by simp [SB.other]), ?_, by simp [Yd.setBuf], rfl⟩
      simp [SB.other] at this ⊢
      omega
  · split
    · have := Yd.tot_setBuf ha ((y.buf c.a).other ((y.buf c.a).text ++ c.text))
      refine ⟨h.setBuf _ (by simp [SB.other]), ?_, by simp [Yd.setBuf], rfl⟩
      simp [SB.other] at this ⊢
      omega
    · split
      · split
        · rename_i hb
          have h1 := Yd.tot_setBuf ha ((y.buf c.a).other [])
          have hb' : inR c.b (y.setBuf c.a ((y.buf c.a).other [])).blds.length := hb
          have h2 := Yd.tot_setBld hb' (y.bld c.b ++ (y.buf c.a).text)
          have e : (y.setBuf c.a ((y.buf c.a).other [])).bld c.b = y.bld c.b := rfl
          rw [e] at h2
          refine ⟨(h.setBuf _ (by simp [SB.other])).setBld _ _, ?_, by simp [Yd.setBuf, Yd.setBld], by simp [Yd.setBuf, Yd.setBld]⟩
          simp [SB.other] at h1 h2 ⊢
          omega
        · exact ⟨h, Nat.le_add_right _ _, rfl, rfl⟩
      · split
        · rename_i hb
          obtain ⟨hb, hne⟩ := hb
          split
          · have h1 := Yd.tot_setBuf ha ((y.buf c.a).other ((y.buf c.a).text ++ (y.buf c.b).text))
            have hb' : inR c.b (y.setBuf c.a ((y.buf c.a).other ((y.buf c.a).text ++ (y.buf c.b).text))).bufs.length := by rw [Yd.setBuf_len]; exact hb
            have h2 := Yd.tot_setBuf hb' ((y.buf c.b).other [])
            rw [Yd.buf_set_ne ha.1 hb.1 hne] at h2
            refine ⟨(h.setBuf _ (by simp [SB.other])).setBuf _ (by simp [SB.other]), ?_, by simp [Yd.setBuf], rfl⟩
            simp [SB.other] at h1 h2 ⊢
            omega
          · have h1 := Yd.tot_setBuf ha ((y.buf c.a).other [])
            have hb' : inR c.b (y.setBuf c.a ((y.buf c.a).other [])).bufs.length := by rw [Yd.setBuf_len]; exact hb
            have h2 := Yd.tot_setBuf hb' (if (y.buf c.a).text = [] then (y.buf c.b).other (y.buf c.b).text else (y.buf c.b).write (y.buf c.a).text)
            rw [Yd.buf_set_ne ha.1 hb.1 hne] at h2
            refine ⟨(h.setBuf _ (by simp [SB.other])).setBuf _ (by split <;> simp [SB.other, SB.write]), ?_, by simp [Yd.setBuf], rfl⟩
            have h3 : (if (y.buf c.a).text = [] then (y.buf c.b).other (y.buf c.b).text else (y.buf c.b).write (y.buf c.a).text).text.length ≤ (y.buf c.b).text.length + (y.buf c.a).text.length := by
              split <;> simp [SB.other, SB.write]
            simp [SB.other] at h1 h2 ⊢
            simp [SB.other] at h3
            omega
        · exact ⟨h, Nat.le_add_right _ _, rfl, rfl⟩

/-- What a call does to the sizes. -/
structure Yd.Kept (y y' : Yd) (n : Nat) : Prop where
  ok : y'.ok
  tot : y'.tot ≤ y.tot + n
  bl : y'.bufs.length = y.bufs.length
  dl : y'.blds.length = y.blds.length
theorem Yd.do_kept {y : Yd} (c : Cl) (h : y.ok) : y.Kept (y.do c).1 (c.text.length + 4) := by
  have same : y.Kept y (c.text.length + 4) := ⟨h, by omega, rfl, rfl⟩
  unfold Yd.do
  split
  · exact same
  · split
    · split
      · rename_i hb
        have h1 := Yd.tot_setBld hb (putS (y.bld c.a) c).1
        have h2 := putS_len (y.bld c.a) c
        exact ⟨h, by simp only; omega, rfl, by simp [Yd.setBld]⟩
      · exact same
    · split
      · rename_i hb
        split
        · obtain ⟨h1, h2, h3, h4⟩ := Yd.flow_len c h hb
          exact ⟨h1, by omega, h3, h4⟩
        · have h1 := (y.buf c.a).do_len c (h.buf hb)
          have h2 := Yd.tot_setBuf hb ((y.buf c.a).do c).1
          exact ⟨h.setBuf _ h1.2, by simp only; omega, by simp [Yd.setBuf], rfl⟩
      · exact same
end Go.Proofs.YtkggebhkjgjijaaGreatDoor

namespace Go.Proofs.YtkggebhkjgjijaaGreatDoor
open Go Go.RowKit

theorem Yd.ext' {y z : Yd} (h1 : y.bufs = z.bufs) (h2 : y.blds = z.blds) : y = z := by
  cases y; cases z; simp_all
/-- A script that the reference settles, and in which nothing panics. -/
def Mild : Yd → List Cl → Prop
  | _, [] => True
  | y, c :: l => (y.do c).2.2 = true ∧ (y.do c).2.1.said ≠ 3 ∧ Mild (y.do c).1 l
theorem calm_mild : ∀ (l : List Cl) (y : Yd), Mild y (calmF y l)
  | [], _ => trivial
  | c :: l, y => by
    simp only [calmF]
    split
    · rename_i h
      exact ⟨h.1, h.2, calm_mild l _⟩
    · exact calm_mild l y
theorem Mild.len : ∀ (l : List Cl) (y : Yd), Mild y l → (runF y l).1.length = l.length
  | [], _, _ => rfl
  | c :: l, y, h => by
    simp only [runF]
    rw [if_neg h.2.1]
    simp [Mild.len l _ h.2.2]
theorem calm_len : ∀ (l : List Cl) (y : Yd), (calmF y l).length ≤ l.length
  | [], _ => Nat.le_refl _
  | c :: l, y => by
    simp only [calmF]
    split
    · have := calm_len l (y.do c).1
      simp; omega
    · have := calm_len l y
      simp; omega

/-- How much a script can write. -/
def wsum (l : List Cl) : Nat := (l.map fun c => c.text.length + 4).sum
theorem wsum_cons (c : Cl) (l : List Cl) : wsum (c :: l) = c.text.length + 4 + wsum l := by simp [wsum]
theorem wsum_append (l m : List Cl) : wsum (l ++ m) = wsum l + wsum m := by simp [wsum]
theorem wsum_calm : ∀ (l : List Cl) (y : Yd), wsum (calmF y l) ≤ wsum l
  | [], _ => Nat.le_refl _
  | c :: l, y => by
    simp only [calmF]
    split
    · have := wsum_calm l (y.do c).1
      simp only [wsum_cons]; omega
    · have := wsum_calm l y
      simp only [wsum_cons]; omega
theorem calm_mem : ∀ (l : List Cl) (y : Yd), ∀ c ∈ calmF y l, c ∈ l
  | [], _, c, h => h
  | d :: l, y, c, h => by
    simp only [calmF] at h
    split at h
    · rcases List.mem_cons.1 h with h | h
      · simp [h]
      · exact List.mem_cons_of_mem _ (calm_mem l _ c h)
    · exact List.mem_cons_of_mem _ (calm_mem l y c h)
end Go.Proofs.YtkggebhkjgjijaaGreatDoor
