/- (*impl.source).Read of a piece. -/
import Derived.Test.YtmifjolehieccaaDoorSource
namespace Go.Proofs.YtmifjolehieccaaDoor
open Go Go.RowKit

section
variable {w w' : World} {sb base : Nat} {A : Option Addr} {c : Nat} {v : Value} {p q : List UInt8} {rest : List (List UInt8)} {fl : Bool} {ak : List Nat}
theorem SrcC.drew {ps : List (List UInt8)} (h : SrcC w sb base A c v ps fl ak) : SrcC w.drew sb base A c v ps fl ak := h.fr ((Fr.refl (fun _ => False) w).drew) (fun _ (q : False) => q.elim)
/-- Where the first piece lies. -/
theorem SrcC.first (h : SrcC w sb base A c v (p :: rest) fl ak) : ∃ r o, A = some ⟨r, o, none⟩ ∧ base ≤ r ∧ w.cell? ⟨r, o, none⟩ = some (strV p) ∧ w.frozen? ⟨r, o, none⟩ = false ∧ Typed w r 9 := by
  obtain ⟨r, o, cur, rfl, h1, h2, h3⟩ := h.row (by simp)
  refine ⟨r, o, rfl, h1, ?_, by simp [World.frozen?, h2], ⟨_, _, h2⟩⟩
  have := h3 0 p rfl
  rw [cell_of_row w r o _ _ _ h2]
  simpa using this
theorem SrcC.putStr {r o : Nat} (h : SrcC w sb base (some ⟨r, o, none⟩) c v (p :: rest) fl ak) : SrcC (w.setCell ⟨r, o, none⟩ (strV q)) sb base (some ⟨r, o, none⟩) c v (q :: rest) fl ak := by
  obtain ⟨r', o', cur, e, h1, h2, h3⟩ := h.row (by simp)
  injection e with e
  injection e with e1 e2 e3
  subst e1 e2
  have hne : sb ≠ r := by
    rintro rfl
    have := h.st
    rw [h2] at this
    injection this with this
    injection this with _ this
    exact absurd this (by decide)
  have hfr : Fr (Just r) w (w.setCell ⟨r, o, none⟩ (strV q)) := (Fr.refl _ w).setCell (fun _ => just_self r) _
  refine ⟨h.bb, hfr.blk h.st (fun k => hne k), fun _ => ⟨r, o, cur.setIfInBounds o (strV q), rfl, h1, ?_, ?_⟩, h.len, h.own.fr hfr (fun g hg k => h.own.ne_blk h2 (by decide) hg k)⟩
  · simp [World.setCell, Array.getElem?_modify, h2]
  · intro j x hx
    cases j with
    | zero =>
      simp only [List.getElem?_cons_zero, Option.some.injEq] at hx
      subst hx
      have := h3 0 p rfl
      have hlt : o < cur.size := (Array.getElem?_eq_some_iff.1 this).1
      simp [hlt]
    | succ j =>
      have := h3 (j + 1) x (by simpa using hx)
      rw [Array.getElem?_setIfInBounds_ne (by omega)]
      exact this
theorem SrcC.tail {r o : Nat} {A' : Option Addr} (h : SrcC w sb base (some ⟨r, o, none⟩) c v (p :: rest) fl ak) (hA : ¬ c = 1 → A' = some ⟨r, o + 1, none⟩) : SrcC (w.setCell ⟨sb, 0, none⟩ (.slice A' rest.length (c - 1))) sb base A' (c - 1) v rest fl ak := by
  have hfr : Fr (Just sb) w (w.setCell ⟨sb, 0, none⟩ (.slice A' rest.length (c - 1))) := (Fr.refl _ w).setCell (fun _ => just_self sb) _
  have hlen := h.len
  simp only [List.length_cons] at hlen
  refine ⟨h.bb, ?_, fun hne => ?_, by omega, h.own.fr hfr (fun g hg k => h.own.ne_blk h.st (by decide) hg k)⟩
  · have := h.st
    simp [World.setCell, Array.getElem?_modify, this]
  · obtain ⟨r', o', cur, e, h1, h2, h3⟩ := h.row (by simp)
    injection e with e
    injection e with e1 e2 e3
    subst e1 e2
    have : 0 < rest.length := List.length_pos_iff.2 hne
    refine ⟨r, o + 1, cur, hA (by omega), h1, hfr.blk h2 (fun k => ?_), fun j x hx => ?_⟩
    · have k : r = sb := k
      subst k
      have := h.st
      rw [h2] at this
      injection this with this
      injection this with _ this
      exact absurd this (by decide)
    · have := h3 (j + 1) x (by simpa using hx)
      rwa [show o + 1 + j = o + (j + 1) by omega]
end

/-- What is left of the pieces behind a read into n bytes. -/
def psNext (p : List UInt8) (rest : List (List UInt8)) (n : Nat) : List (List UInt8) := if p.length ≤ n then rest else p.drop n :: rest
def SourcePost (w : World) (sb base : Nat) (p : List UInt8) (rest : List (List UInt8)) (fl : Bool) (ak : List Nat) (r off n : Nat) (all : List UInt8) (e : Ending) (w' : World) : Prop :=
  e = .returned (.tuple #[.int .i64 ((min p.length n : Nat) : Int), .nilIface]) ∧ SrcAt w' sb base (psNext p rest n) fl (ak ++ [n]) ∧ Row 5 w' r (splice all off (p.take n)) ∧ Fr (fun x => x = r ∨ srcS w base x) w w'

set_option maxHeartbeats 1600000 in
set_option maxRecDepth 100000 in
theorem source_some (sb base : Nat) (p : List UInt8) (rest : List (List UInt8)) (fl : Bool) (ak : List Nat) (r off n c : Nat) (all : List UInt8) (w : World) (h : SrcAt w sb base (p :: rest) fl ak) (hrow : Row 5 w r all) (hfit : off + n ≤ all.length)
    (hak : ak.length ≤ 4294967296) (hb : base ≤ w.heap.size) (_hn : n ≤ 9223372036854775807) (_hp : p.length ≤ 1099511627776) (hrl : rest.length ≤ 4294967296) :
    Calls Tryd.prog 94 #[.pointer (some ⟨sb, 0, none⟩), .slice (some ⟨r, off, none⟩) n c] w (SourcePost w sb base p rest fl ak r off n all) := by
  obtain ⟨A0, c0, v0, hC⟩ := h
  have k0 := hC.c0; have k1 := hC.c1; have k2 := hC.c2; have f2 := hC.f 2
  have hlt := hC.lt
  simp only [List.length_cons] at k0
  have H := Lib.hid hC
  have HR := Lib.hid hrow
  have HN : w.heap.size ≠ sb := by omega
  have hclen := hC.len
  simp only [List.length_cons] at hclen
  clear hC hrow
  go_enter Tryd.func94, Tryd.ntmps94
  go_wp2_with (refine wpList_app rfl elem_int (.tmp 11) (.tmp 14) rfl base _ ak.length _ (by rfl) (H.out.own.fr ((Fr.refl (fun _ => False) w).alloc _) (fun _ _ q => q)) w.heap.size [intV n] 3 (by rfl) (by exact heap_alloc_new w _) rfl (by simp [intV, Value.oneCell']) (by omega) (by simp; omega) ?_)
  intro gb cap w1 hown hfr hat hlt1
  have hC1 := H.out.fr ((Fr.refl (fun _ => False) w).alloc (.cells #[intV n] 3)) (fun _ q => q.elim)
  have hst1 := hC1.st_own hfr
  have k2' : w1.cell? ⟨sb, 2, none⟩ = some v0 := by rw [cell_of_row w1 sb 2 _ _ _ hst1]; rfl
  have f2' : w1.frozen? ⟨sb, 2, none⟩ = false := by simp [World.frozen?, hst1]
  have hC2 := hC1.put2 (ak' := ak ++ [n]) hfr (by simpa [ints'] using hown)
  have HO := H.out.own
  have hF2 : Fr (srcS w base) w (w1.setCell ⟨sb, 2, none⟩ (.slice (some ⟨gb, 0, none⟩) (ak.length + 1) cap)) := by
    refine Fr.setCell (((Fr.refl _ w).alloc _).trans' hfr ?_) (fun _ => ⟨H.out.bb, Typed.ne ⟨_, _, H.out.st⟩ (by decide)⟩) _
    intro i hi q
    exact ⟨HO.blk_ge q, fun ⟨cs, fz, k⟩ => HO.ne_blk k (by decide) q rfl⟩
  have hR2 : Row 5 (w1.setCell ⟨sb, 2, none⟩ (.slice (some ⟨gb, 0, none⟩) (ak.length + 1) cap)) r all := HR.out.fr hF2 (fun q => q.2 (by obtain ⟨fz, h1, _⟩ := HR.out; exact ⟨_, _, h1⟩))
  generalize hw2 : w1.setCell ⟨sb, 2, none⟩ (.slice (some ⟨gb, 0, none⟩) (ak.length + 1) cap) = w2 at *
  obtain ⟨r0, o0, rfl, hr0, hcell0, hfro0, hty0⟩ := hC2.first
  have q0 := hC2.c0
  have HC2 := Lib.hid hC2
  have HF2 := Lib.hid hF2
  have HR2 := Lib.hid hR2
  simp only [List.length_cons] at q0
  unfold strV at hcell0
  clear hC1 hst1 hC2 hF2 HO hown hfr hat k0 k1 k2 f2 hR2 hty0 hfro0
  obtain ⟨m, hm⟩ : ∃ m, Nat.min p.length n = m := ⟨_, rfl⟩
  have hm' : min p.length n = m := hm
  have hmp : m ≤ p.length := by omega
  have hmn : m ≤ n := by omega
  have hmi : (m : Int) ≤ (p.length : Int) := by omega
  have hm0 : (0 : Int) ≤ (m : Int) := by omega
  have HM := Lib.hid hm
  have HM' := Lib.hid hm'
  have hx2 := ext_drop p m
  clear hm hm'
  go_wp2_with (refine wpList_copy8 rfl (.tmp 30) (.tmp 36) _ rfl r off n c m all p _ _ (by rfl) (by rfl) HR2.out (Src.str _ p) HM.out (fun _ => rfl) (by omega) ?_)
  intro w3 hrow3 hfr3
  have hC3 := HC2.out.fr hfr3 (fun x k _ => by have k : x = r := k; subst k; obtain ⟨fz, h1, _⟩ := HR2.out; exact ⟨_, _, h1⟩)
  have hC4 := hC3.putStr (q := p.drop m)
  obtain ⟨r0', o0', e0, hr0', hcell3, hfro3, hty3⟩ := hC3.first
  injection e0 with e0
  injection e0 with e1 e2 e3
  subst e1 e2
  have q3 := hC3.c0
  simp only [List.length_cons] at q3
  unfold strV at hcell3
  have hF4 : Fr (fun x => x = r ∨ srcS w base x) w (w3.setCell ⟨r0, o0, none⟩ (strV (p.drop m))) := by
    have g1 : Fr (fun x => x = r ∨ srcS w base x) w w3 := (HF2.out.mono (fun i _ q => .inr q)).trans' hfr3 (fun i _ q => .inl q)
    refine g1.setCell (fun hlt => .inr ⟨hr0, ?_⟩) _
    obtain ⟨r1, o1, e1, _, _, _, hty1⟩ := H.out.first
    injection e1 with e1
    injection e1 with e1
    subst e1
    exact hty1.ne (by decide)
  have hR4 : Row 5 (w3.setCell ⟨r0, o0, none⟩ (strV (p.drop m))) r (splice all off (p.take m)) := hrow3.setCell_far (fun e => by have e : r = r0 := e; subst e; obtain ⟨fz, h1, _⟩ := hrow3; exact hty3.ne (by decide) ⟨_, _, h1⟩) _
  unfold strV at hC4 hF4 hR4
  generalize hw4 : w3.setCell ⟨r0, o0, none⟩ (.string ⟨(p.drop m).toArray⟩) = w4 at *
  have HC4 := Lib.hid hC4
  have HF4 := Lib.hid hF4
  have HR4 := Lib.hid hR4
  have p4 := hC4.c0
  obtain ⟨r0', o0', e0, _, hcell4, hfro4, _⟩ := hC4.first
  injection e0 with e0
  injection e0 with e1 e2 e3
  subst e1 e2
  have f40 := hC4.f 0
  unfold strV at hcell4
  simp only [List.length_cons] at p4
  clear hC3 hC4 hF4 hR4 hrow3 hfr3 hcell0 q0 hty3 hr0'
  go_wp2_with fail
  refine wp_region_mixed 13 (by kernel_rfl) (by kernel_rfl) (fun _ _ d _ _ h => by cases d <;> exact h) ?_
  simp only [List.take_succ_cons, List.take_zero, List.drop_succ_cons, List.drop_zero, List.filter_cons, List.filter_nil, isMv, Array.isEmpty_iff, Bool.not_false, Bool.and_true, Option.isNone_none, if_true, if_false, Bool.false_eq_true]
  repeat still_step
  refine wpStill_nil ?_
  have hfin : ∀ w', SrcAt w' sb base (psNext p rest n) fl (ak ++ [n]) → Fr (Just sb) w4 w' → SourcePost w sb base p rest fl ak r off n all (.returned (.tuple #[.int .i64 (m : Int), .nilIface])) w' := by
    intro w' g1 g2
    have e1 : p.take m = p.take n := by rw [← HM'.out, Nat.min_comm, ← List.take_eq_take_min]
    refine ⟨by rw [HM'.out], g1, ?_, HF4.out.trans' g2 (fun i _ q => .inr ?_)⟩
    · rw [← e1]
      exact HR4.out.fr g2 (fun q => HR4.out.ne_blk HC4.out.st (by decide) q)
    · have q : i = sb := q
      subst q
      exact ⟨H.out.bb, Typed.ne ⟨_, _, H.out.st⟩ (by decide)⟩
  have HFIN := Lib.hid hfin
  clear hfin
  by_cases hpe : p.length ≤ n
  · have hb1 : (p.drop m).isEmpty = true := by have := HM'.out; simp; omega
    have hnx : Hid (psNext p rest n = rest) := by unfold psNext; exact if_pos hpe
    by_cases hc1 : c0 = 1
    · subst hc1
      obtain rfl : rest = [] := List.eq_nil_of_length_eq_zero (by omega)
      simp only [List.length_nil] at p4 q3
      go_wp2_with fail
      go_ret2
      refine HFIN.out _ ?_ (((Fr.refl _ w4).setCell (fun _ => just_self sb) _).drew)
      rw [hnx.out]
      exact ⟨_, _, _, (HC4.out.tail (A' := some ⟨r0, o0, none⟩) (fun q => absurd rfl q)).drew⟩
    · go_wp2_with fail
      go_ret2
      refine HFIN.out _ ?_ (((Fr.refl _ w4).setCell (fun _ => just_self sb) _).drew)
      rw [hnx.out]
      exact ⟨_, _, _, (HC4.out.tail (fun q => rfl)).drew⟩
  · have hb1 : (p.drop m).isEmpty = false := by have := HM'.out; simp; omega
    have hnx := Lib.hid (show psNext p rest n = p.drop m :: rest by unfold psNext; rw [if_neg hpe, show m = n by have := HM'.out; omega])
    go_wp2_with fail
    go_ret2
    refine HFIN.out _ ?_ ((Fr.refl _ w4).drew)
    rw [hnx.out]
    exact ⟨_, _, _, HC4.out.drew⟩
end Go.Proofs.YtmifjolehieccaaDoor
