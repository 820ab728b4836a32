/- Run, Eq, SpecA, SpecE, LawK, SpecP. -/
import Derived.Test.YtbodbajgpgaoeaaGreatDoorQ11
import Derived.Deep.RegionHeld
import Derived.Laws.BitsLemmas
namespace Go.Proofs.YtbodbajgpgaoeaaGreatDoor
open Go Go.RowKit

theorem runF_snoc : ∀ (l : List Cl) (y : Yd) (c : Cl), Mild y (l ++ [c]) → Mild y l ∧ ((runF y l).2.do c).2.2 = true ∧ ((runF y l).2.do c).2.1.said ≠ 3 ∧ runF y (l ++ [c]) = ((runF y l).1 ++ [((runF y l).2.do c).2.1], ((runF y l).2.do c).1)
  | [], y, c, h => by
    have h' : (y.do c).2.2 = true ∧ (y.do c).2.1.said ≠ 3 ∧ Mild (y.do c).1 [] := h
    refine ⟨trivial, h'.1, h'.2.1, ?_⟩
    simp only [List.nil_append, runF]
    rw [if_neg h'.2.1]
  | d :: l, y, c, h => by
    have h' : (y.do d).2.2 = true ∧ (y.do d).2.1.said ≠ 3 ∧ Mild (y.do d).1 (l ++ [c]) := h
    obtain ⟨k1, k2, k3, k4⟩ := runF_snoc l _ c h'.2.2
    have e1 : runF y (d :: l) = ((y.do d).2.1 :: (runF (y.do d).1 l).1, (runF (y.do d).1 l).2) := by simp only [runF]; rw [if_neg h'.2.1]
    have e2 : runF y (d :: (l ++ [c])) = ((y.do d).2.1 :: (runF (y.do d).1 (l ++ [c])).1, (runF (y.do d).1 (l ++ [c])).2) := by simp only [runF]; rw [if_neg h'.2.1]
    rw [List.cons_append, e1, e2, k4]
    exact ⟨⟨h'.1, h'.2.1, k1⟩, k2, k3, rfl⟩
theorem Mild.take : ∀ (l : List Cl) (y : Yd) (k : Nat), Mild y l → Mild y (l.take k)
  | [], y, k, h => by simp [Mild]
  | c :: l, y, 0, h => trivial
  | c :: l, y, k + 1, h => ⟨h.1, h.2.1, Mild.take l _ k h.2.2⟩
theorem runF_succ {cs : List Cl} {y : Yd} (h : Mild y cs) {k : Nat} (hk : k < cs.length) : ((runF y (cs.take k)).2.do cs[k]).2.2 = true ∧ ((runF y (cs.take k)).2.do cs[k]).2.1.said ≠ 3 ∧
    runF y (cs.take (k + 1)) = ((runF y (cs.take k)).1 ++ [((runF y (cs.take k)).2.do cs[k]).2.1], ((runF y (cs.take k)).2.do cs[k]).1) := by
  have hm := Mild.take cs y (k + 1) h
  rw [List.take_succ_eq_append_getElem hk] at hm ⊢
  exact (runF_snoc _ _ _ hm).2
/-- The sizes along a script. -/
theorem runF_kept {cs : List Cl} {y : Yd} (h : Mild y cs) (hy : y.ok) : ∀ k, k ≤ cs.length → y.Kept (runF y (cs.take k)).2 (wsum (cs.take k))
  | 0, _ => ⟨hy, Nat.le_add_right _ _, rfl, rfl⟩
  | k + 1, hk => by
    have ih := runF_kept h hy k (by omega)
    obtain ⟨_, _, e⟩ := runF_succ h (show k < cs.length by omega)
    have hd := Yd.do_kept cs[k] ih.ok
    rw [e]
    refine ⟨hd.ok, ?_, hd.bl.trans ih.bl, hd.dl.trans ih.dl⟩
    have h1 := hd.tot
    have h2 := ih.tot
    rw [List.take_succ_eq_append_getElem (show k < cs.length by omega), wsum_append, wsum_cons]
    simp only
    have : wsum [] = 0 := rfl
    omega
theorem wsum_take (cs : List Cl) (k : Nat) : wsum (cs.take k) ≤ wsum cs := by
  have := wsum_append (cs.take k) (cs.drop k)
  rw [List.take_append_drop] at this
  omega
theorem runF_len {cs : List Cl} {y : Yd} (h : Mild y cs) (k : Nat) (hk : k ≤ cs.length) : (runF y (cs.take k)).1.length = k := by
  rw [Mild.len _ _ (Mild.take cs y k h)]
  simp; omega

theorem elem_told : ElemOk Tryz.prog 29 39 4 40 := by
  obtain ⟨i0, hi, hz0, hz1, hz2⟩ := info_parts (show (Tryz.prog.info? 39).map (fun i => (i.zero, i.size, i.bytes)) = some (some (.agg #[.int .i64 0, .string ⟨#[]⟩, .int .i32 0, .int .i64 0]), 4, 40) by kernel_rfl)
  exact ⟨Tryz.underlying29, ⟨i0, _, hi, hz0, hz1, hz2, rfl⟩, by decide, by decide⟩
theorem Own.empty (E : TypeId) (size : Nat) (w : World) {base : Nat} (hb : base ≤ w.heap.size) : Own E size (w.alloc (.cells #[] E)) base (.slice (some ⟨w.heap.size, 0, none⟩) 0 0) 0 [] :=
  ⟨by simp, .inr ⟨_, 0, #[], rfl, hb, heap_alloc_new w _, Nat.le_refl _, by simp [maxLen], by simp, by simp⟩⟩
theorem ydS.not_own {E : TypeId} {size : Nat} {w : World} {base base' : Nat} {v : Value} {n : Nat} {xs : List Value} (h : Own E size w base v n xs) (h1 : E ≠ 96) (h2 : E ≠ 90) (h3 : E ≠ 5) {x : Nat} (hx : v.ownBlock = some x) : ¬ ydS w base' x := fun q => q.not_typed (h.typed hx) h1 h2 h3
def tds (l : List Td) : List Value := l.flatMap Td.cells
theorem tds_append (l m : List Td) : tds (l ++ m) = tds l ++ tds m := by simp [tds]

/-- What holds of all calls of a script. -/
structure Script (w : World) (y : Yd) (cs : List Cl) : Prop where
  ok : ∀ c ∈ cs, ClOk w c
  plays : ∀ c ∈ cs, c.plays
  there : ∀ c ∈ cs, c.there y
theorem Cl.there_of {c : Cl} {y y' : Yd} (h : c.there y) (hb : y'.bufs.length = y.bufs.length) (hd : y'.blds.length = y.blds.length) : c.there y' := by
  unfold Cl.there at *
  rw [hb, hd]
  exact h

section
variable {w w' : World} {base yb : Nat} {A : Option Addr} {c : Nat} {A' : Option Addr} {c' : Nat} {lab : Nat → Nat} {bs : List (Nat × Gh)} {ds : List (Nat × BG)}
/-- Blocks of other types may be written. -/
theorem YardC.fr {S : Nat → Prop} (h : YardC w base yb A c A' c' lab bs ds) (hf : Fr S w w') (T : TypeId) (hS : ∀ x, S x → Typed w x T) (h1 : T ≠ 96) (h2 : T ≠ 90) (h3 : T ≠ 5) (h4 : T ≠ 71) (h5 : T ≠ 72) (h6 : T ≠ 74) : YardC w' base yb A c A' c' lab bs ds := by
  have no : ∀ x, ydS w base x → ¬ S x := fun x q k => q.not_typed (hS x k) h1 h2 h3
  refine ⟨h.bb, Nat.le_trans h.bw hf.size, hf.blk h.st (fun k => (hS yb k).ne h4 ⟨_, _, h.st⟩), fun i p hi => ?_, fun i p hi => ?_, fun i p hi => (h.ba i p hi).fr hf (fun x hx => no x (h.bfoot hi hx)), fun i p hi => (h.da i p hi).fr hf (fun x hx => no x (h.dfoot hi hx)), h.bl, h.dl⟩
  · obtain ⟨r, hA, hT, hc⟩ := h.bp i p hi
    have hn : ¬ S r := fun k => (hS r k).ne h5 hT
    exact ⟨r, hA, hT.fr hf hn, (hf.cell (World.block_lt_of_cell? _ _ hc) hn).trans hc⟩
  · obtain ⟨r, hA, hT, hc⟩ := h.dp i p hi
    have hn : ¬ S r := fun k => (hS r k).ne h6 hT
    exact ⟨r, hA, hT.fr hf hn, (hf.cell (World.block_lt_of_cell? _ _ hc) hn).trans hc⟩
theorem YardC.fr0 (h : YardC w base yb A c A' c' lab bs ds) (hf : Fr (fun _ => False) w w') : YardC w' base yb A c A' c' lab bs ds := h.fr hf 9 (fun _ q => q.elim) (by decide) (by decide) (by decide) (by decide) (by decide) (by decide)
/-- A builder's bytes have been frozen. -/
theorem YardC.frz (h : YardC w base yb A c A' c' lab bs ds) {i d : Nat} {g : BG} (hi : ds[i]? = some (d, g)) (hB : BldAt w' d g) (hf : Fr (fun x => g.row = some x) w w') : YardC w' base yb A c A' c' lab bs ds := by
  refine h.upd hf (fun x _ q => h.dfoot hi (.inr q)) rfl rfl (fun j p hp => ?_) (fun j p hp => ?_)
  · refine ⟨(h.ba j p hp).fr hf (fun x hx q => ?_), fun p' hp' => by rw [hp] at hp'; injection hp' with hp'; rw [hp'], fun x hx => h.bl j p x hp hx⟩
    have k1 := (h.bl j p x hp hx).2
    have k2 := (h.dl i _ x hi (.inr q)).2
    omega
  · by_cases hji : j = i
    · subst hji
      rw [hi] at hp
      injection hp with hp
      subst hp
      exact ⟨hB, fun p' hp' => by rw [hi] at hp'; injection hp' with hp'; rw [← hp'], fun x hx => h.dl j _ x hi hx⟩
    · refine ⟨(h.da j p hp).fr hf (fun x hx q => ?_), fun p' hp' => by rw [hp] at hp'; injection hp' with hp'; rw [hp'], fun x hx => h.dl j p x hp hx⟩
      have k1 := (h.dl j p x hp hx).2
      have k2 := (h.dl i _ x hi (.inr q)).2
      omega
end
/-- What holds while the texts are told. -/
structure RunJ (w : World) (yb : Nat) (A : Option Addr) (c : Nat) (A' : Option Addr) (c' : Nat) (lab : Nat → Nat) (bs : List (Nat × Gh)) (ds : List (Nat × BG)) (tv : Value) (n : Nat) (ts : List Td) (wr : World) (v : Value) (l : List (List UInt8)) (v' : Value) (l' : List (List UInt8)) : Prop where
  yc : YardC wr w.heap.size yb A c A' c' lab bs ds
  told : Own 39 4 wr w.heap.size tv n (tds ts)
  have' : Own 9 1 wr w.heap.size v l.length (strs l)
  built : Own 9 1 wr w.heap.size v' l'.length (strs l')
  fr : Fr (fun _ => False) w wr
  apart : ∀ x, v.ownBlock = some x → v'.ownBlock ≠ some x

/-- How far the calls of a script have come. -/
structure RunI (w : World) (yb : Nat) (y0 : Yd) (cs : List Cl) (k : Nat) (wr : World) (tv : Value) (bs : List (Nat × Gh)) (ds : List (Nat × BG)) : Prop where
  yard : YardAt wr w.heap.size yb bs ds
  rel : Rel bs ds (runF y0 (cs.take k)).2
  own : Own 39 4 wr w.heap.size tv k (tds (runF y0 (cs.take k)).1)
  fr : Fr (fun _ => False) w wr

def RunPost (w : World) (y0 : Yd) (cs : List Cl) (e : Ending) (w' : World) : Prop :=
  ∃ v1 v2 v3, e = .returned (.tuple #[v1, v2, v3]) ∧ Own 39 4 w' w.heap.size v1 cs.length (tds (runF y0 cs).1) ∧ Own 9 1 w' w.heap.size v2 y0.bufs.length (strs (runF y0 cs).2.texts) ∧
    Own 9 1 w' w.heap.size v3 y0.blds.length (strs (runF y0 cs).2.blds) ∧ Fr (fun _ => False) w w'

set_option maxHeartbeats 3200000 in
set_option maxRecDepth 100000 in
theorem run_any (starts : List St) (nb : Nat) (A : Option Addr) (c : Nat) (cs : List Cl) (A' : Option Addr) (c' : Nat) (ea eu : Addr) (w : World) (hR : Reads St.cells 3 w A starts) (hst : ∀ s ∈ starts, s.text.length ≤ 1099511627776 ∧ s.space ≤ 65535) (hn : starts.length ≤ 4294967296) (hnb : nb ≤ 255)
    (hC : Reads Cl.cells 9 w A' cs) (hS : Script w (Yd.begin starts nb) cs) (hM : Mild (Yd.begin starts nb) cs) (hyk : (Yd.begin starts nb).ok) (hcl : cs.length ≤ 4294967296) (hsz : (Yd.begin starts nb).tot + wsum cs + 66000 ≤ 1099511627776) (hG : Gl w.heap.size ea eu w) :
    Calls Tryz.prog 12 #[.slice A starts.length c, .int .u8 (nb : Int), .slice A' cs.length c'] w (RunPost w (Yd.begin starts nb) cs) := by
  have hbl : (Yd.begin starts nb).bufs.length = starts.length := by simp [Yd.begin]
  have hdl : (Yd.begin starts nb).blds.length = nb := by simp [Yd.begin]
  obtain ⟨y0, hy0⟩ : ∃ y0, y0 = Yd.begin starts nb := ⟨_, rfl⟩
  rw [← hy0] at hS hM hyk hsz hbl hdl ⊢
  have HY0 := Lib.hid hy0
  have HR := Lib.hid hR
  have HST := Lib.hid hst
  have HC := Lib.hid hC
  have HSC := Lib.hid hS
  have HM := Lib.hid hM
  have HYK := Lib.hid hyk
  have HG := Lib.hid hG
  clear hR hst hC hS hM hyk hG hy0
  go_enter Tryz.func12, Tryz.ntmps12
  go_wp2_with fail
  refine (opened_any starts nb A c _ HR.out HST.out hn hnb).mono ?_
  rintro e w1 ⟨yb, bs0, ds0, rfl, hY, hrel, hF1⟩
  rw [← HY0.out] at hrel
  have HY := Lib.hid hY
  have HREL := Lib.hid hrel
  have HF1 := Lib.hid hF1
  clear hY hrel hF1
  go_wp2_with fail
  go_loopw [10, 26] (fun tv i wr => ∃ (k : Nat) (bs : List (Nat × Gh)) (ds : List (Nat × BG)), k ≤ cs.length ∧ i = .int .i64 (k : Int) ∧ RunI w yb y0 cs k wr tv bs ds) (fun _ i _ => cs.length - (intOf i).toNat)
  case atStart =>
    exact ⟨0, bs0, ds0, Nat.zero_le _, rfl, HY.out.fr0 ((Fr.refl _ w1).alloc _), HREL.out, Own.empty _ _ w1 HF1.out.size, HF1.out.alloc _⟩
  case round =>
    obtain ⟨k, bs, ds, hk, rfl, hI⟩ := hrel
    by_cases hlt : k < cs.length
    · obtain ⟨r, o, rfl, hc⟩ := HC.out.at' k cs[k] (List.getElem?_eq_getElem hlt)
      have hmem : cs[k] ∈ cs := List.getElem_mem _
      have hok := HSC.out.ok _ hmem
      have hpl := HSC.out.plays _ hmem
      have hth := HSC.out.there _ hmem
      obtain ⟨hset, hns, hsucc⟩ := runF_succ HM.out hlt
      have hkept := runF_kept HM.out HYK.out k (by omega)
      generalize hcc : cs[k] = cc at *
      have hto := hkept.tot
      have hwt := wsum_take cs (k + 1)
      rw [List.take_succ_eq_append_getElem hlt, wsum_append, wsum_cons, hcc] at hwt
      have hmsz : (runF y0 (cs.take k)).2.tot + cc.text.length + 66000 ≤ 1099511627776 := by omega
      have hth' := Cl.there_of (c := cc) (y := y0) hth hkept.bl hkept.dl
      have hbw := hI.yard.bw
      have hGr : Gl w.heap.size ea eu wr := HG.out.fr (Nat.le_refl _) hI.fr (fun _ _ q => q)
      have hokr := hok.fr hI.fr
      have hIr := hI.rel
      have hIo := hI.own
      have hIy := hI.yard
      have hIf := hI.fr
      generalize hyy : (runF y0 (cs.take k)).2 = yy at *
      generalize htt : (runF y0 (cs.take k)).1 = tt at *
      have hq : ∀ j u, (Cl.cells cc)[j]? = some u → wr.cell? ⟨r, o + k * 9 + j, none⟩ = some u := fun j u hu => (hIf.cell (World.block_lt_of_cell? _ _ (hc j u hu)) (fun q => q)).trans (hc j u hu)
      have hcall : ∀ w', Fr (fun _ => False) wr w' → Calls Tryz.prog 34 #[.pointer (some ⟨yb, 0, none⟩), cc.val] w' (CallPost w' w.heap.size yb ds yy cc) := fun w' hf =>
        call_any w' w.heap.size yb bs ds yy cc ea eu (hIy.fr0 hf) hIr (hokr.fr hf) hmsz (hGr.fr0 hbw hf) hpl hth' hset hns
      unfold CallPost at hcall
      generalize hres : yy.do cc = res at *
      obtain ⟨y', ⟨tn, ttx, tc, tsd⟩, ob⟩ := res
      simp only at hns hset hcall hsucc
      obtain ⟨op, ca, cb, csize, cn, csign, cchar, ctext, ccuts, cad, ccap⟩ := cc
      have c0 := hq 0 _ rfl
      have c1 := hq 1 _ rfl
      have c2 := hq 2 _ rfl
      have c3 := hq 3 _ rfl
      have c4 := hq 4 _ rfl
      have c5 := hq 5 _ rfl
      have c6 := hq 6 _ rfl
      have c7 := hq 7 _ rfl
      have c8 := hq 8 _ rfl
      simp only [Nat.add_zero] at c0
      have hki : (k : Int) < (cs.length : Int) := by omega
      have hk0 : (0 : Int) ≤ (k : Int) := by omega
      have h3 : (tsd == 3) = false := by simpa using hns
      have HCALL := Lib.hid hcall
      have HSU := Lib.hid hsucc
      have HO := Lib.hid hIo
      have HI := Lib.hid hI
      have HF := Lib.hid hIf
      have HYY := Lib.hid hyy
      have HTT := Lib.hid htt
      simp only [Cl.val, Cl.cells] at hcall
      clear hc hmem hok hpl hth hset hns hsucc hkept hcc hto hwt hmsz hth' hGr hokr hIr hIo hIy hIf hyy htt hq hres hI hcall
      go_wp2_with fail
      refine (HCALL.out _ ((Fr.refl _ wr).alloc _)).mono ?_
      rintro e w2 ⟨bs', ds', rfl, S, hrel', hcap⟩
      have hO1 := HO.out.fr ((Fr.refl (fun _ => False) wr).alloc (.cells #[.int .i64 op, .int .i64 ca, .int .i64 cb, .int .u16 (csize : Int), .int .i64 cn, .int .u8 (csign.toNat : Int), .int .i32 cchar, .string ⟨ctext.toArray⟩, .slice cad ccuts.length ccap] 36)) (fun _ _ q => q)
      have hO2 := hO1.fr S.fr (fun x hx => ydS.not_own hO1 (by decide) (by decide) (by decide) hx)
      have hF2 : Fr (fun _ => False) w w2 := (HF.out.alloc _).trans' S.fr (fun x hx q => by have := q.1; omega)
      have HO2 := Lib.hid hO2
      have HF2 := Lib.hid hF2
      have HS := Lib.hid S.at'
      have HR2 := Lib.hid hrel'
      clear hO1 hO2 hF2 S hrel' hcap
      simp only [Td.val, Td.cells]
      obtain ⟨A5, cap5, rfl⟩ := HO2.out.value
      go_wp2_with (refine wpList_app rfl elem_told (.tmp 33) (.tmp 35) rfl w.heap.size _ k _ (by rfl) (HO2.out.fr (((Fr.refl (fun _ => False) w2).alloc (.cells #[.int .i64 tn, .string ⟨ttx.toArray⟩, .int .i32 tc, .int .i64 tsd] 39)).alloc (.cells #[.int .i64 tn, .string ⟨ttx.toArray⟩, .int .i32 tc, .int .i64 tsd] 39)) (fun _ _ q => q)) (w2.heap.size + 1) (Td.cells ⟨tn, ttx, tc, tsd⟩) 39 (by rfl) (by have h0 := heap_alloc_new (w2.alloc (.cells #[.int .i64 tn, .string ⟨ttx.toArray⟩, .int .i32 tc, .int .i64 tsd] 39)) (.cells #[.int .i64 tn, .string ⟨ttx.toArray⟩, .int .i32 tc, .int .i64 tsd] 39); simpa [Td.cells] using h0) rfl (by simp [Td.cells, Value.oneCell']) (by omega) (by have := HF2.out.size; simp; omega) ?_)
      intro gb cap w4 hown hfr hat hlt1
      have hblk : ∀ x, (Value.slice A5 k cap5).ownBlock = some x → x < w2.heap.size := fun x hx => HO2.out.blk_lt hx
      have hfr3 : Fr (fun x => (Value.slice A5 k cap5).ownBlock = some x) w2 w4 := ((((Fr.refl _ w2).alloc _).alloc _)).trans hfr
      have g3 : w4.cell? ⟨w2.heap.size, 3, none⟩ = some (.int .i64 tsd) := (hfr.cell (by simp; omega) (fun q => by have := hblk _ q; simp at this)).trans (by simp)
      have hN : RunI w yb y0 cs (k + 1) w4 (.slice (some ⟨gb, 0, none⟩) (k + 1) cap) bs' ds' := by
        refine ⟨HS.out.fr hfr3 (fun x hx q => .inr ⟨39, HO2.out.typed q, by decide, by decide, by decide, by decide, by decide, by decide⟩) (fun x hx q => ?_), ?_, ?_, ?_⟩
        · rcases hx with hx | hx
          · exact hx.ne (by decide) (HO2.out.typed q)
          · exact hx.ne (by decide) (HO2.out.typed q)
        · rw [HSU.out]
          exact HR2.out
        · rw [HSU.out]
          simp only [tds_append]
          exact hown
        · exact HF2.out.trans' hfr3 (fun x hx q => by have := HO2.out.blk_ge q; omega)
      have HN := Lib.hid hN
      clear hown hfr hat hlt1 hfr3 hN hblk
      go_wp2_with fail
      go_roundw
      case rel => exact ⟨k + 1, bs', ds', by omega, by go_num, HN.out⟩
      case measure => simp [intOf]; omega
    · obtain rfl : k = cs.length := by omega
      obtain ⟨Ab, cpb, Ad, cpd, lab, hYC⟩ := hI.yard
      have hrl := hI.rel
      rw [List.take_length] at hrl
      have hJ0 : RunJ w yb Ab cpb Ad cpd lab bs ds u10 cs.length (runF y0 cs).1 wr (.slice none 0 0) [] (.slice none 0 0) [] := ⟨hYC, by have := hI.own; rw [List.take_length] at this; exact this, Own.nil _ _ _ _, Own.nil _ _ _ _, hI.fr, fun x q => by cases q⟩
      have yc0 : wr.cell? ⟨yb, 0, none⟩ = some (.slice Ab bs.length cpb) := by rw [cell_of_row wr yb 0 _ _ _ hYC.st]; rfl
      have hkept := runF_kept HM.out HYK.out cs.length (Nat.le_refl _)
      rw [List.take_length] at hkept
      have hbs : bs.length ≤ 4294967296 := by rw [hrl.bl, hkept.bl, hbl]; exact hn
      have hds : ds.length ≤ 255 := by rw [hrl.dl, hkept.dl, hdl]; exact hnb
      have HJ0 := Lib.hid hJ0
      have HRL := Lib.hid hrl
      have HKP := Lib.hid hkept
      clear hI hlt hYC hrl hJ0 hkept
      go_wp2_with fail
      go_loopw [14, 46] (fun v i wr2 => ∃ j : Nat, j ≤ bs.length ∧ i = .int .i64 (j : Int) ∧ RunJ w yb Ab cpb Ad cpd lab bs ds u10 cs.length (runF y0 cs).1 wr2 v ((runF y0 cs).2.texts.take j) (.slice none 0 0) []) (fun _ i _ => bs.length - (intOf i).toNat)
      case atStart => exact ⟨0, Nat.zero_le _, rfl, HJ0.out⟩
      case round =>
        obtain ⟨j, hj, rfl, hJ⟩ := hrel
        by_cases hjl : j < bs.length
        · obtain ⟨⟨b, g⟩, hbg⟩ : ∃ p, bs[j]? = some p := ⟨_, List.getElem?_eq_getElem hjl⟩
          obtain ⟨rb, rfl, hT, hcell⟩ := hJ.yc.bp j _ hbg
          have hBA := hJ.yc.ba j _ hbg
          obtain ⟨sb, hsb⟩ : ∃ s, (runF y0 cs).2.bufs[j]? = some s := ⟨_, List.getElem?_eq_getElem (by rw [← HRL.out.bl]; exact hjl)⟩
          have htx : g.txt = sb.text := (HRL.out.b j _ _ hbg hsb).txt
          have htk : (runF y0 cs).2.texts.take (j + 1) = (runF y0 cs).2.texts.take j ++ [sb.text] := by
            have hl : j < (runF y0 cs).2.texts.length := by simp [Yd.texts, ← HRL.out.bl, hjl]
            rw [List.take_succ_eq_append_getElem hl]
            congr 2
            have := Yd.texts_get hsb
            rw [List.getElem?_eq_getElem hl] at this
            injection this
          have hlen : ((runF y0 cs).2.texts.take j).length = j := by simp [Yd.texts, ← HRL.out.bl]; omega
          have hji : (j : Int) < (bs.length : Int) := by omega
          have hj0 : (0 : Int) ≤ (j : Int) := by omega
          generalize (runF y0 cs).2.texts.take j = ls at *
          subst hlen
          obtain ⟨A5, cap5, rfl⟩ := hJ.have'.value
          have HB := Lib.hid hBA
          have HJ := Lib.hid hJ
          have HTK := Lib.hid htk
          have HTX := Lib.hid htx
          simp only at hcell
          clear hBA hJ htk htx hT hbg hsb
          go_wp2_with fail
          refine (buf_string _ b g HB.out).mono ?_
          rintro e w2 ⟨rfl, hw2⟩
          have hF2 : Fr (fun _ => False) wr w2 := by rw [hw2]; exact (Fr.refl _ wr).drew
          have HF2 := Lib.hid hF2
          clear hw2 hF2
          rw [HTX.out]
          go_wp2_with (refine wpList_app rfl elem_string (.tmp 50) (.tmp 53) rfl w.heap.size _ ls.length _ (by rfl) (HJ.out.have'.fr (HF2.out.alloc (.cells #[.string ⟨sb.text.toArray⟩] 9)) (fun _ _ q => q)) w2.heap.size [strV sb.text] 9 (by rfl) (by exact heap_alloc_new w2 _) rfl (by simp [strV, Value.oneCell']) (by omega) (by have := (HJ.out.fr.trans HF2.out).size; simp; omega) ?_)
          intro gb cap w4 hown hfr hat hlt1
          have hfr3 := (HF2.out.alloc (.cells #[.string ⟨sb.text.toArray⟩] 9)).mono (S' := fun x => (Value.slice A5 ls.length cap5).ownBlock = some x) (fun _ _ q => q.elim) |>.trans hfr
          have hty := fun x q => HJ.out.have'.typed (x := x) q
          have hN : RunJ w yb (some ⟨rb, 0, none⟩) cpb Ad cpd lab bs ds u10 cs.length (runF y0 cs).1 w4 (.slice (some ⟨gb, 0, none⟩) (ls.length + 1) cap) ((runF y0 cs).2.texts.take (ls.length + 1)) (.slice none 0 0) [] := by
            refine ⟨HJ.out.yc.fr hfr3 9 hty (by decide) (by decide) (by decide) (by decide) (by decide) (by decide), HJ.out.told.fr hfr3 (fun x hx q => (hty x q).ne (by decide) (HJ.out.told.typed hx)), ?_, Own.nil _ _ _ _, HJ.out.fr.trans' hfr3 (fun x hx q => by have := HJ.out.have'.blk_ge q; omega), fun x _ q => by cases q⟩
            rw [HTK.out]
            simp only [List.length_append, List.length_singleton, strs_append]
            exact hown
          have HN := Lib.hid hN
          clear hown hfr hat hlt1 hfr3 hN hty
          go_wp2_with fail
          go_roundw
          case rel => exact ⟨ls.length + 1, by omega, by go_num, HN.out⟩
          case measure => simp [intOf]; omega
        · obtain rfl : j = bs.length := by omega
          have htl : (runF y0 cs).2.texts.take bs.length = (runF y0 cs).2.texts := List.take_of_length_le (by simp [Yd.texts, ← HRL.out.bl])
          rw [htl] at hJ
          have yc1 : wr.cell? ⟨yb, 1, none⟩ = some (.slice Ad ds.length cpd) := by rw [cell_of_row wr yb 1 _ _ _ hJ.yc.st]; rfl
          have HJ1 := Lib.hid hJ
          clear hJ hjl htl
          go_wp2_with fail
          go_loopw [15, 61] (fun v i wr2 => ∃ j : Nat, j ≤ ds.length ∧ i = .int .i64 (j : Int) ∧ RunJ w yb Ab cpb Ad cpd lab bs ds u10 cs.length (runF y0 cs).1 wr2 u14 (runF y0 cs).2.texts v ((runF y0 cs).2.blds.take j)) (fun _ i _ => ds.length - (intOf i).toNat)
          case atStart => exact ⟨0, Nat.zero_le _, rfl, HJ1.out⟩
          case round =>
            obtain ⟨j, hj, rfl, hJ⟩ := hrel
            by_cases hjl : j < ds.length
            · obtain ⟨⟨d, g⟩, hdg⟩ : ∃ p, ds[j]? = some p := ⟨_, List.getElem?_eq_getElem hjl⟩
              obtain ⟨rb, rfl, hT, hcell⟩ := hJ.yc.dp j _ hdg
              have hBA := hJ.yc.da j _ hdg
              obtain ⟨sb, hsb⟩ : ∃ s, (runF y0 cs).2.blds[j]? = some s := ⟨_, List.getElem?_eq_getElem (by rw [← HRL.out.dl]; exact hjl)⟩
              have htx : g.txt = sb := HRL.out.d j _ _ hdg hsb
              have htk : (runF y0 cs).2.blds.take (j + 1) = (runF y0 cs).2.blds.take j ++ [sb] := by
                have hl : j < (runF y0 cs).2.blds.length := by rw [← HRL.out.dl]; exact hjl
                rw [List.take_succ_eq_append_getElem hl]
                congr 2
                rw [List.getElem?_eq_getElem hl] at hsb
                injection hsb
              have hlen : ((runF y0 cs).2.blds.take j).length = j := by rw [List.length_take, ← HRL.out.dl]; omega
              have hji : (j : Int) < (ds.length : Int) := by omega
              have hj0 : (0 : Int) ≤ (j : Int) := by omega
              generalize (runF y0 cs).2.blds.take j = ls at *
              subst hlen
              obtain ⟨A5, cap5, rfl⟩ := hJ.built.value
              have HB := Lib.hid hBA
              have HJ := Lib.hid hJ
              have HTK := Lib.hid htk
              have HTX := Lib.hid htx
              have HDG := Lib.hid hdg
              simp only at hcell
              clear hBA hJ htk htx hT hdg hsb
              go_wp2_with fail
              refine (bld_string _ d g HB.out).mono ?_
              rintro e w2 ⟨rfl, hB2, hF2⟩
              have hu8 : ∀ x, g.row = some x → Typed wr x 5 := fun x hx => by
                obtain ⟨rest, fz, h1, _⟩ := HB.out.row x hx
                exact ⟨_, _, h1⟩
              have hJ2 : RunJ w yb Ab cpb (some ⟨rb, 0, none⟩) cpd lab bs ds u10 cs.length (runF y0 cs).1 w2 u14 (runF y0 cs).2.texts (.slice A5 ls.length cap5) ls :=
                ⟨HJ.out.yc.frz HDG.out hB2 hF2, HJ.out.told.fr hF2 (fun x hx q => (hu8 x q).ne (by decide) (HJ.out.told.typed hx)), HJ.out.have'.fr hF2 (fun x hx q => (hu8 x q).ne (by decide) (HJ.out.have'.typed hx)), HJ.out.built.fr hF2 (fun x hx q => (hu8 x q).ne (by decide) (HJ.out.built.typed hx)), HJ.out.fr.trans' hF2 (fun x hx q => by have := (HJ.out.yc.dl _ _ x HDG.out (.inr q)).1; omega), HJ.out.apart⟩
              have HJ2 := Lib.hid hJ2
              clear hB2 hF2 hu8 hJ2
              rw [HTX.out]
              go_wp2_with (refine wpList_app rfl elem_string (.tmp 65) (.tmp 68) rfl w.heap.size _ ls.length _ (by rfl) (HJ2.out.built.fr ((Fr.refl (fun _ => False) w2).alloc (.cells #[.string ⟨sb.toArray⟩] 9)) (fun _ _ q => q)) w2.heap.size [strV sb] 9 (by rfl) (by exact heap_alloc_new w2 _) rfl (by simp [strV, Value.oneCell']) (by omega) (by have := HJ2.out.fr.size; simp; omega) ?_)
              intro gb cap w4 hown hfr hat hlt1
              have hfr3 := ((Fr.refl (fun _ => False) w2).alloc (.cells #[.string ⟨sb.toArray⟩] 9)).mono (S' := fun x => (Value.slice A5 ls.length cap5).ownBlock = some x) (fun _ _ q => q.elim) |>.trans hfr
              have hty := fun x q => HJ2.out.built.typed (x := x) q
              have hat : (Value.slice A5 ls.length cap5).ownBlock = some gb ∨ w2.heap.size ≤ gb := hat.imp id (fun q => Nat.le_trans (by simp) q)
              have hN : RunJ w yb Ab cpb (some ⟨rb, 0, none⟩) cpd lab bs ds u10 cs.length (runF y0 cs).1 w4 u14 (runF y0 cs).2.texts (.slice (some ⟨gb, 0, none⟩) (ls.length + 1) cap) ((runF y0 cs).2.blds.take (ls.length + 1)) := by
                refine ⟨HJ2.out.yc.fr hfr3 9 hty (by decide) (by decide) (by decide) (by decide) (by decide) (by decide), HJ2.out.told.fr hfr3 (fun x hx q => (hty x q).ne (by decide) (HJ2.out.told.typed hx)), HJ2.out.have'.fr hfr3 (fun x hx q => HJ2.out.apart x hx q), ?_, HJ2.out.fr.trans' hfr3 (fun x hx q => by have := HJ2.out.built.blk_ge q; omega), fun x hx q => ?_⟩
                · rw [HTK.out]
                  simp only [List.length_append, List.length_singleton, strs_append]
                  exact hown
                · have e : gb = x := by injection q
                  have hlt := HJ2.out.have'.blk_lt hx
                  rcases hat with hat | hat
                  · exact HJ2.out.apart _ hx (by rw [← e]; exact hat)
                  · omega
              have HN := Lib.hid hN
              clear hown hfr hat hlt1 hfr3 hN hty
              go_wp2_with fail
              go_roundw
              case rel => exact ⟨ls.length + 1, by omega, by go_num, HN.out⟩
              case measure => simp [intOf]; omega
            · obtain rfl : j = ds.length := by omega
              have htl : (runF y0 cs).2.blds.take ds.length = (runF y0 cs).2.blds := List.take_of_length_le (by rw [← HRL.out.dl]; omega)
              rw [htl] at hJ
              have HJ2 := Lib.hid hJ
              clear hJ hjl htl
              go_wp2_with fail
              refine bodyPost_ret (v := .tuple #[u10, u14, u15]) (by simp [results, Tryz.results12, go_sem]) rfl ⟨u10, u14, u15, rfl, HJ2.out.told, ?_, ?_, HJ2.out.fr⟩
              · have h1 := HJ2.out.have'
                have h2 : (runF y0 cs).2.texts.length = y0.bufs.length := by simp [Yd.texts, HKP.out.bl]
                rw [h2] at h1
                exact h1
              · have h1 := HJ2.out.built
                rw [HKP.out.dl] at h1
                exact h1
end Go.Proofs.YtbodbajgpgaoeaaGreatDoor

namespace Go.Proofs.YtbodbajgpgaoeaaGreatDoor
open Go Go.RowKit

/-- Cells of elements, one behind the other. -/
theorem flat_get {α : Type} (cells : α → List Value) (size : Nat) (hs : ∀ x, (cells x).length = size) : ∀ (xs : List α) (j : Nat) (x : α) (k : Nat) (v : Value), xs[j]? = some x → (cells x)[k]? = some v → (xs.flatMap cells)[j * size + k]? = some v
  | [], j, x, k, v, h, _ => by simp at h
  | y :: xs, 0, x, k, v, h, hv => by
    simp only [List.getElem?_cons_zero, Option.some.injEq] at h
    subst h
    rw [List.flatMap_cons, Nat.zero_mul, Nat.zero_add, List.getElem?_append_left (List.getElem?_eq_some_iff.1 hv).1]
    exact hv
  | y :: xs, j + 1, x, k, v, h, hv => by
    have ih := flat_get cells size hs xs j x k v (by simpa using h) hv
    have hl := hs y
    rw [List.flatMap_cons, List.getElem?_append_right (by rw [hl, Nat.succ_mul]; omega), hl]
    have e : (j + 1) * size + k - size = j * size + k := by rw [Nat.succ_mul]; omega
    rw [e]
    exact ih
theorem Own.reads {α : Type} {cells : α → List Value} {size : Nat} (hs : ∀ x, (cells x).length = size) (hp : 0 < size) {E : TypeId} {w : World} {base : Nat} {v : Value} {n : Nat} {xs : List α} (h : Own E size w base v n (xs.flatMap cells)) : ∃ A cap, v = .slice A n cap ∧ n ≤ cap ∧ Reads cells size w A xs ∧ ∀ r o, A = some ⟨r, o, none⟩ → Typed w r E ∧ base ≤ r := by
  rcases h.2 with ⟨rfl, h0⟩ | ⟨g, cap, cur, rfl, h1, h2, h3, h4, h5, h6⟩
  · refine ⟨none, 0, by rw [h0], by omega, ⟨fun j x hx => ?_⟩, fun r o e => by cases e⟩
    exfalso
    have hl := h.1
    subst h0
    rw [Nat.zero_mul] at hl
    cases hxs : cells x with
    | nil =>
      have := hs x
      rw [hxs] at this
      simp at this
      omega
    | cons u us =>
      have := flat_get cells size hs xs j x 0 u hx (by rw [hxs]; rfl)
      rw [List.getElem?_eq_none (by omega)] at this
      cases this
  · refine ⟨_, cap, rfl, h3, ⟨fun j x hx => ⟨g, 0, rfl, fun k u hu => ?_⟩⟩, fun r o e => ?_⟩
    · have e := flat_get cells size hs xs j x k u hx hu
      have hl := (List.getElem?_eq_some_iff.1 e).1
      have hl2 := h.1
      rw [← h6, List.getElem?_take_of_lt (by omega)] at e
      rw [Nat.zero_add, cell_of_row w g _ _ _ _ h2]
      simpa using e
    · injection e with e
      injection e with e1 e2
      subst e1
      exact ⟨⟨_, _, h2⟩, h1⟩
theorem Td.cells_len (t : Td) : t.cells.length = 4 := rfl
theorem Cl.cells_len (c : Cl) : c.cells.length = 9 := rfl
theorem St.cells_len (s : St) : s.cells.length = 3 := rfl
def strC (s : List UInt8) : List Value := [strV s]
theorem strs_flat : ∀ l : List (List UInt8), strs l = l.flatMap strC
  | [] => rfl
  | x :: l => by have ih := strs_flat l; simp only [strs, List.map_cons, List.flatMap_cons, strC] at ih ⊢; rw [ih]; rfl

set_option maxHeartbeats 1600000 in
set_option maxRecDepth 100000 in
theorem equal_told (ts : List Td) (A1 A2 : Option Addr) (c1 c2 : Nat) (w : World) (h1 : Reads Td.cells 4 w A1 ts) (h2 : Reads Td.cells 4 w A2 ts) (hn : ts.length ≤ 4294967296) :
    Calls Tryz.prog 23 #[.slice A1 ts.length c1, .slice A2 ts.length c2] w fun e w' => e = .returned (.bool true) ∧ Fr (fun _ => False) w w' := by
  have H1 := Lib.hid h1
  have H2 := Lib.hid h2
  clear h1 h2
  go_enter Tryz.func23, Tryz.ntmps23
  go_wp2_with fail
  go_loopw [13] (fun i wr => ∃ (k q : Nat), k ≤ ts.length ∧ i = .int .i64 (k : Int) ∧ wr = w.drewN q) (fun i _ => ts.length - (intOf i).toNat)
  case atStart => exact ⟨0, 0, Nat.zero_le _, rfl, rfl⟩
  case round =>
    obtain ⟨k, q, hk, rfl, rfl⟩ := hrel
    by_cases hlt : k < ts.length
    · obtain ⟨r1, o1, rfl, d1⟩ := H1.out.at' k ts[k] (List.getElem?_eq_getElem hlt)
      obtain ⟨r2, o2, rfl, d2⟩ := H2.out.at' k ts[k] (List.getElem?_eq_getElem hlt)
      generalize ts[k] = t at *
      obtain ⟨tn, tt, tc, tsd⟩ := t
      have a0 := d1 0 _ rfl; have a1 := d1 1 _ rfl; have a2 := d1 2 _ rfl; have a3 := d1 3 _ rfl
      have b0 := d2 0 _ rfl; have b1 := d2 1 _ rfl; have b2 := d2 2 _ rfl; have b3 := d2 3 _ rfl
      simp only [Nat.add_zero] at a0 b0
      have hki : (k : Int) < (ts.length : Int) := by omega
      have hk0 : (0 : Int) ≤ (k : Int) := by omega
      clear d1 d2
      go_wp2_with fail
      go_quiet (fail)
      go_wp2_with fail
      go_roundw
      case rel => exact ⟨k + 1, _, by omega, by go_num, rfl⟩
      case measure => simp [intOf]; omega
    · go_wp2_with fail
      go_ret
      exact ⟨rfl, (Fr.refl _ w).drewN q⟩

set_option maxHeartbeats 1600000 in
set_option maxRecDepth 100000 in
theorem equal_strs (ts : List (List UInt8)) (A1 A2 : Option Addr) (c1 c2 : Nat) (w : World) (h1 : Reads strC 1 w A1 ts) (h2 : Reads strC 1 w A2 ts) (hn : ts.length ≤ 4294967296) :
    Calls Tryz.prog 24 #[.slice A1 ts.length c1, .slice A2 ts.length c2] w fun e w' => e = .returned (.bool true) ∧ Fr (fun _ => False) w w' := by
  have H1 := Lib.hid h1
  have H2 := Lib.hid h2
  clear h1 h2
  go_enter Tryz.func24, Tryz.ntmps24
  go_wp2_with fail
  go_loopw [13] (fun i wr => ∃ (k q : Nat), k ≤ ts.length ∧ i = .int .i64 (k : Int) ∧ wr = w.drewN q) (fun i _ => ts.length - (intOf i).toNat)
  case atStart => exact ⟨0, 0, Nat.zero_le _, rfl, rfl⟩
  case round =>
    obtain ⟨k, q, hk, rfl, rfl⟩ := hrel
    by_cases hlt : k < ts.length
    · obtain ⟨r1, o1, rfl, d1⟩ := H1.out.at' k ts[k] (List.getElem?_eq_getElem hlt)
      obtain ⟨r2, o2, rfl, d2⟩ := H2.out.at' k ts[k] (List.getElem?_eq_getElem hlt)
      generalize ts[k] = t at *
      have a0 := d1 0 _ rfl
      have b0 := d2 0 _ rfl
      simp only [Nat.add_zero, Nat.mul_one, strV] at a0 b0
      have hki : (k : Int) < (ts.length : Int) := by omega
      have hk0 : (0 : Int) ≤ (k : Int) := by omega
      clear d1 d2
      go_wp2_with fail
      go_quiet (fail)
      go_wp2_with fail
      go_roundw
      case rel => exact ⟨k + 1, _, by omega, by go_num, rfl⟩
      case measure => simp [intOf]; omega
    · go_wp2_with fail
      go_ret
      exact ⟨rfl, (Fr.refl _ w).drewN q⟩
end Go.Proofs.YtbodbajgpgaoeaaGreatDoor

namespace Go.Proofs.YtbodbajgpgaoeaaGreatDoor
open Go Go.RowKit

theorem bytes_app' (a b : List UInt8) : (⟨a.toArray⟩ ++ ⟨b.toArray⟩ : ByteArray) = ⟨(a ++ b).toArray⟩ := by
  apply ByteArray.ext
  simp
/-- A buffer of the reference, as the code has it. -/
def SB.cells (s : SB) : List Value := [.string ⟨s.text.toArray⟩, .int .i64 s.recent, .string ⟨s.last.toArray⟩, .bool s.begun]
def SB.val (s : SB) : Value := .agg s.cells.toArray
theorem SB.cells_len (s : SB) : s.cells.length = 4 := rfl

set_option maxRecDepth 100000 in
theorem sp_write (text : List UInt8) (recent : Int) (last : List UInt8) (begun : Bool) (t : List UInt8) (w : World) (hl : text.length + t.length ≤ 1099511627776) :
    Calls Tryz.prog 58 #[SB.val ⟨text, recent, last, begun⟩, .string ⟨t.toArray⟩] w fun e w' => e = .returned (SB.write ⟨text, recent, last, begun⟩ t).val ∧ Fr (fun _ => False) w w' := by
  have hap := bytes_app' text t
  simp only [SB.val, SB.cells, SB.write]
  go_enter Tryz.func58, Tryz.ntmps58
  go_wp2_with fail
  refine bodyPost_ret (v := .agg #[.string ⟨(text ++ t).toArray⟩, .int .i64 4, .string ⟨#[]⟩, .bool begun]) (by simp [results, Tryz.results58, go_sem]) rfl ?_
  exact ⟨rfl, ((Fr.refl _ w).alloc _).alloc _⟩
set_option maxRecDepth 100000 in
theorem sp_other (text : List UInt8) (recent : Int) (last : List UInt8) (begun : Bool) (t : List UInt8) (w : World) :
    Calls Tryz.prog 57 #[SB.val ⟨text, recent, last, begun⟩, .string ⟨t.toArray⟩] w fun e w' => e = .returned (SB.other ⟨text, recent, last, begun⟩ t).val ∧ Fr (fun _ => False) w w' := by
  simp only [SB.val, SB.cells, SB.other]
  go_enter Tryz.func57, Tryz.ntmps57
  go_wp2_with fail
  refine bodyPost_ret (v := .agg #[.string ⟨t.toArray⟩, .int .i64 0, .string ⟨#[]⟩, .bool begun]) (by simp [results, Tryz.results57, go_sem]) rfl ?_
  exact ⟨rfl, ((Fr.refl _ w).alloc _).alloc _⟩
theorem ext_mid (l : List UInt8) (a b : Nat) : ByteArray.extract ⟨l.toArray⟩ a b = ⟨((l.take b).drop a).toArray⟩ := by
  apply ByteArray.ext
  simp [ByteArray.data_extract, List.drop_take]
set_option maxHeartbeats 800000 in
set_option maxRecDepth 100000 in
theorem sp_read (text : List UInt8) (recent : Int) (last : List UInt8) (begun : Bool) (k : Nat) (r : Int) (w : World) (hk : k ≤ text.length) (hl : text.length ≤ 1099511627776) :
    Calls Tryz.prog 96 #[SB.val ⟨text, recent, last, begun⟩, .int .i64 (k : Int), .int .i64 r] w fun e w' => e = .returned (SB.read ⟨text, recent, last, begun⟩ k r).val ∧ Fr (fun _ => False) w w' := by
  simp only [SB.val, SB.cells, SB.read]
  rcases Nat.eq_zero_or_pos k with h0 | h0
  · subst h0
    go_enter Tryz.func96, Tryz.ntmps96
    go_wp2_with fail
    refine bodyPost_ret (v := .agg #[.string ⟨text.toArray⟩, .int .i64 3, .string ⟨#[]⟩, .bool true]) (by simp [results, Tryz.results96, go_sem]) rfl ?_
    exact ⟨rfl, ((Fr.refl _ w).alloc _).alloc _⟩
  · have hk0 : ((k : Int) == 0) = false := by simp; omega
    have hw1 : IntKind.i64.wrap ((k : Int) - 1) = ((k - 1 : Nat) : Int) := by rw [show (k : Int) - 1 = ((k - 1 : Nat) : Int) by omega]; exact IntWalk.i64_in _ (by omega)
    have hi1 : (0 : Int) ≤ ((k - 1 : Nat) : Int) := by omega
    have hi2 : ((k - 1 : Nat) : Int) ≤ (k : Int) := by omega
    have hi3 : (k : Int) ≤ (text.length : Int) := by omega
    have hi4 : (0 : Int) ≤ (k : Int) := by omega
    have x1 := ext_mid text (k - 1) k
    have x2 := ext_take text k
    have x3 := ext_drop text k
    have hkn : k ≠ 0 := by omega
    have hd : (text.take k).drop (k - 1) = (text.drop (k - 1)).take 1 := by rw [List.drop_take]; congr 1; omega
    rw [hd] at x1
    simp only [hkn, if_false]
    obtain ⟨k1, hk1⟩ : ∃ k1, k1 = k - 1 := ⟨_, rfl⟩
    rw [← hk1] at hw1 hi1 hi2 x1
    have HK1 := Lib.hid hk1
    clear hk1 hd
    by_cases hr : r = 2
    · subst hr
      go_enter Tryz.func96, Tryz.ntmps96
      go_wp2_with fail
      refine bodyPost_ret (v := .agg #[.string ⟨(text.drop k).toArray⟩, .int .i64 2, .string ⟨(text.take k).toArray⟩, .bool true]) (by simp [results, Tryz.results96, go_sem]) rfl ?_
      exact ⟨rfl, ((Fr.refl _ w).alloc _).alloc _⟩
    · have hr2 : (r == 2) = false := by simp [hr]
      simp only [hr, if_false]
      rw [← HK1.out]
      go_enter Tryz.func96, Tryz.ntmps96
      go_wp2_with fail
      refine bodyPost_ret (v := .agg #[.string ⟨(text.drop k).toArray⟩, .int .i64 r, .string ⟨((text.drop k1).take 1).toArray⟩, .bool true]) (by simp [results, Tryz.results96, go_sem]) rfl ?_
      exact ⟨rfl, ((Fr.refl _ w).alloc _).alloc _⟩
end Go.Proofs.YtbodbajgpgaoeaaGreatDoor

namespace Go.Proofs.YtbodbajgpgaoeaaGreatDoor
open Go Go.RowKit

theorem i32_and63 {x : Int} (h0 : 0 ≤ x) (h1 : x ≤ 1114111) : bits .and .i32 x 63 = x % 64 := bits_mask .i32 31 (by decide) wraps_i32 6 (by decide) x h0 (by omega)
/-- string([]byte{..}) of a rune's bytes. -/
theorem conv_rune (w : World) (r : Int) {l : List Int} (hl : Lib.encodeRuneZ r = l) : (convert 40 9 (.slice (some ⟨w.heap.size, 0, none⟩) l.length l.length)).run Tryz.prog (w.alloc (.cells (l.map fun x => Value.int .u8 x).toArray 5)) = .ok (.string ⟨(Lib.encodeRune r).toArray⟩) (w.alloc (.cells (l.map fun x => Value.int .u8 x).toArray 5)) := by
  have hrow := Row.new w 5 (Lib.encodeRune r)
  rw [bcs_rune] at hrow
  unfold Lib.runeCells at hrow
  rw [hl] at hrow
  have hlen : (Lib.encodeRune r).length = l.length := by rw [Lib.encodeRune, hl, List.length_map]
  have hs := src_head (c := l.length) (l := Lib.encodeRune r) hrow (List.take_length) (Nat.le_refl _)
  rw [hlen] at hs
  exact conv_str hs
theorem conv_at {w : World} {b : Nat} (r : Int) {l : List Int} (hl : Lib.encodeRuneZ r = l) (hb : w.heap[b]? = some (.cells (l.map fun x => Value.int .u8 x).toArray 5 (0, 0))) : (convert 40 9 (.slice (some ⟨b, 0, none⟩) l.length l.length)).run Tryz.prog w = .ok (.string ⟨(Lib.encodeRune r).toArray⟩) w := by
  have hrow : Row 5 w b (Lib.encodeRune r) := ⟨(0, 0), by rw [bcs_rune, Lib.runeCells, hl]; exact hb, .inl (Nat.le_refl _)⟩
  have hlen : (Lib.encodeRune r).length = l.length := by rw [Lib.encodeRune, hl, List.length_map]
  have hs := src_head (c := l.length) (l := Lib.encodeRune r) hrow (List.take_length) (Nat.le_refl _)
  rw [hlen] at hs
  exact conv_str hs
section
variable (r : Int) (p : Addr) (w : World) (hc : w.cell? p = some (.int .i32 r)) (h0 : 0 ≤ r) (h1 : r ≤ 1114111)
include hc h0 h1
set_option maxRecDepth 100000 in
theorem low_0 : Calls Tryz.prog 37 #[.int .i64 0, .pointer (some p)] w fun e w' => e = .returned (.int .u8 (128 + r % 64)) ∧ w' = w := by
  have b1 := i32_and63 h0 h1
  have b2 : r % 64 % 256 = r % 64 := by omega
  have b3 := u8_or128 (r % 64) (by omega) (by omega)
  go_enter Tryz.func37, Tryz.ntmps37
  go_wp2_with fail
  go_ret
  exact ⟨rfl, rfl⟩
set_option maxRecDepth 100000 in
theorem low_6 : Calls Tryz.prog 37 #[.int .i64 6, .pointer (some p)] w fun e w' => e = .returned (.int .u8 (128 + r / 64 % 64)) ∧ w' = w := by
  have b1 := i32_and63 (x := r / 64) (by omega) (by omega)
  have b2 : r / 64 % 64 % 256 = r / 64 % 64 := by omega
  have b3 := u8_or128 (r / 64 % 64) (by omega) (by omega)
  go_enter Tryz.func37, Tryz.ntmps37
  go_wp2_with fail
  go_ret
  exact ⟨rfl, rfl⟩
set_option maxRecDepth 100000 in
theorem low_12 : Calls Tryz.prog 37 #[.int .i64 12, .pointer (some p)] w fun e w' => e = .returned (.int .u8 (128 + r / 4096 % 64)) ∧ w' = w := by
  have b1 := i32_and63 (x := r / 4096) (by omega) (by omega)
  have b2 : r / 4096 % 64 % 256 = r / 4096 % 64 := by omega
  have b3 := u8_or128 (r / 4096 % 64) (by omega) (by omega)
  go_enter Tryz.func37, Tryz.ntmps37
  go_wp2_with fail
  go_ret
  exact ⟨rfl, rfl⟩
end
def EncPost (w : World) (r : Int) (e : Ending) (w' : World) : Prop := e = .returned (.string ⟨(enc r).toArray⟩) ∧ Fr (fun _ => False) w w'
set_option maxRecDepth 100000 in
theorem encode_bad (r : Int) (w : World) (hb : badRune r) : Calls Tryz.prog 15 #[.int .i32 r] w (EncPost w r) := by
  have he : enc r = [] := by unfold enc; rw [if_pos hb]
  unfold EncPost
  rw [he]
  have hmf : ∀ (fn : Fn) (first cap : Array Value) (w : World), (Instr.makeFunc fn first cap).run Tryz.prog w = .ok (.func fn first cap) w := fun _ _ _ _ => rfl
  unfold badRune at hb
  by_cases h1 : r < 0
  · go_enter Tryz.func15, Tryz.ntmps15
    go_wp2_with fail
    go_ret
    exact ⟨rfl, (Fr.refl _ w).alloc _⟩
  · by_cases h2 : 1114111 < r
    · go_enter Tryz.func15, Tryz.ntmps15
      go_wp2_with fail
      go_ret
      exact ⟨rfl, (Fr.refl _ w).alloc _⟩
    · have h3 : 55296 ≤ r := by omega
      have h4 : r < 57344 := by omega
      go_enter Tryz.func15, Tryz.ntmps15
      go_wp2_with fail
      go_ret
      exact ⟨rfl, (Fr.refl _ w).alloc _⟩
set_option maxRecDepth 100000 in
theorem encode_1 (r : Int) (w : World) (h0 : 0 ≤ r) (h1 : r ≤ 127) : Calls Tryz.prog 15 #[.int .i32 r] w (EncPost w r) := by
  have he : enc r = [r.toNat.toUInt8] := by unfold enc; rw [if_neg (by unfold badRune; omega), Lib.encodeRune, Lib.encodeRuneZ_one h0 h1]; rfl
  unfold EncPost
  rw [he]
  have hmf : ∀ (fn : Fn) (first cap : Array Value) (w : World), (Instr.makeFunc fn first cap).run Tryz.prog w = .ok (.func fn first cap) w := fun _ _ _ _ => rfl
  have b1 : r % 256 = r := by omega
  have hcv := conv_rune (w.alloc (.cells #[.int .i32 r] 21)) r (Lib.encodeRuneZ_one h0 h1)
  simp only [List.map_cons, List.map_nil, List.length_cons, List.length_nil, World.size_alloc] at hcv
  have he2 : Lib.encodeRune r = [r.toNat.toUInt8] := by rw [Lib.encodeRune, Lib.encodeRuneZ_one h0 h1]; rfl
  rw [he2] at hcv
  go_enter Tryz.func15, Tryz.ntmps15
  go_wp2_with fail
  go_ret
  exact ⟨rfl, ((Fr.refl _ w).alloc _).alloc _⟩
set_option maxHeartbeats 1600000 in
set_option maxRecDepth 100000 in
theorem encode_2 (r : Int) (w : World) (h0 : 128 ≤ r) (h1 : r ≤ 2047) : Calls Tryz.prog 15 #[.int .i32 r] w (EncPost w r) := by
  have he : enc r = Lib.encodeRune r := by unfold enc; rw [if_neg (by unfold badRune; omega)]
  unfold EncPost
  rw [he]
  have hmf : ∀ (fn : Fn) (first cap : Array Value) (w : World), (Instr.makeFunc fn first cap).run Tryz.prog w = .ok (.func fn first cap) w := fun _ _ _ _ => rfl
  have b1 : IntKind.u8.wrap (r / 64) = r / 64 := by rw [IntKind.wrap_u8']; omega
  have b2 := u8_or192 (r / 64) (by omega) (by omega)
  have h4 : ¬ 55296 ≤ r := by omega
  have h5 : ¬ r < 128 := by omega
  have hcv := conv_at (w := ((w.alloc (.cells #[.int .i32 r] 21)).alloc (.cells #[.int .u8 (192 + r / 64), .int .u8 (128 + r % 64)] 5)).drew) (b := w.heap.size + 1) r (Lib.encodeRuneZ_two h0 h1) (by have h0 := heap_alloc_new (w.alloc (.cells #[.int .i32 r] 21)) (.cells #[.int .u8 (192 + r / 64), .int .u8 (128 + r % 64)] 5); rw [World.size_alloc] at h0; exact h0)
  simp only [List.length_cons, List.length_nil] at hcv
  have h9 : ¬ r < 0 := by omega
  have h8 : ¬ 1114111 < r := by omega
  go_enter Tryz.func15, Tryz.ntmps15
  go_wp2_with fail
  go_region_held (fun w' => w'.cell? ⟨w.heap.size, 0, none⟩ = some (.int .i32 r)) (go_keep) ((go_at_call 37; (first | (refine (low_0 r ⟨w.heap.size, 0, none⟩ _ (by simp) (by omega) (by omega)).mono ?_)); rintro e w2 ⟨rfl, rfl⟩))
  all_goals
    go_wp2_with fail
    go_ret
    exact ⟨rfl, (((Fr.refl _ w).alloc _).alloc _).drew⟩
set_option maxHeartbeats 1600000 in
set_option maxRecDepth 100000 in
theorem encode_3a (r : Int) (w : World) (h0 : 2048 ≤ r) (h1 : r < 55296) : Calls Tryz.prog 15 #[.int .i32 r] w (EncPost w r) := by
  have he : enc r = Lib.encodeRune r := by unfold enc; rw [if_neg (by unfold badRune; omega)]
  unfold EncPost
  rw [he]
  have hmf : ∀ (fn : Fn) (first cap : Array Value) (w : World), (Instr.makeFunc fn first cap).run Tryz.prog w = .ok (.func fn first cap) w := fun _ _ _ _ => rfl
  have b1 : IntKind.u8.wrap (r / 4096) = r / 4096 := by rw [IntKind.wrap_u8']; omega
  have b2 := u8_or224 (r / 4096) (by omega) (by omega)
  have h5 : ¬ r < 128 := by omega
  have h6 : ¬ r < 2048 := by omega
  have h4 : ¬ 55296 ≤ r := by omega
  have hcv := conv_at (w := ((w.alloc (.cells #[.int .i32 r] 21)).alloc (.cells #[.int .u8 (224 + r / 4096), .int .u8 (128 + r / 64 % 64), .int .u8 (128 + r % 64)] 5)).drew) (b := w.heap.size + 1) r (Lib.encodeRuneZ_three (.inl ⟨h0, h1⟩)) (by have h0 := heap_alloc_new (w.alloc (.cells #[.int .i32 r] 21)) (.cells #[.int .u8 (224 + r / 4096), .int .u8 (128 + r / 64 % 64), .int .u8 (128 + r % 64)] 5); rw [World.size_alloc] at h0; exact h0)
  simp only [List.length_cons, List.length_nil] at hcv
  have h9 : ¬ r < 0 := by omega
  have h8 : ¬ 1114111 < r := by omega
  go_enter Tryz.func15, Tryz.ntmps15
  go_wp2_with fail
  go_region_held (fun w' => w'.cell? ⟨w.heap.size, 0, none⟩ = some (.int .i32 r)) (go_keep) ((go_at_call 37; (first | (refine (low_6 r ⟨w.heap.size, 0, none⟩ _ (by simp) (by omega) (by omega)).mono ?_) | (refine (low_0 r ⟨w.heap.size, 0, none⟩ _ (by simp) (by omega) (by omega)).mono ?_)); rintro e w2 ⟨rfl, rfl⟩))
  all_goals
    go_wp2_with fail
    go_ret
    exact ⟨rfl, (((Fr.refl _ w).alloc _).alloc _).drew⟩
set_option maxHeartbeats 1600000 in
set_option maxRecDepth 100000 in
theorem encode_3b (r : Int) (w : World) (h0 : 57343 < r) (h1 : r ≤ 65535) : Calls Tryz.prog 15 #[.int .i32 r] w (EncPost w r) := by
  have he : enc r = Lib.encodeRune r := by unfold enc; rw [if_neg (by unfold badRune; omega)]
  unfold EncPost
  rw [he]
  have hmf : ∀ (fn : Fn) (first cap : Array Value) (w : World), (Instr.makeFunc fn first cap).run Tryz.prog w = .ok (.func fn first cap) w := fun _ _ _ _ => rfl
  have b1 : IntKind.u8.wrap (r / 4096) = r / 4096 := by rw [IntKind.wrap_u8']; omega
  have b2 := u8_or224 (r / 4096) (by omega) (by omega)
  have h5 : ¬ r < 128 := by omega
  have h6 : ¬ r < 2048 := by omega
  have h4 : 55296 ≤ r := by omega
  have h7 : ¬ r < 57344 := by omega
  have hcv := conv_at (w := ((w.alloc (.cells #[.int .i32 r] 21)).alloc (.cells #[.int .u8 (224 + r / 4096), .int .u8 (128 + r / 64 % 64), .int .u8 (128 + r % 64)] 5)).drew) (b := w.heap.size + 1) r (Lib.encodeRuneZ_three (.inr ⟨h0, h1⟩)) (by have h0 := heap_alloc_new (w.alloc (.cells #[.int .i32 r] 21)) (.cells #[.int .u8 (224 + r / 4096), .int .u8 (128 + r / 64 % 64), .int .u8 (128 + r % 64)] 5); rw [World.size_alloc] at h0; exact h0)
  simp only [List.length_cons, List.length_nil] at hcv
  have h9 : ¬ r < 0 := by omega
  have h8 : ¬ 1114111 < r := by omega
  go_enter Tryz.func15, Tryz.ntmps15
  go_wp2_with fail
  go_region_held (fun w' => w'.cell? ⟨w.heap.size, 0, none⟩ = some (.int .i32 r)) (go_keep) ((go_at_call 37; (first | (refine (low_6 r ⟨w.heap.size, 0, none⟩ _ (by simp) (by omega) (by omega)).mono ?_) | (refine (low_0 r ⟨w.heap.size, 0, none⟩ _ (by simp) (by omega) (by omega)).mono ?_)); rintro e w2 ⟨rfl, rfl⟩))
  all_goals
    go_wp2_with fail
    go_ret
    exact ⟨rfl, (((Fr.refl _ w).alloc _).alloc _).drew⟩
set_option maxHeartbeats 1600000 in
set_option maxRecDepth 100000 in
theorem encode_4 (r : Int) (w : World) (h0 : 65536 ≤ r) (h1 : r ≤ 1114111) : Calls Tryz.prog 15 #[.int .i32 r] w (EncPost w r) := by
  have he : enc r = Lib.encodeRune r := by unfold enc; rw [if_neg (by unfold badRune; omega)]
  unfold EncPost
  rw [he]
  have hmf : ∀ (fn : Fn) (first cap : Array Value) (w : World), (Instr.makeFunc fn first cap).run Tryz.prog w = .ok (.func fn first cap) w := fun _ _ _ _ => rfl
  have b1 : IntKind.u8.wrap (r / 262144) = r / 262144 := by rw [IntKind.wrap_u8']; omega
  have b2 := u8_or240 (r / 262144) (by omega) (by omega)
  have h4 : 55296 ≤ r := by omega
  have h7 : ¬ r < 57344 := by omega
  have h5 : ¬ r < 128 := by omega
  have h6 : ¬ r < 2048 := by omega
  have h10 : ¬ r < 65536 := by omega
  have hcv := conv_at (w := ((w.alloc (.cells #[.int .i32 r] 21)).alloc (.cells #[.int .u8 (240 + r / 262144), .int .u8 (128 + r / 4096 % 64), .int .u8 (128 + r / 64 % 64), .int .u8 (128 + r % 64)] 5)).drew) (b := w.heap.size + 1) r (Lib.encodeRuneZ_four h0 h1) (by have h0 := heap_alloc_new (w.alloc (.cells #[.int .i32 r] 21)) (.cells #[.int .u8 (240 + r / 262144), .int .u8 (128 + r / 4096 % 64), .int .u8 (128 + r / 64 % 64), .int .u8 (128 + r % 64)] 5); rw [World.size_alloc] at h0; exact h0)
  simp only [List.length_cons, List.length_nil] at hcv
  have h9 : ¬ r < 0 := by omega
  have h8 : ¬ 1114111 < r := by omega
  go_enter Tryz.func15, Tryz.ntmps15
  go_wp2_with fail
  go_region_held (fun w' => w'.cell? ⟨w.heap.size, 0, none⟩ = some (.int .i32 r)) (go_keep) ((go_at_call 37; (first | (refine (low_12 r ⟨w.heap.size, 0, none⟩ _ (by simp) (by omega) (by omega)).mono ?_) | (refine (low_6 r ⟨w.heap.size, 0, none⟩ _ (by simp) (by omega) (by omega)).mono ?_) | (refine (low_0 r ⟨w.heap.size, 0, none⟩ _ (by simp) (by omega) (by omega)).mono ?_)); rintro e w2 ⟨rfl, rfl⟩))
  all_goals
    go_wp2_with fail
    go_ret
    exact ⟨rfl, (((Fr.refl _ w).alloc _).alloc _).drew⟩
theorem encode_any (r : Int) (w : World) : Calls Tryz.prog 15 #[.int .i32 r] w (EncPost w r) := by
  by_cases hb : badRune r
  · exact encode_bad r w hb
  · unfold badRune at hb
    rcases (show (0 ≤ r ∧ r ≤ 127) ∨ (128 ≤ r ∧ r ≤ 2047) ∨ (2048 ≤ r ∧ r < 55296) ∨ (57343 < r ∧ r ≤ 65535) ∨ (65536 ≤ r ∧ r ≤ 1114111) by omega) with ⟨h0, h1⟩ | ⟨h0, h1⟩ | ⟨h0, h1⟩ | ⟨h0, h1⟩ | ⟨h0, h1⟩
    · exact encode_1 r w h0 h1
    · exact encode_2 r w h0 h1
    · exact encode_3a r w h0 h1
    · exact encode_3b r w h0 h1
    · exact encode_4 r w h0 h1
end Go.Proofs.YtbodbajgpgaoeaaGreatDoor

namespace Go.Proofs.YtbodbajgpgaoeaaGreatDoor
open Go Go.RowKit

/-- It returns true, and leaves all that there was. -/
def LawPost (w : World) (e : Ending) (w' : World) : Prop := e = .returned (.bool true) ∧ Fr (fun _ => False) w w'
theorem elem_call : ElemOk Tryz.prog 25 36 9 88 := by
  obtain ⟨i0, hi, hz0, hz1, hz2⟩ := info_parts (show (Tryz.prog.info? 36).map (fun i => (i.zero, i.size, i.bytes)) = some (some (.agg #[.int .i64 0, .int .i64 0, .int .i64 0, .int .u16 0, .int .i64 0, .int .u8 0, .int .i32 0, .string ⟨#[]⟩, .slice none 0 0]), 9, 88) by kernel_rfl)
  exact ⟨Tryz.underlying25, ⟨i0, _, hi, hz0, hz1, hz2, rfl⟩, by decide, by decide⟩
def cls (l : List Cl) : List Value := l.flatMap Cl.cells
theorem cls_append (l m : List Cl) : cls (l ++ m) = cls l ++ cls m := by simp [cls]
theorem cls_one (c : Cl) : cls [c] = c.cells := by simp [cls]
/-- A slice of calls of the law's own. -/
abbrev OwnC (w : World) (base : Nat) (v : Value) (l : List Cl) : Prop := Own 36 9 w base v l.length (cls l)
theorem Gl.up {base base' : Nat} {ea eu : Addr} {w : World} (h : Gl base ea eu w) (hb : base ≤ base') : Gl base' ea eu w := by
  have hE : ∀ {x : Nat}, (∃ s, ErrBlk w base x s) → ∃ s, ErrBlk w base' x s := fun ⟨s, k⟩ => ⟨s, k.blk, Nat.lt_of_lt_of_le k.lt hb⟩
  exact ⟨h.eof, h.unr, hE h.be, hE h.bu, h.nu, Nat.lt_of_lt_of_le h.e0 hb, Nat.lt_of_lt_of_le h.e2 hb, fun w' k => h.tabs w' fun x hx => k x (Nat.lt_of_lt_of_le hx hb)⟩
theorem OwnC.slice {w : World} {base : Nat} {A : Option Addr} {n c : Nat} {l : List Cl} (h : OwnC w base (.slice A n c) l) : n = l.length ∧ Reads Cl.cells 9 w A l := by
  obtain ⟨A', c', e, _, hr, _⟩ := Own.reads (cells := Cl.cells) Cl.cells_len (by decide) h
  injection e with e1 e2 e3
  subst e1 e2
  exact ⟨rfl, hr⟩
theorem bytes_appL (a b : List UInt8) : (⟨a.toArray⟩ ++ ⟨b.toArray⟩ : ByteArray) = ⟨(a ++ b).toArray⟩ := by
  apply ByteArray.ext
  simp
theorem elem_start : ElemOk Tryz.prog 33 24 3 32 := by
  obtain ⟨i0, hi, hz0, hz1, hz2⟩ := info_parts (show (Tryz.prog.info? 24).map (fun i => (i.zero, i.size, i.bytes)) = some (some (.agg #[.string ⟨#[]⟩, .int .i64 0, .int .u16 0]), 3, 32) by kernel_rfl)
  exact ⟨Tryz.underlying33, ⟨i0, _, hi, hz0, hz1, hz2, rfl⟩, by decide, by decide⟩
def sts (l : List St) : List Value := l.flatMap St.cells
theorem sts_one (s : St) : sts [s] = s.cells := by simp [sts]
/-- Slices of different types lie in different blocks. -/
theorem Own.other {E E' : TypeId} {size size' : Nat} {w : World} {base base' : Nat} {v v' : Value} {n n' : Nat} {xs xs' : List Value} (h : Own E size w base v n xs) (h' : Own E' size' w base' v' n' xs') (hne : E ≠ E') (x : Nat) (hx : v.ownBlock = some x) : v'.ownBlock ≠ some x := by
  intro hx'
  exact (h.typed hx).ne hne (h'.typed hx')
/-- What an append does not touch. -/
theorem Own.keep {E' : TypeId} {size' : Nat} {w w2 : World} {o : Obj} {base : Nat} {v v' : Value} {n' : Nat} {xs' : List Value} (h' : Own E' size' w base v' n' xs') (hd : ∀ x, v'.ownBlock = some x → v.ownBlock ≠ some x) (hfr : Fr (fun x => v.ownBlock = some x) (w.alloc o) w2) : Own E' size' w2 base v' n' xs' :=
  h'.fr (((Fr.refl _ w).alloc o).trans hfr) (fun x hx q => hd x hx q)
theorem Own.apart {E' : TypeId} {size' : Nat} {w : World} {base : Nat} {v v' : Value} {n' g m cap : Nat} {xs' : List Value} (h' : Own E' size' w base v' n' xs') (hd : ∀ x, v'.ownBlock = some x → v.ownBlock ≠ some x) (hat : v.ownBlock = some g ∨ w.heap.size + 1 ≤ g) (x : Nat) (hx : v'.ownBlock = some x) : (Value.slice (some ⟨g, 0, none⟩) m cap).ownBlock ≠ some x := by
  intro q
  have e : g = x := by injection q
  subst e
  rcases hat with k | k
  · exact hd g hx k
  · have := h'.blk_lt hx
    omega
theorem Own.grown {E : TypeId} {size : Nat} {w0 w w2 : World} {o : Obj} {v : Value} {n : Nat} {xs : List Value} (h : Own E size w w0.heap.size v n xs) (h0 : Fr (fun _ => False) w0 w) (hfr : Fr (fun x => v.ownBlock = some x) (w.alloc o) w2) : Fr (fun _ => False) w0 w2 :=
  h0.trans' (((Fr.refl _ w).alloc o).trans hfr) (fun x hx q => by have := h.blk_ge q; omega)
theorem Reads.of_block {α : Type} {cells : α → List Value} {size : Nat} (hs : ∀ x, (cells x).length = size) {w : World} {g : Nat} {xs : List α} {T : TypeId} {fz : Nat × Nat} {cs : Array Value} (h : w.heap[g]? = some (.cells cs T fz)) (hc : cs.toList = xs.flatMap cells) : Reads cells size w (some ⟨g, 0, none⟩) xs := by
  refine ⟨fun j x hx => ⟨g, 0, rfl, fun k v hv => ?_⟩⟩
  have e := flat_get cells size hs xs j x k v hx hv
  rw [Nat.zero_add, cell_of_row w g _ _ _ _ h, ← Array.getElem?_toList, hc]
  exact e
theorem Own.readsAt {α : Type} {cells : α → List Value} {size : Nat} (hs : ∀ x, (cells x).length = size) (hp : 0 < size) {E : TypeId} {w : World} {base : Nat} {A : Option Addr} {n c : Nat} {xs : List α} (h : Own E size w base (.slice A n c) n (xs.flatMap cells)) : Reads cells size w A xs := by
  obtain ⟨A', c', e, _, hr, _⟩ := Own.reads (cells := cells) hs hp h
  injection e with e1 e2
  subst e1
  exact hr
theorem Own.readsStrs {E : TypeId} {w : World} {base : Nat} {A : Option Addr} {n c : Nat} {xs : List (List UInt8)} (h : Own E 1 w base (.slice A n c) n (strs xs)) : Reads strC 1 w A xs := by
  rw [strs_flat] at h
  exact Own.readsAt (cells := strC) (fun _ => rfl) (by decide) h

/-- The script that laws.ready plays. -/
def rdyS : List St := [⟨[97, 98], 0, 0⟩]
def rdyC : List Cl := [⟨1, 0, 0, 0, 0, 0, 0, [99], [], none, 0⟩, ⟨7, 0, 0, 2, 0, 0, 0, [], [], none, 0⟩]
theorem rdy_run : (runF (Yd.begin rdyS 0) rdyC).1 = [⟨1, [], 0, 0⟩, ⟨0, [97, 98], 0, 0⟩] ∧ (runF (Yd.begin rdyS 0) rdyC).2.texts = [[99]] := ⟨rfl, rfl⟩
theorem rdy_mild : Mild (Yd.begin rdyS 0) rdyC := ⟨rfl, by decide, rfl, by decide, trivial⟩
theorem rdy_script (w : World) : Script w (Yd.begin rdyS 0) rdyC := by
  have hU : U16s w none [] := ⟨by simp, fun q => absurd q (by simp)⟩
  refine ⟨fun c hc => ?_, fun c hc => ?_, fun c hc => ?_⟩ <;> simp only [rdyC, List.mem_cons, List.not_mem_nil, or_false] at hc <;> rcases hc with rfl | rfl
  · exact ⟨by decide, hU, by decide, by decide⟩
  · exact ⟨by decide, hU, by decide, by decide⟩
  · exact .inl (by decide)
  · exact .inl (by decide)
  · unfold Cl.there
    rw [if_neg (by decide)]
    exact ⟨⟨by decide, by decide⟩, fun q => absurd q (by decide)⟩
  · unfold Cl.there
    rw [if_neg (by decide)]
    exact ⟨⟨by decide, by decide⟩, fun q => absurd q (by decide)⟩
theorem rdy_size : (Yd.begin rdyS 0).tot + wsum rdyC + 66000 ≤ 1099511627776 := by
  have e1 : (Yd.begin rdyS 0).tot = 2 := rfl
  have e2 : wsum rdyC = 9 := rfl
  omega
theorem rdy_any (A A' : Option Addr) (c c' : Nat) (ea eu : Addr) (w : World) (hR : Reads St.cells 3 w A rdyS) (hC : Reads Cl.cells 9 w A' rdyC) (hG : Gl w.heap.size ea eu w) :
    Calls Tryz.prog 12 #[.slice A 1 c, .int .u8 0, .slice A' 2 c'] w fun e w' => ∃ v1 v2 v3, e = .returned (.tuple #[v1, v2, v3]) ∧ Own 39 4 w' w.heap.size v1 2 (tds [⟨1, [], 0, 0⟩, ⟨0, [97, 98], 0, 0⟩]) ∧ Own 9 1 w' w.heap.size v2 1 (strs [[99]]) ∧ Fr (fun _ => False) w w' := by
  have hrun := run_any rdyS 0 A c rdyC A' c' ea eu w hR (fun s hs => by simp [rdyS] at hs; subst hs; simp) (by simp [rdyS]) (by omega) hC (rdy_script w) rdy_mild (fun i s hs => by cases i with | zero => simp [Yd.begin, rdyS] at hs; subst hs; simp | succ i => simp [Yd.begin, rdyS] at hs) (by simp [rdyC]) rdy_size hG
  refine Calls.mono hrun ?_
  rintro e w' ⟨v1, v2, v3, rfl, h1, h2, h3, hf⟩
  rw [rdy_run.1] at h1
  rw [rdy_run.2] at h2
  exact ⟨v1, v2, v3, rfl, h1, h2, hf⟩
set_option maxHeartbeats 800000 in
set_option maxRecDepth 100000 in
theorem ready_any (ea eu : Addr) (w : World) (hG : Gl w.heap.size ea eu w) : Calls Tryz.prog 26 #[] w (LawPost w) := by
  obtain ⟨w2, hw2⟩ : ∃ w2, w2 = (w.alloc (.cells #[.string ⟨#[97, 98]⟩, .int .i64 0, .int .u16 0] 24)).alloc (.cells #[.int .i64 1, .int .i64 0, .int .i64 0, .int .u16 0, .int .i64 0, .int .u8 0, .int .i32 0, .string ⟨#[99]⟩, .slice none 0 0, .int .i64 7, .int .i64 0, .int .i64 0, .int .u16 2, .int .i64 0, .int .u8 0, .int .i32 0, .string ⟨#[]⟩, .slice none 0 0] 36) := ⟨_, rfl⟩
  have hF2 : Fr (fun _ => False) w w2 := by rw [hw2]; exact ((Fr.refl _ w).alloc _).alloc _
  have hr1 : Reads St.cells 3 w2 (some ⟨w.heap.size, 0, none⟩) rdyS := by
    rw [hw2]
    exact Reads.of_block St.cells_len (((Fr.refl (fun _ => False) _).alloc _).blk (heap_alloc_new w _) (fun q => q)) rfl
  have hr2 : Reads Cl.cells 9 w2 (some ⟨w.heap.size + 1, 0, none⟩) rdyC := by
    have hb := heap_alloc_new (w.alloc (.cells #[.string ⟨#[97, 98]⟩, .int .i64 0, .int .u16 0] 24)) (.cells #[.int .i64 1, .int .i64 0, .int .i64 0, .int .u16 0, .int .i64 0, .int .u8 0, .int .i32 0, .string ⟨#[99]⟩, .slice none 0 0, .int .i64 7, .int .i64 0, .int .i64 0, .int .u16 2, .int .i64 0, .int .u8 0, .int .i32 0, .string ⟨#[]⟩, .slice none 0 0] 36)
    rw [← hw2] at hb
    have e : (w.alloc (.cells #[.string ⟨#[97, 98]⟩, .int .i64 0, .int .u16 0] 24)).heap.size = w.heap.size + 1 := by simp
    rw [e] at hb
    exact Reads.of_block Cl.cells_len hb rfl
  have HG2 := Lib.hid ((hG.fr0 (Nat.le_refl _) hF2).up hF2.size)
  have HR1 := Lib.hid hr1
  have HR2 := Lib.hid hr2
  have HF2 := Lib.hid hF2
  have HW2 := Lib.hid hw2
  clear hG hw2 hF2 hr1 hr2
  go_enter Tryz.func26, Tryz.ntmps26
  go_wp2_with fail
  rw [← HW2.out]
  refine (rdy_any _ _ _ _ ea eu w2 HR1.out HR2.out HG2.out).mono ?_
  rintro e w3 ⟨v1, v2, v3, rfl, o1, o2, F3⟩
  obtain ⟨A1, q1, rfl⟩ := o1.value
  obtain ⟨A2, q2, rfl⟩ := o2.value
  have r1 := Own.readsAt Td.cells_len (by decide) o1
  have r2 := Own.readsStrs o2
  obtain ⟨g1, p1, rfl, k1⟩ := r1.at' 1 _ rfl
  obtain ⟨g2, p2, rfl, k2⟩ := r2.at' 0 _ rfl
  have c1 := k1 1 _ rfl
  have c2 := k2 0 _ rfl
  simp only [strV, Nat.add_zero, Nat.zero_mul] at c2
  have HF := Lib.hid (HF2.out.trans F3)
  clear o1 o2 r1 r2 k1 k2 F3
  go_wp2_with fail
  go_ret
  exact ⟨rfl, HF.out⟩
end Go.Proofs.YtbodbajgpgaoeaaGreatDoor

namespace Go.Proofs.YtbodbajgpgaoeaaGreatDoor
open Go Go.RowKit

theorem conv_sign (w : World) (x : UInt8) : (convert 40 9 (.slice (some ⟨w.heap.size, 0, none⟩) 1 1)).run Tryz.prog (w.alloc (.cells #[.int .u8 (x.toNat : Int)] 5)) = .ok (.string ⟨[x].toArray⟩) (w.alloc (.cells #[.int .u8 (x.toNat : Int)] 5)) := by
  have h : Src (w.alloc (.cells #[.int .u8 (x.toNat : Int)] 5)) (.slice (some ⟨w.heap.size, 0, none⟩) 1 1) [x] := by
    have := Src.of_row (o := 0) (n := 1) (c := 1) (A := some ⟨w.heap.size, 0, none⟩) (Row.new w 5 [x]) (fun _ => rfl) (by simp)
    simpa [bcs] using this
  exact conv_str h
theorem enc_len (r : Int) : (enc r).length ≤ 4 := by
  unfold enc
  split
  · simp
  · rw [Lib.encodeRune, List.length_map]; exact (Lib.encodeRuneZ_length r).2
section
variable (a bb : Int) (size : Nat) (n : Int) (sign : UInt8) (char : Int) (text : List UInt8) (cuts : List Nat) (ad : Option Addr) (cap : Nat)

end
end Go.Proofs.YtbodbajgpgaoeaaGreatDoor
