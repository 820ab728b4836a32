/- impl.Run. -/
import Derived.Test.YtimigjjokdnfbaaDoorDoY
import Derived.Test.YtimigjjokdnfbaaDoorOpened
namespace Go.Proofs.YtimigjjokdnfbaaDoor
open Go Go.RowKit

theorem runF_snoc : ∀ (l : List Cl) (y : Yd) (c : Cl), Mild y (l ++ [c]) → Mild y l ∧ ((runF y l).2.do c).2.2 = true ∧ ((runF y l).2.do c).2.1.said ≠ 3 ∧ runF y (l ++ [c]) = ((runF y l).1 ++ [((runF y l).2.do c).2.1], ((runF y l).2.do c).1)
  | [], y, c, h => by
    have h' : (y.do c).2.2 = true ∧ (y.do c).2.1.said ≠ 3 ∧ Mild (y.do c).1 [] := h
    refine ⟨trivial, h'.1, h'.2.1, ?_⟩
    simp only [List.nil_append, runF]
    rw [if_neg h'.2.1]
  | d :: l, y, c, h => by
    have h' : (y.do d).2.2 = true ∧ (y.do d).2.1.said ≠ 3 ∧ Mild (y.do d).1 (l ++ [c]) := h
    obtain ⟨k1, k2, k3, k4⟩ := runF_snoc l _ c h'.2.2
    have e1 : runF y (d :: l) = ((y.do d).2.1 :: (runF (y.do d).1 l).1, (runF (y.do d).1 l).2) := by simp only [runF]; rw [if_neg h'.2.1]
    have e2 : runF y (d :: (l ++ [c])) = ((y.do d).2.1 :: (runF (y.do d).1 (l ++ [c])).1, (runF (y.do d).1 (l ++ [c])).2) := by simp only [runF]; rw [if_neg h'.2.1]
    rw [List.cons_append, e1, e2, k4]
    exact ⟨⟨h'.1, h'.2.1, k1⟩, k2, k3, rfl⟩
theorem Mild.take : ∀ (l : List Cl) (y : Yd) (k : Nat), Mild y l → Mild y (l.take k)
  | [], y, k, h => by simp [Mild]
  | c :: l, y, 0, h => trivial
  | c :: l, y, k + 1, h => ⟨h.1, h.2.1, Mild.take l _ k h.2.2⟩
theorem runF_succ {cs : List Cl} {y : Yd} (h : Mild y cs) {k : Nat} (hk : k < cs.length) : ((runF y (cs.take k)).2.do cs[k]).2.2 = true ∧ ((runF y (cs.take k)).2.do cs[k]).2.1.said ≠ 3 ∧
    runF y (cs.take (k + 1)) = ((runF y (cs.take k)).1 ++ [((runF y (cs.take k)).2.do cs[k]).2.1], ((runF y (cs.take k)).2.do cs[k]).1) := by
  have hm := Mild.take cs y (k + 1) h
  rw [List.take_succ_eq_append_getElem hk] at hm ⊢
  exact (runF_snoc _ _ _ hm).2
/-- The sizes along a script. -/
theorem runF_kept {cs : List Cl} {y : Yd} (h : Mild y cs) (hy : y.ok) : ∀ k, k ≤ cs.length → y.Kept (runF y (cs.take k)).2 (wsum (cs.take k))
  | 0, _ => ⟨hy, Nat.le_add_right _ _, rfl, rfl⟩
  | k + 1, hk => by
    have ih := runF_kept h hy k (by omega)
    obtain ⟨_, _, e⟩ := runF_succ h (show k < cs.length by omega)
    have hd := Yd.do_kept cs[k] ih.ok
    rw [e]
    refine ⟨hd.ok, ?_, hd.bl.trans ih.bl, hd.dl.trans ih.dl⟩
    have h1 := hd.tot
    have h2 := ih.tot
    rw [List.take_succ_eq_append_getElem (show k < cs.length by omega), wsum_append, wsum_cons]
    simp only
    have : wsum [] = 0 := rfl
    omega
theorem wsum_take (cs : List Cl) (k : Nat) : wsum (cs.take k) ≤ wsum cs := by
  have := wsum_append (cs.take k) (cs.drop k)
  rw [List.take_append_drop] at this
  omega
theorem runF_len {cs : List Cl} {y : Yd} (h : Mild y cs) (k : Nat) (hk : k ≤ cs.length) : (runF y (cs.take k)).1.length = k := by
  rw [Mild.len _ _ (Mild.take cs y k h)]
  simp; omega

theorem elem_told : ElemOk Tryd.prog 27 35 4 40 := by
  obtain ⟨i0, hi, hz0, hz1, hz2⟩ := info_parts (show (Tryd.prog.info? 35).map (fun i => (i.zero, i.size, i.bytes)) = some (some (.agg #[.int .i64 0, .string ⟨#[]⟩, .int .i32 0, .int .i64 0]), 4, 40) by kernel_rfl)
  exact ⟨Tryd.underlying27, ⟨i0, _, hi, hz0, hz1, hz2, rfl⟩, by decide, by decide⟩
theorem Own.empty (E : TypeId) (size : Nat) (w : World) {base : Nat} (hb : base ≤ w.heap.size) : Own E size (w.alloc (.cells #[] E)) base (.slice (some ⟨w.heap.size, 0, none⟩) 0 0) 0 [] :=
  ⟨by simp, .inr ⟨_, 0, #[], rfl, hb, heap_alloc_new w _, Nat.le_refl _, by simp [maxLen], by simp, by simp⟩⟩
theorem ydS.not_own {E : TypeId} {size : Nat} {w : World} {base base' : Nat} {v : Value} {n : Nat} {xs : List Value} (h : Own E size w base v n xs) (h1 : E ≠ 61) (h2 : E ≠ 54) (h3 : E ≠ 5) {x : Nat} (hx : v.ownBlock = some x) : ¬ ydS w base' x := fun q => q.not_typed (h.typed hx) h1 h2 h3
def tds (l : List Td) : List Value := l.flatMap Td.cells
theorem tds_append (l m : List Td) : tds (l ++ m) = tds l ++ tds m := by simp [tds]

/-- What holds of all calls of a script. -/
structure Script (w : World) (y : Yd) (cs : List Cl) : Prop where
  ok : ∀ c ∈ cs, ClOk w c
  plays : ∀ c ∈ cs, c.plays
  there : ∀ c ∈ cs, c.there y
theorem Cl.there_of {c : Cl} {y y' : Yd} (h : c.there y) (hb : y'.bufs.length = y.bufs.length) (hd : y'.blds.length = y.blds.length) : c.there y' := by
  unfold Cl.there at *
  rw [hb, hd]
  exact h

section
variable {w w' : World} {base yb : Nat} {A : Option Addr} {c : Nat} {A' : Option Addr} {c' : Nat} {lab : Nat → Nat} {bs : List (Nat × Gh)} {ds : List (Nat × BG)}
/-- Blocks of other types may be written. -/
theorem YardC.fr {S : Nat → Prop} (h : YardC w base yb A c A' c' lab bs ds) (hf : Fr S w w') (T : TypeId) (hS : ∀ x, S x → Typed w x T) (h1 : T ≠ 61) (h2 : T ≠ 54) (h3 : T ≠ 5) (h4 : T ≠ 47) (h5 : T ≠ 48) (h6 : T ≠ 50) : YardC w' base yb A c A' c' lab bs ds := by
  have no : ∀ x, ydS w base x → ¬ S x := fun x q k => q.not_typed (hS x k) h1 h2 h3
  refine ⟨h.bb, Nat.le_trans h.bw hf.size, hf.blk h.st (fun k => (hS yb k).ne h4 ⟨_, _, h.st⟩), fun i p hi => ?_, fun i p hi => ?_, fun i p hi => (h.ba i p hi).fr hf (fun x hx => no x (h.bfoot hi hx)), fun i p hi => (h.da i p hi).fr hf (fun x hx => no x (h.dfoot hi hx)), h.bl, h.dl⟩
  · obtain ⟨r, hA, hT, hc⟩ := h.bp i p hi
    have hn : ¬ S r := fun k => (hS r k).ne h5 hT
    exact ⟨r, hA, hT.fr hf hn, (hf.cell (World.block_lt_of_cell? _ _ hc) hn).trans hc⟩
  · obtain ⟨r, hA, hT, hc⟩ := h.dp i p hi
    have hn : ¬ S r := fun k => (hS r k).ne h6 hT
    exact ⟨r, hA, hT.fr hf hn, (hf.cell (World.block_lt_of_cell? _ _ hc) hn).trans hc⟩
theorem YardC.fr0 (h : YardC w base yb A c A' c' lab bs ds) (hf : Fr (fun _ => False) w w') : YardC w' base yb A c A' c' lab bs ds := h.fr hf 9 (fun _ q => q.elim) (by decide) (by decide) (by decide) (by decide) (by decide) (by decide)
/-- A builder's bytes have been frozen. -/
theorem YardC.frz (h : YardC w base yb A c A' c' lab bs ds) {i d : Nat} {g : BG} (hi : ds[i]? = some (d, g)) (hB : BldAt w' d g) (hf : Fr (fun x => g.row = some x) w w') : YardC w' base yb A c A' c' lab bs ds := by
  refine h.upd hf (fun x _ q => h.dfoot hi (.inr q)) rfl rfl (fun j p hp => ?_) (fun j p hp => ?_)
  · refine ⟨(h.ba j p hp).fr hf (fun x hx q => ?_), fun p' hp' => by rw [hp] at hp'; injection hp' with hp'; rw [hp'], fun x hx => h.bl j p x hp hx⟩
    have k1 := (h.bl j p x hp hx).2
    have k2 := (h.dl i _ x hi (.inr q)).2
    omega
  · by_cases hji : j = i
    · subst hji
      rw [hi] at hp
      injection hp with hp
      subst hp
      exact ⟨hB, fun p' hp' => by rw [hi] at hp'; injection hp' with hp'; rw [← hp'], fun x hx => h.dl j _ x hi hx⟩
    · refine ⟨(h.da j p hp).fr hf (fun x hx q => ?_), fun p' hp' => by rw [hp] at hp'; injection hp' with hp'; rw [hp'], fun x hx => h.dl j p x hp hx⟩
      have k1 := (h.dl j p x hp hx).2
      have k2 := (h.dl i _ x hi (.inr q)).2
      omega
end
/-- What holds while the texts are told. -/
structure RunJ (w : World) (yb : Nat) (A : Option Addr) (c : Nat) (A' : Option Addr) (c' : Nat) (lab : Nat → Nat) (bs : List (Nat × Gh)) (ds : List (Nat × BG)) (tv : Value) (n : Nat) (ts : List Td) (wr : World) (v : Value) (l : List (List UInt8)) (v' : Value) (l' : List (List UInt8)) : Prop where
  yc : YardC wr w.heap.size yb A c A' c' lab bs ds
  told : Own 35 4 wr w.heap.size tv n (tds ts)
  have' : Own 9 1 wr w.heap.size v l.length (strs l)
  built : Own 9 1 wr w.heap.size v' l'.length (strs l')
  fr : Fr (fun _ => False) w wr
  apart : ∀ x, v.ownBlock = some x → v'.ownBlock ≠ some x

/-- How far the calls of a script have come. -/
structure RunI (w : World) (yb : Nat) (y0 : Yd) (cs : List Cl) (k : Nat) (wr : World) (tv : Value) (bs : List (Nat × Gh)) (ds : List (Nat × BG)) : Prop where
  yard : YardAt wr w.heap.size yb bs ds
  rel : Rel bs ds (runF y0 (cs.take k)).2
  own : Own 35 4 wr w.heap.size tv k (tds (runF y0 (cs.take k)).1)
  fr : Fr (fun _ => False) w wr

def RunPost (w : World) (y0 : Yd) (cs : List Cl) (e : Ending) (w' : World) : Prop :=
  ∃ v1 v2 v3, e = .returned (.tuple #[v1, v2, v3]) ∧ Own 35 4 w' w.heap.size v1 cs.length (tds (runF y0 cs).1) ∧ Own 9 1 w' w.heap.size v2 y0.bufs.length (strs (runF y0 cs).2.texts) ∧
    Own 9 1 w' w.heap.size v3 y0.blds.length (strs (runF y0 cs).2.blds) ∧ Fr (fun _ => False) w w'

set_option maxHeartbeats 3200000 in
set_option maxRecDepth 100000 in
theorem run_any (starts : List St) (nb : Nat) (A : Option Addr) (c : Nat) (cs : List Cl) (A' : Option Addr) (c' : Nat) (ea eu : Addr) (w : World) (hR : Reads St.cells 3 w A starts) (hst : ∀ s ∈ starts, s.text.length ≤ 1099511627776 ∧ s.space ≤ 65535) (hn : starts.length ≤ 4294967296) (hnb : nb ≤ 255)
    (hC : Reads Cl.cells 9 w A' cs) (hS : Script w (Yd.begin starts nb) cs) (hM : Mild (Yd.begin starts nb) cs) (hyk : (Yd.begin starts nb).ok) (hcl : cs.length ≤ 4294967296) (hsz : (Yd.begin starts nb).tot + wsum cs + 66000 ≤ 1099511627776) (hG : Gl w.heap.size ea eu w) :
    Calls Tryd.prog 5 #[.slice A starts.length c, .int .u8 (nb : Int), .slice A' cs.length c'] w (RunPost w (Yd.begin starts nb) cs) := by
  have hbl : (Yd.begin starts nb).bufs.length = starts.length := by simp [Yd.begin]
  have hdl : (Yd.begin starts nb).blds.length = nb := by simp [Yd.begin]
  obtain ⟨y0, hy0⟩ : ∃ y0, y0 = Yd.begin starts nb := ⟨_, rfl⟩
  rw [← hy0] at hS hM hyk hsz hbl hdl ⊢
  have HY0 := Lib.hid hy0
  have HR := Lib.hid hR
  have HST := Lib.hid hst
  have HC := Lib.hid hC
  have HSC := Lib.hid hS
  have HM := Lib.hid hM
  have HYK := Lib.hid hyk
  have HG := Lib.hid hG
  clear hR hst hC hS hM hyk hG hy0
  go_enter Tryd.func5, Tryd.ntmps5
  go_wp2_with fail
  refine (opened_any starts nb A c _ HR.out HST.out hn hnb).mono ?_
  rintro e w1 ⟨yb, bs0, ds0, rfl, hY, hrel, hF1⟩
  rw [← HY0.out] at hrel
  have HY := Lib.hid hY
  have HREL := Lib.hid hrel
  have HF1 := Lib.hid hF1
  clear hY hrel hF1
  go_wp2_with fail
  go_loopw [10, 26] (fun tv i wr => ∃ (k : Nat) (bs : List (Nat × Gh)) (ds : List (Nat × BG)), k ≤ cs.length ∧ i = .int .i64 (k : Int) ∧ RunI w yb y0 cs k wr tv bs ds) (fun _ i _ => cs.length - (intOf i).toNat)
  case atStart =>
    exact ⟨0, bs0, ds0, Nat.zero_le _, rfl, HY.out.fr0 ((Fr.refl _ w1).alloc _), HREL.out, Own.empty _ _ w1 HF1.out.size, HF1.out.alloc _⟩
  case round =>
    obtain ⟨k, bs, ds, hk, rfl, hI⟩ := hrel
    by_cases hlt : k < cs.length
    · obtain ⟨r, o, rfl, hc⟩ := HC.out.at' k cs[k] (List.getElem?_eq_getElem hlt)
      have hmem : cs[k] ∈ cs := List.getElem_mem _
      have hok := HSC.out.ok _ hmem
      have hpl := HSC.out.plays _ hmem
      have hth := HSC.out.there _ hmem
      obtain ⟨hset, hns, hsucc⟩ := runF_succ HM.out hlt
      have hkept := runF_kept HM.out HYK.out k (by omega)
      generalize hcc : cs[k] = cc at *
      have hto := hkept.tot
      have hwt := wsum_take cs (k + 1)
      rw [List.take_succ_eq_append_getElem hlt, wsum_append, wsum_cons, hcc] at hwt
      have hmsz : (runF y0 (cs.take k)).2.tot + cc.text.length + 66000 ≤ 1099511627776 := by omega
      have hth' := Cl.there_of (c := cc) (y := y0) hth hkept.bl hkept.dl
      have hbw := hI.yard.bw
      have hGr : Gl w.heap.size ea eu wr := HG.out.fr (Nat.le_refl _) hI.fr (fun _ _ q => q)
      have hokr := hok.fr hI.fr
      have hIr := hI.rel
      have hIo := hI.own
      have hIy := hI.yard
      have hIf := hI.fr
      generalize hyy : (runF y0 (cs.take k)).2 = yy at *
      generalize htt : (runF y0 (cs.take k)).1 = tt at *
      have hq : ∀ j u, (Cl.cells cc)[j]? = some u → wr.cell? ⟨r, o + k * 9 + j, none⟩ = some u := fun j u hu => (hIf.cell (World.block_lt_of_cell? _ _ (hc j u hu)) (fun q => q)).trans (hc j u hu)
      have hcall : ∀ w', Fr (fun _ => False) wr w' → Calls Tryd.prog 10 #[.pointer (some ⟨yb, 0, none⟩), cc.val] w' (CallPost w' w.heap.size yb ds yy cc) := fun w' hf =>
        call_any w' w.heap.size yb bs ds yy cc ea eu (hIy.fr0 hf) hIr (hokr.fr hf) hmsz (hGr.fr0 hbw hf) hpl hth' hset hns
      unfold CallPost at hcall
      generalize hres : yy.do cc = res at *
      obtain ⟨y', ⟨tn, ttx, tc, tsd⟩, ob⟩ := res
      simp only at hns hset hcall hsucc
      obtain ⟨op, ca, cb, csize, cn, csign, cchar, ctext, ccuts, cad, ccap⟩ := cc
      have c0 := hq 0 _ rfl
      have c1 := hq 1 _ rfl
      have c2 := hq 2 _ rfl
      have c3 := hq 3 _ rfl
      have c4 := hq 4 _ rfl
      have c5 := hq 5 _ rfl
      have c6 := hq 6 _ rfl
      have c7 := hq 7 _ rfl
      have c8 := hq 8 _ rfl
      simp only [Nat.add_zero] at c0
      have hki : (k : Int) < (cs.length : Int) := by omega
      have hk0 : (0 : Int) ≤ (k : Int) := by omega
      have h3 : (tsd == 3) = false := by simpa using hns
      have HCALL := Lib.hid hcall
      have HSU := Lib.hid hsucc
      have HO := Lib.hid hIo
      have HI := Lib.hid hI
      have HF := Lib.hid hIf
      have HYY := Lib.hid hyy
      have HTT := Lib.hid htt
      simp only [Cl.val, Cl.cells] at hcall
      clear hc hmem hok hpl hth hset hns hsucc hkept hcc hto hwt hmsz hth' hGr hokr hIr hIo hIy hIf hyy htt hq hres hI hcall
      go_wp2_with fail
      refine (HCALL.out _ ((Fr.refl _ wr).alloc _)).mono ?_
      rintro e w2 ⟨bs', ds', rfl, S, hrel', hcap⟩
      have hO1 := HO.out.fr ((Fr.refl (fun _ => False) wr).alloc (.cells #[.int .i64 op, .int .i64 ca, .int .i64 cb, .int .u16 (csize : Int), .int .i64 cn, .int .u8 (csign.toNat : Int), .int .i32 cchar, .string ⟨ctext.toArray⟩, .slice cad ccuts.length ccap] 26)) (fun _ _ q => q)
      have hO2 := hO1.fr S.fr (fun x hx => ydS.not_own hO1 (by decide) (by decide) (by decide) hx)
      have hF2 : Fr (fun _ => False) w w2 := (HF.out.alloc _).trans' S.fr (fun x hx q => by have := q.1; omega)
      have HO2 := Lib.hid hO2
      have HF2 := Lib.hid hF2
      have HS := Lib.hid S.at'
      have HR2 := Lib.hid hrel'
      clear hO1 hO2 hF2 S hrel' hcap
      simp only [Td.val, Td.cells]
      obtain ⟨A5, cap5, rfl⟩ := HO2.out.value
      go_wp2_with (refine wpList_app rfl elem_told (.tmp 33) (.tmp 35) rfl w.heap.size _ k _ (by rfl) (HO2.out.fr (((Fr.refl (fun _ => False) w2).alloc (.cells #[.int .i64 tn, .string ⟨ttx.toArray⟩, .int .i32 tc, .int .i64 tsd] 35)).alloc (.cells #[.int .i64 tn, .string ⟨ttx.toArray⟩, .int .i32 tc, .int .i64 tsd] 35)) (fun _ _ q => q)) (w2.heap.size + 1) (Td.cells ⟨tn, ttx, tc, tsd⟩) 35 (by rfl) (by have h0 := heap_alloc_new (w2.alloc (.cells #[.int .i64 tn, .string ⟨ttx.toArray⟩, .int .i32 tc, .int .i64 tsd] 35)) (.cells #[.int .i64 tn, .string ⟨ttx.toArray⟩, .int .i32 tc, .int .i64 tsd] 35); simpa [Td.cells] using h0) rfl (by simp [Td.cells, Value.oneCell']) (by omega) (by have := HF2.out.size; simp; omega) ?_)
      intro gb cap w4 hown hfr hat hlt1
      have hblk : ∀ x, (Value.slice A5 k cap5).ownBlock = some x → x < w2.heap.size := fun x hx => HO2.out.blk_lt hx
      have hfr3 : Fr (fun x => (Value.slice A5 k cap5).ownBlock = some x) w2 w4 := ((((Fr.refl _ w2).alloc _).alloc _)).trans hfr
      have g3 : w4.cell? ⟨w2.heap.size, 3, none⟩ = some (.int .i64 tsd) := (hfr.cell (by simp; omega) (fun q => by have := hblk _ q; simp at this)).trans (by simp)
      have hN : RunI w yb y0 cs (k + 1) w4 (.slice (some ⟨gb, 0, none⟩) (k + 1) cap) bs' ds' := by
        refine ⟨HS.out.fr hfr3 (fun x hx q => .inr ⟨35, HO2.out.typed q, by decide, by decide, by decide, by decide, by decide, by decide⟩) (fun x hx q => ?_), ?_, ?_, ?_⟩
        · rcases hx with hx | hx
          · exact hx.ne (by decide) (HO2.out.typed q)
          · exact hx.ne (by decide) (HO2.out.typed q)
        · rw [HSU.out]
          exact HR2.out
        · rw [HSU.out]
          simp only [tds_append]
          exact hown
        · exact HF2.out.trans' hfr3 (fun x hx q => by have := HO2.out.blk_ge q; omega)
      have HN := Lib.hid hN
      clear hown hfr hat hlt1 hfr3 hN hblk
      go_wp2_with fail
      go_roundw
      case rel => exact ⟨k + 1, bs', ds', by omega, by go_num, HN.out⟩
      case measure => simp [intOf]; omega
    · obtain rfl : k = cs.length := by omega
      obtain ⟨Ab, cpb, Ad, cpd, lab, hYC⟩ := hI.yard
      have hrl := hI.rel
      rw [List.take_length] at hrl
      have hJ0 : RunJ w yb Ab cpb Ad cpd lab bs ds u10 cs.length (runF y0 cs).1 wr (.slice none 0 0) [] (.slice none 0 0) [] := ⟨hYC, by have := hI.own; rw [List.take_length] at this; exact this, Own.nil _ _ _ _, Own.nil _ _ _ _, hI.fr, fun x q => by cases q⟩
      have yc0 : wr.cell? ⟨yb, 0, none⟩ = some (.slice Ab bs.length cpb) := by rw [cell_of_row wr yb 0 _ _ _ hYC.st]; rfl
      have hkept := runF_kept HM.out HYK.out cs.length (Nat.le_refl _)
      rw [List.take_length] at hkept
      have hbs : bs.length ≤ 4294967296 := by rw [hrl.bl, hkept.bl, hbl]; exact hn
      have hds : ds.length ≤ 255 := by rw [hrl.dl, hkept.dl, hdl]; exact hnb
      have HJ0 := Lib.hid hJ0
      have HRL := Lib.hid hrl
      have HKP := Lib.hid hkept
      clear hI hlt hYC hrl hJ0 hkept
      go_wp2_with fail
      go_loopw [14, 46] (fun v i wr2 => ∃ j : Nat, j ≤ bs.length ∧ i = .int .i64 (j : Int) ∧ RunJ w yb Ab cpb Ad cpd lab bs ds u10 cs.length (runF y0 cs).1 wr2 v ((runF y0 cs).2.texts.take j) (.slice none 0 0) []) (fun _ i _ => bs.length - (intOf i).toNat)
      case atStart => exact ⟨0, Nat.zero_le _, rfl, HJ0.out⟩
      case round =>
        obtain ⟨j, hj, rfl, hJ⟩ := hrel
        by_cases hjl : j < bs.length
        · obtain ⟨⟨b, g⟩, hbg⟩ : ∃ p, bs[j]? = some p := ⟨_, List.getElem?_eq_getElem hjl⟩
          obtain ⟨rb, rfl, hT, hcell⟩ := hJ.yc.bp j _ hbg
          have hBA := hJ.yc.ba j _ hbg
          obtain ⟨sb, hsb⟩ : ∃ s, (runF y0 cs).2.bufs[j]? = some s := ⟨_, List.getElem?_eq_getElem (by rw [← HRL.out.bl]; exact hjl)⟩
          have htx : g.txt = sb.text := (HRL.out.b j _ _ hbg hsb).txt
          have htk : (runF y0 cs).2.texts.take (j + 1) = (runF y0 cs).2.texts.take j ++ [sb.text] := by
            have hl : j < (runF y0 cs).2.texts.length := by simp [Yd.texts, ← HRL.out.bl, hjl]
            rw [List.take_succ_eq_append_getElem hl]
            congr 2
            have := Yd.texts_get hsb
            rw [List.getElem?_eq_getElem hl] at this
            injection this
          have hlen : ((runF y0 cs).2.texts.take j).length = j := by simp [Yd.texts, ← HRL.out.bl]; omega
          have hji : (j : Int) < (bs.length : Int) := by omega
          have hj0 : (0 : Int) ≤ (j : Int) := by omega
          generalize (runF y0 cs).2.texts.take j = ls at *
          subst hlen
          obtain ⟨A5, cap5, rfl⟩ := hJ.have'.value
          have HB := Lib.hid hBA
          have HJ := Lib.hid hJ
          have HTK := Lib.hid htk
          have HTX := Lib.hid htx
          simp only at hcell
          clear hBA hJ htk htx hT hbg hsb
          go_wp2_with fail
          refine (buf_string _ b g HB.out).mono ?_
          rintro e w2 ⟨rfl, hw2⟩
          have hF2 : Fr (fun _ => False) wr w2 := by rw [hw2]; exact (Fr.refl _ wr).drew
          have HF2 := Lib.hid hF2
          clear hw2 hF2
          rw [HTX.out]
          go_wp2_with (refine wpList_app rfl elem_string (.tmp 50) (.tmp 53) rfl w.heap.size _ ls.length _ (by rfl) (HJ.out.have'.fr (HF2.out.alloc (.cells #[.string ⟨sb.text.toArray⟩] 9)) (fun _ _ q => q)) w2.heap.size [strV sb.text] 9 (by rfl) (by exact heap_alloc_new w2 _) rfl (by simp [strV, Value.oneCell']) (by omega) (by have := (HJ.out.fr.trans HF2.out).size; simp; omega) ?_)
          intro gb cap w4 hown hfr hat hlt1
          have hfr3 := (HF2.out.alloc (.cells #[.string ⟨sb.text.toArray⟩] 9)).mono (S' := fun x => (Value.slice A5 ls.length cap5).ownBlock = some x) (fun _ _ q => q.elim) |>.trans hfr
          have hty := fun x q => HJ.out.have'.typed (x := x) q
          have hN : RunJ w yb (some ⟨rb, 0, none⟩) cpb Ad cpd lab bs ds u10 cs.length (runF y0 cs).1 w4 (.slice (some ⟨gb, 0, none⟩) (ls.length + 1) cap) ((runF y0 cs).2.texts.take (ls.length + 1)) (.slice none 0 0) [] := by
            refine ⟨HJ.out.yc.fr hfr3 9 hty (by decide) (by decide) (by decide) (by decide) (by decide) (by decide), HJ.out.told.fr hfr3 (fun x hx q => (hty x q).ne (by decide) (HJ.out.told.typed hx)), ?_, Own.nil _ _ _ _, HJ.out.fr.trans' hfr3 (fun x hx q => by have := HJ.out.have'.blk_ge q; omega), fun x _ q => by cases q⟩
            rw [HTK.out]
            simp only [List.length_append, List.length_singleton, strs_append]
            exact hown
          have HN := Lib.hid hN
          clear hown hfr hat hlt1 hfr3 hN hty
          go_wp2_with fail
          go_roundw
          case rel => exact ⟨ls.length + 1, by omega, by go_num, HN.out⟩
          case measure => simp [intOf]; omega
        · obtain rfl : j = bs.length := by omega
          have htl : (runF y0 cs).2.texts.take bs.length = (runF y0 cs).2.texts := List.take_of_length_le (by simp [Yd.texts, ← HRL.out.bl])
          rw [htl] at hJ
          have yc1 : wr.cell? ⟨yb, 1, none⟩ = some (.slice Ad ds.length cpd) := by rw [cell_of_row wr yb 1 _ _ _ hJ.yc.st]; rfl
          have HJ1 := Lib.hid hJ
          clear hJ hjl htl
          go_wp2_with fail
          go_loopw [15, 61] (fun v i wr2 => ∃ j : Nat, j ≤ ds.length ∧ i = .int .i64 (j : Int) ∧ RunJ w yb Ab cpb Ad cpd lab bs ds u10 cs.length (runF y0 cs).1 wr2 u14 (runF y0 cs).2.texts v ((runF y0 cs).2.blds.take j)) (fun _ i _ => ds.length - (intOf i).toNat)
          case atStart => exact ⟨0, Nat.zero_le _, rfl, HJ1.out⟩
          case round =>
            obtain ⟨j, hj, rfl, hJ⟩ := hrel
            by_cases hjl : j < ds.length
            · obtain ⟨⟨d, g⟩, hdg⟩ : ∃ p, ds[j]? = some p := ⟨_, List.getElem?_eq_getElem hjl⟩
              obtain ⟨rb, rfl, hT, hcell⟩ := hJ.yc.dp j _ hdg
              have hBA := hJ.yc.da j _ hdg
              obtain ⟨sb, hsb⟩ : ∃ s, (runF y0 cs).2.blds[j]? = some s := ⟨_, List.getElem?_eq_getElem (by rw [← HRL.out.dl]; exact hjl)⟩
              have htx : g.txt = sb := HRL.out.d j _ _ hdg hsb
              have htk : (runF y0 cs).2.blds.take (j + 1) = (runF y0 cs).2.blds.take j ++ [sb] := by
                have hl : j < (runF y0 cs).2.blds.length := by rw [← HRL.out.dl]; exact hjl
                rw [List.take_succ_eq_append_getElem hl]
                congr 2
                rw [List.getElem?_eq_getElem hl] at hsb
                injection hsb
              have hlen : ((runF y0 cs).2.blds.take j).length = j := by rw [List.length_take, ← HRL.out.dl]; omega
              have hji : (j : Int) < (ds.length : Int) := by omega
              have hj0 : (0 : Int) ≤ (j : Int) := by omega
              generalize (runF y0 cs).2.blds.take j = ls at *
              subst hlen
              obtain ⟨A5, cap5, rfl⟩ := hJ.built.value
              have HB := Lib.hid hBA
              have HJ := Lib.hid hJ
              have HTK := Lib.hid htk
              have HTX := Lib.hid htx
              have HDG := Lib.hid hdg
              simp only at hcell
              clear hBA hJ htk htx hT hdg hsb
              go_wp2_with fail
              refine (bld_string _ d g HB.out).mono ?_
              rintro e w2 ⟨rfl, hB2, hF2⟩
              have hu8 : ∀ x, g.row = some x → Typed wr x 5 := fun x hx => by
                obtain ⟨rest, fz, h1, _⟩ := HB.out.row x hx
                exact ⟨_, _, h1⟩
              have hJ2 : RunJ w yb Ab cpb (some ⟨rb, 0, none⟩) cpd lab bs ds u10 cs.length (runF y0 cs).1 w2 u14 (runF y0 cs).2.texts (.slice A5 ls.length cap5) ls :=
                ⟨HJ.out.yc.frz HDG.out hB2 hF2, HJ.out.told.fr hF2 (fun x hx q => (hu8 x q).ne (by decide) (HJ.out.told.typed hx)), HJ.out.have'.fr hF2 (fun x hx q => (hu8 x q).ne (by decide) (HJ.out.have'.typed hx)), HJ.out.built.fr hF2 (fun x hx q => (hu8 x q).ne (by decide) (HJ.out.built.typed hx)), HJ.out.fr.trans' hF2 (fun x hx q => by have := (HJ.out.yc.dl _ _ x HDG.out (.inr q)).1; omega), HJ.out.apart⟩
              have HJ2 := Lib.hid hJ2
              clear hB2 hF2 hu8 hJ2
              rw [HTX.out]
              go_wp2_with (refine wpList_app rfl elem_string (.tmp 65) (.tmp 68) rfl w.heap.size _ ls.length _ (by rfl) (HJ2.out.built.fr ((Fr.refl (fun _ => False) w2).alloc (.cells #[.string ⟨sb.toArray⟩] 9)) (fun _ _ q => q)) w2.heap.size [strV sb] 9 (by rfl) (by exact heap_alloc_new w2 _) rfl (by simp [strV, Value.oneCell']) (by omega) (by have := HJ2.out.fr.size; simp; omega) ?_)
              intro gb cap w4 hown hfr hat hlt1
              have hfr3 := ((Fr.refl (fun _ => False) w2).alloc (.cells #[.string ⟨sb.toArray⟩] 9)).mono (S' := fun x => (Value.slice A5 ls.length cap5).ownBlock = some x) (fun _ _ q => q.elim) |>.trans hfr
              have hty := fun x q => HJ2.out.built.typed (x := x) q
              have hat : (Value.slice A5 ls.length cap5).ownBlock = some gb ∨ w2.heap.size ≤ gb := hat.imp id (fun q => Nat.le_trans (by simp) q)
              have hN : RunJ w yb Ab cpb (some ⟨rb, 0, none⟩) cpd lab bs ds u10 cs.length (runF y0 cs).1 w4 u14 (runF y0 cs).2.texts (.slice (some ⟨gb, 0, none⟩) (ls.length + 1) cap) ((runF y0 cs).2.blds.take (ls.length + 1)) := by
                refine ⟨HJ2.out.yc.fr hfr3 9 hty (by decide) (by decide) (by decide) (by decide) (by decide) (by decide), HJ2.out.told.fr hfr3 (fun x hx q => (hty x q).ne (by decide) (HJ2.out.told.typed hx)), HJ2.out.have'.fr hfr3 (fun x hx q => HJ2.out.apart x hx q), ?_, HJ2.out.fr.trans' hfr3 (fun x hx q => by have := HJ2.out.built.blk_ge q; omega), fun x hx q => ?_⟩
                · rw [HTK.out]
                  simp only [List.length_append, List.length_singleton, strs_append]
                  exact hown
                · have e : gb = x := by injection q
                  have hlt := HJ2.out.have'.blk_lt hx
                  rcases hat with hat | hat
                  · exact HJ2.out.apart _ hx (by rw [← e]; exact hat)
                  · omega
              have HN := Lib.hid hN
              clear hown hfr hat hlt1 hfr3 hN hty
              go_wp2_with fail
              go_roundw
              case rel => exact ⟨ls.length + 1, by omega, by go_num, HN.out⟩
              case measure => simp [intOf]; omega
            · obtain rfl : j = ds.length := by omega
              have htl : (runF y0 cs).2.blds.take ds.length = (runF y0 cs).2.blds := List.take_of_length_le (by rw [← HRL.out.dl]; omega)
              rw [htl] at hJ
              have HJ2 := Lib.hid hJ
              clear hJ hjl htl
              go_wp2_with fail
              refine bodyPost_ret (v := .tuple #[u10, u14, u15]) (by simp [results, Tryd.results5, go_sem]) rfl ⟨u10, u14, u15, rfl, HJ2.out.told, ?_, ?_, HJ2.out.fr⟩
              · have h1 := HJ2.out.have'
                have h2 : (runF y0 cs).2.texts.length = y0.bufs.length := by simp [Yd.texts, HKP.out.bl]
                rw [h2] at h1
                exact h1
              · have h1 := HJ2.out.built
                rw [HKP.out.dl] at h1
                exact h1
end Go.Proofs.YtimigjjokdnfbaaDoor
