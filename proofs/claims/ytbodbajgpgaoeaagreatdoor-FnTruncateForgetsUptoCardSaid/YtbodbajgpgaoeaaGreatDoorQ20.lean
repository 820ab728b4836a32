/- SpecI, SpecK, OrdP, ErlP, SpecL, SpecM, SpecQ, SpecS, SpecU. -/
import Derived.Test.YtbodbajgpgaoeaaGreatDoorQ19
import Derived.Test.YtbodbajgpgaoeaaGreatDoorQ17
namespace Go.Proofs.YtbodbajgpgaoeaaGreatDoor
open Go Go.RowKit

/-- The calls of the first buffer that the laws play. -/
def Cl.first (c : Cl) : Prop := c.a = 0 ∧ (c.op < 23 ∨ c.op = 26 ∨ (c.op = 27 ∧ c.n = 0))
theorem Cl.first.one {c : Cl} (h : c.first) : c.one := ⟨h.1, by have := h.2; omega⟩
theorem sp_Do (b : SB) (c : Cl) (A1 : Option Addr) (c1 : Nat) (A2 : Option Addr) (c2 : Nat) (w : World) (hY : YV w A1 1 c1 A2 0 c2 (yd1 b)) (hc : c.first) (hg : b.good) (hl : b.text.length + c.text.length + 8 ≤ 1099511627776) (hs : c.size ≤ 65535) :
    Calls Tryz.prog 30 #[.agg #[.slice A1 1 c1, .slice A2 0 c2], c.val] w (YPost w A1 A2 ((yd1 b).do c)) := by
  obtain ⟨ha, hop⟩ := hc
  by_cases h1 : c.op < 1
  · rw [yd1_do0 b c h1]
    obtain ⟨op, a, bb, size, n, sign, char, ctext, cuts, ad, cap⟩ := c
    simp only at ha h1
    subst ha
    exact spg_none A1 c1 A2 c2 op bb size n sign char ctext cuts ad cap w (yd1 b) h1 hY
  by_cases h2 : c.op < 23
  · rw [yd1_do b c ha (by omega) h2]
    have hd := fun wx => sp_do b c wx (by omega) h2 hg hl hs
    generalize b.do c = r at *
    obtain ⟨R, T, O⟩ := r
    obtain ⟨op, a, bb, size, n, sign, char, ctext, cuts, ad, cap⟩ := c
    obtain ⟨text, recent, last, begun⟩ := b
    simp only at ha h1 h2
    subst ha
    exact spg_buf A1 c1 A2 c2 op bb size n sign char ctext cuts ad cap w text recent last begun (by omega) (by omega) (by omega) (by omega) hY R T O hd
  by_cases h26 : c.op = 26
  · rw [yd1_drain b c ha h26]
    obtain ⟨op, a, bb, size, n, sign, char, ctext, cuts, ad, cap⟩ := c
    obtain ⟨text, recent, last, begun⟩ := b
    simp only at ha h26 hs hl
    subst ha h26
    simp only
    split
    · rename_i hq
      exact spg_flow A1 c1 A2 c2 26 bb size n sign char ctext cuts ad cap w text recent last begun (by omega) (by omega) (by omega) (by omega) hY _ _ _ (fun g d1 B2 d2 wx x0 x1 x2 x3 xz => spf_26x d1 B2 d2 bb size n sign char ctext cuts ad cap g text recent last begun wx x0 x1 x2 x3 xz hs hq)
    · rename_i hq
      exact spg_flow A1 c1 A2 c2 26 bb size n sign char ctext cuts ad cap w text recent last begun (by omega) (by omega) (by omega) (by omega) hY _ _ _ (fun g d1 B2 d2 wx x0 x1 x2 x3 xz => spf_26 d1 B2 d2 bb size n sign char ctext cuts ad cap g text recent last begun wx x0 x1 x2 x3 xz hs hq)
  · have h27 : c.op = 27 ∧ c.n = 0 := by omega
    rw [yd1_fill b c ha h27.1]
    obtain ⟨op, a, bb, size, n, sign, char, ctext, cuts, ad, cap⟩ := c
    obtain ⟨text, recent, last, begun⟩ := b
    simp only at ha h27 hs hl
    obtain ⟨h27, hn⟩ := h27
    subst ha h27 hn
    simp only
    exact spg_flow A1 c1 A2 c2 27 bb size 0 sign char ctext cuts ad cap w text recent last begun (by omega) (by omega) (by omega) (by omega) hY _ _ _ (fun g d1 B2 d2 wx x0 x1 x2 x3 xz => spf_27 d1 B2 d2 bb size sign char ctext cuts ad cap g text recent last begun wx x0 x1 x2 x3 xz (by omega))
/-- A yard of one builder. -/
def yb1 (s : List UInt8) : Yd := ⟨[], [s]⟩
end Go.Proofs.YtbodbajgpgaoeaaGreatDoor

namespace Go.Proofs.YtbodbajgpgaoeaaGreatDoor
open Go Go.RowKit

theorem Reads.blk_lt {α : Type} {cells : α → List Value} {size : Nat} {w : World} {A : Option Addr} {xs : List α} (h : Reads cells size w A xs) (hn : xs ≠ []) (hc : ∀ x, ∃ v, (cells x)[0]? = some v) (r o : Nat) (s : Option Nat) (hA : A = some ⟨r, o, s⟩) : r < w.heap.size := by
  cases xs with
  | nil => exact absurd rfl hn
  | cons x xs =>
    obtain ⟨r', o', e, k⟩ := h.at' 0 x rfl
    obtain ⟨v, hv⟩ := hc x
    rw [hA] at e
    injection e with e
    injection e with e1 e2 e3
    subst e1
    exact World.block_lt_of_cell? _ _ (k 0 v hv)
theorem YV.fr' {S : Nat → Prop} {w w' : World} {A1 : Option Addr} {n1 c1 : Nat} {A2 : Option Addr} {n2 c2 : Nat} {y : Yd} (h : YV w A1 n1 c1 A2 n2 c2 y) (hf : Fr S w w') (h1 : y.bufs ≠ [] → ∀ r o s, A1 = some ⟨r, o, s⟩ → ¬ S r) (h2 : y.blds ≠ [] → ∀ r o s, A2 = some ⟨r, o, s⟩ → ¬ S r) : YV w' A1 n1 c1 A2 n2 c2 y := by
  refine ⟨h.l1, h.l2, ?_, ?_, h.z1, h.z2⟩
  · by_cases hb : y.bufs = []
    · rw [hb]
      exact Reads.nil _ _ _ _
    · exact h.r1.fr hf (fun r o q => h1 hb r o none q)
  · by_cases hb : y.blds = []
    · rw [hb]
      exact Reads.nil _ _ _ _
    · exact h.r2.fr hf (fun r o q => h2 hb r o none q)
theorem YV.lt1 {w : World} {A1 : Option Addr} {n1 c1 : Nat} {A2 : Option Addr} {n2 c2 : Nat} {y : Yd} (h : YV w A1 n1 c1 A2 n2 c2 y) (hb : y.bufs ≠ []) (r o : Nat) (s : Option Nat) (hA : A1 = some ⟨r, o, s⟩) : r < w.heap.size := h.r1.blk_lt hb (fun _ => ⟨_, rfl⟩) r o s hA
theorem YV.lt2 {w : World} {A1 : Option Addr} {n1 c1 : Nat} {A2 : Option Addr} {n2 c2 : Nat} {y : Yd} (h : YV w A1 n1 c1 A2 n2 c2 y) (hb : y.blds ≠ []) (r o : Nat) (s : Option Nat) (hA : A2 = some ⟨r, o, s⟩) : r < w.heap.size := h.r2.blk_lt hb (fun _ => ⟨_, rfl⟩) r o s hA
theorem sbs_nil {l : List SB} (h : sbs l = []) : l = [] := by
  cases l with
  | nil => rfl
  | cons x l => simp [sbs, SB.cells] at h
theorem strs_nil {l : List (List UInt8)} (h : strs l = []) : l = [] := by
  cases l with
  | nil => rfl
  | cons x l => simp [strs] at h
/-- What Begin returns, as a yard. -/
theorem YV.of_copy {w : World} {base : Nat} {A1 : Option Addr} {c1 : Nat} {A2 : Option Addr} {c2 : Nat} {y : Yd} (o1 : Own 81 4 w base (.slice A1 y.bufs.length c1) y.bufs.length (sbs y.bufs)) (o2 : Own 9 1 w base (.slice A2 y.blds.length c2) y.blds.length (strs y.blds)) : YV w A1 y.bufs.length c1 A2 y.blds.length c2 y :=
  ⟨rfl, rfl, Own.readsAt SB.cells_len (by decide) o1, Own.readsStrs o2, fun q => ⟨sbs_nil (Own.zero o1 q).1, (Own.zero o1 q).2⟩, fun q => ⟨strs_nil (Own.zero o2 q).1, (Own.zero o2 q).2⟩⟩
/-- How far Calm has come. -/
structure CmI (w wr : World) (H : Nat) (cs full : List Cl) (Inv : Yd → List Cl → Prop) (v8 : Value) (y : Yd) (A1 : Option Addr) (n1 c1 : Nat) (A2 : Option Addr) (n2 c2 : Nat) (out : List Cl) : Prop where
  eq : full = out ++ calmF y cs
  inv : Inv y cs
  yb : wr.heap[H]? = some (.cells #[.slice A1 n1 c1, .slice A2 n2 c2] 59 (0, 0))
  yv : YV wr A1 n1 c1 A2 n2 c2 y
  own : OwnC wr w.heap.size v8 out
  r1 : y.bufs ≠ [] → ∀ r o s, A1 = some ⟨r, o, s⟩ → r ≠ H ∧ v8.ownBlock ≠ some r
  r2 : y.blds ≠ [] → ∀ r o s, A2 = some ⟨r, o, s⟩ → r ≠ H ∧ v8.ownBlock ≠ some r
  hH : w.heap.size ≤ H
  fr : Fr (fun _ => False) w wr
def CalmPost (w : World) (l : List Cl) (e : Ending) (w' : World) : Prop := ∃ v, e = .returned v ∧ OwnC w' w.heap.size v l ∧ Fr (fun _ => False) w w'
/-- What Do does at each call of a script. -/
def StepOk (Inv : Yd → List Cl → Prop) : Prop := ∀ y c l, Inv y (c :: l) → Inv y l ∧ Inv (y.do c).1 l ∧ (y.bufs = [] → (y.do c).1.bufs = []) ∧ (y.blds = [] → (y.do c).1.blds = []) ∧
  ∀ A1 n1 c1 A2 n2 c2 wx, YV wx A1 n1 c1 A2 n2 c2 y → Calls Tryz.prog 30 #[.agg #[.slice A1 n1 c1, .slice A2 n2 c2], c.val] wx (YPost wx A1 A2 (y.do c))
set_option maxHeartbeats 3200000 in
set_option maxRecDepth 100000 in
theorem calm_any (Inv : Yd → List Cl → Prop) (hstep : StepOk Inv) (starts : List St) (nb : Nat) (A : Option Addr) (c : Nat) (cs : List Cl) (A' : Option Addr) (c' : Nat) (w : World) (hR : Reads St.cells 3 w A starts) (hn : starts.length ≤ 4294967296) (hnb : nb ≤ 255) (hC : Reads Cl.cells 9 w A' cs) (hcl : cs.length ≤ 4294967296) (hI : Inv (Yd.begin starts nb) cs) :
    Calls Tryz.prog 17 #[.slice A starts.length c, .int .u8 (nb : Int), .slice A' cs.length c'] w (CalmPost w (calmF (Yd.begin starts nb) cs)) := by
  have HSTEP := Lib.hid hstep
  have HR := Lib.hid hR
  have HC := Lib.hid hC
  have HI := Lib.hid hI
  clear hstep hR hC hI
  unfold CalmPost
  obtain ⟨full, hfull⟩ : ∃ full, full = calmF (Yd.begin starts nb) cs := ⟨_, rfl⟩
  rw [← hfull]
  have HFULL := Lib.hid hfull
  clear hfull
  go_enter Tryz.func17, Tryz.ntmps17
  go_wp2_with fail
  refine (sp_begin starts nb A c w HR.out hn hnb).mono ?_
  rintro e w1 ⟨v1, v2, rfl, o1, o2, F1⟩
  generalize hy0 : Yd.begin starts nb = y0 at *
  obtain ⟨A1, c1, rfl⟩ := o1.value
  obtain ⟨A2, c2, rfl⟩ := o2.value
  have HF1 := Lib.hid F1
  have HYV := Lib.hid (YV.of_copy o1 o2)
  have HFA := Lib.hid (fun r o s (q : A1 = some ⟨r, o, s⟩) => own_fresh o1 r o s q)
  have HFB := Lib.hid (fun r o s (q : A2 = some ⟨r, o, s⟩) => own_fresh o2 r o s q)
  have HY0 := Lib.hid hy0
  clear F1 o1 o2 hy0
  go_wp2_with fail
  obtain ⟨H, hH⟩ : ∃ H, H = w1.heap.size := ⟨_, rfl⟩
  have hb1 := heap_alloc_new w1 (.cells #[.slice A1 y0.bufs.length c1, .slice A2 y0.blds.length c2] 59)
  have hz1 := HF1.out.size
  have hcm : CmI w ((w1.alloc (.cells #[.slice A1 y0.bufs.length c1, .slice A2 y0.blds.length c2] 59)).alloc (.cells #[] 36)) H cs full Inv (.slice (some ⟨H + 1, 0, none⟩) 0 0) y0 A1 y0.bufs.length c1 A2 y0.blds.length c2 [] := by
    have hl1 := fun h r o s q => HYV.out.lt1 h r o s q
    have hl2 := fun h r o s q => HYV.out.lt2 h r o s q
    refine ⟨by rw [HFULL.out]; rfl, HI.out, ?_, HYV.out.fr (((Fr.refl (fun _ => False) w1).alloc _).alloc _), ?_, ?_, ?_, by omega, (HF1.out.alloc _).alloc _⟩
    · rw [hH]
      exact ((Fr.refl (fun _ => False) _).alloc _).blk hb1 (fun q => q)
    · have := Own.empty 36 9 (w1.alloc (.cells #[.slice A1 y0.bufs.length c1, .slice A2 y0.blds.length c2] 59)) (base := w.heap.size) (by rw [World.size_alloc]; omega)
      rw [World.size_alloc, ← hH] at this
      exact this
    · intro h r o s q
      have := hl1 h r o s q
      refine ⟨by omega, fun e => ?_⟩
      have e := own_at e
      omega
    · intro h r o s q
      have := hl2 h r o s q
      refine ⟨by omega, fun e => ?_⟩
      have e := own_at e
      omega
  have HCM := Lib.hid hcm
  have HHH := Lib.hid hH
  clear hcm hb1 hz1
  rw [← hH]
  clear hH
  go_loopw [8, 20] (fun v8 v20 wr => ∃ (k : Nat) (y : Yd) (A1 : Option Addr) (n1 c1 : Nat) (A2 : Option Addr) (n2 c2 : Nat) (out : List Cl), k ≤ cs.length ∧ v20 = .int .i64 (k : Int) ∧ out.length ≤ k ∧ CmI w wr H (cs.drop k) full Inv v8 y A1 n1 c1 A2 n2 c2 out) (fun _ v20 _ => cs.length - (intOf v20).toNat)
  case atStart => exact ⟨0, y0, _, _, _, _, _, _, [], Nat.zero_le _, rfl, Nat.zero_le _, HCM.out⟩
  case round =>
    obtain ⟨k, y, A1, n1, c1, A2, n2, c2, out, hk, rfl, hout, hM⟩ := hrel
    have HM := Lib.hid hM
    by_cases hlt : k < cs.length
    · obtain ⟨d, hd⟩ : ∃ d, cs[k]? = some d := ⟨_, List.getElem?_eq_getElem hlt⟩
      obtain ⟨r, o, e1, hc⟩ := HC.out.at' k d hd
      subst e1
      have hdrop : cs.drop k = d :: cs.drop (k + 1) := by
        obtain ⟨hl, e⟩ := List.getElem?_eq_some_iff.1 hd
        rw [List.drop_eq_getElem_cons hl, e]
      have hinv := hM.inv
      have heq := hM.eq
      rw [hdrop] at hinv heq
      obtain ⟨s1, s2, s3, s4, s5⟩ := HSTEP.out y d (cs.drop (k + 1)) hinv
      have hq : ∀ j u, (Cl.cells d)[j]? = some u → wr.cell? ⟨r, o + k * 9 + j, none⟩ = some u := fun j u hu => (hM.fr.cell (World.block_lt_of_cell? _ _ (hc j u hu)) (fun q => q)).trans (hc j u hu)
      have hyv := hM.yv
      have hyb := hM.yb
      obtain ⟨A8, q8, rfl⟩ := hM.own.value
      have hHl : H < wr.heap.size := lt_of_blk hyb
      have hcall : ∀ w', Fr (fun _ => False) wr w' → Calls Tryz.prog 30 #[.agg #[.slice A1 n1 c1, .slice A2 n2 c2], d.val] w' (YPost w' A1 A2 (y.do d)) := fun w' hf => s5 A1 n1 c1 A2 n2 c2 w' (hyv.fr hf)
      unfold YPost at hcall
      generalize hres : y.do d = res at *
      obtain ⟨y', ⟨tn, ttx, tc, tsd⟩, ob⟩ := res
      simp only at s2 s3 s4 hcall
      have hcalm : calmF y (d :: cs.drop (k + 1)) = if ob = true ∧ tsd ≠ 3 then d :: calmF y' (cs.drop (k + 1)) else calmF y (cs.drop (k + 1)) := by
        simp only [calmF, hres]
      rw [hcalm] at heq
      have y0c : wr.cell? ⟨H, 0, none⟩ = some (.slice A1 n1 c1) := by rw [cell_of_row wr _ 0 _ _ _ hyb]; rfl
      have y1c : wr.cell? ⟨H, 1, none⟩ = some (.slice A2 n2 c2) := by rw [cell_of_row wr _ 1 _ _ _ hyb]; rfl
      obtain ⟨op, ca, cb, csize, cn, csign, cchar, ctext, ccuts, cad, ccap⟩ := d
      have c0 := hq 0 _ rfl
      have c1' := hq 1 _ rfl
      have c2' := hq 2 _ rfl
      have c3' := hq 3 _ rfl
      have c4 := hq 4 _ rfl
      have c5 := hq 5 _ rfl
      have c6 := hq 6 _ rfl
      have c7 := hq 7 _ rfl
      have c8 := hq 8 _ rfl
      simp only [Nat.add_zero] at c0
      have hki : (k : Int) < (cs.length : Int) := by omega
      have hk0 : (0 : Int) ≤ (k : Int) := by omega
      have hm0 : ¬ (H = wr.heap.size) := by omega
      have hm1 : ¬ (wr.heap.size = H) := by omega
      simp only [Cl.val, Cl.cells, Td.val, Td.cells] at hcall
      have HCALL := Lib.hid hcall
      have HEQ := Lib.hid heq
      have HS1 := Lib.hid s1
      have HS2 := Lib.hid s2
      have HS3 := Lib.hid s3
      have HS4 := Lib.hid s4
      have HYB := Lib.hid hyb
      clear hcall heq s1 s2 s3 s4 s5 hinv hd hc hq hM hyv hyb hres hcalm hdrop
      go_wp2_with fail
      refine (HCALL.out _ ((Fr.refl _ wr).alloc _)).mono ?_
      rintro e w3 ⟨B1, m1, k1, B2, m2, k2, rfl, hyv', F3, hf1, hf2⟩
      have hFw := ((Fr.refl (fun _ => False) wr).alloc (.cells #[.int .i64 op, .int .i64 ca, .int .i64 cb, .int .u16 (csize : Int), .int .i64 cn, .int .u8 (csign.toNat : Int), .int .i32 cchar, .string ⟨ctext.toArray⟩, .slice cad ccuts.length ccap] 36)).trans F3
      have hb10 := F3.blk (heap_alloc_new wr (.cells #[.int .i64 op, .int .i64 ca, .int .i64 cb, .int .u16 (csize : Int), .int .i64 cn, .int .u8 (csign.toNat : Int), .int .i32 cchar, .string ⟨ctext.toArray⟩, .slice cad ccuts.length ccap] 36)) (fun q => q)
      have hsz3 := F3.size
      rw [World.size_alloc] at hsz3 hf1 hf2
      have HYV3 := Lib.hid hyv'
      have HFW := Lib.hid hFw
      have HB10 := Lib.hid hb10
      have HFA1 := Lib.hid hf1
      have HFA2 := Lib.hid hf2
      clear hyv' F3 hFw hb10 hf1 hf2 y0c y1c c0 c1' c2' c3' c4 c5 c6 c7 c8
      by_cases hq : ob = true ∧ tsd ≠ 3
      · obtain ⟨rfl, hts⟩ := hq
        have hne : (tsd != 3) = true := by simpa using hts
        have heq2 := HEQ.out
        rw [if_pos ⟨rfl, hts⟩] at heq2
        have HEQ2 := Lib.hid heq2
        clear heq2 hts
        go_wp2_with fail
        obtain ⟨w4, hw4⟩ : ∃ w4, w4 = (w3.alloc (.cells #[.slice B1 m1 k1, .slice B2 m2 k2] 59)).alloc (.cells #[.int .i64 tn, .string ⟨ttx.toArray⟩, .int .i32 tc, .int .i64 tsd] 39) := ⟨_, rfl⟩
        have F34 : Fr (fun _ => False) w3 w4 := by rw [hw4]; exact ((Fr.refl (fun _ => False) w3).alloc _).alloc _
        have hb11 : w4.heap[w3.heap.size]? = some (.cells #[.slice B1 m1 k1, .slice B2 m2 k2] 59 (0, 0)) := by rw [hw4]; exact ((Fr.refl (fun _ => False) _).alloc _).blk (heap_alloc_new w3 _) (fun q => q)
        have hb10 := F34.blk HB10.out (fun q => q)
        have F4 := HFW.out.trans F34
        have hybH := F4.blk HYB.out (fun q => q)
        have hown4 := HM.out.own.fr F4 (fun _ _ q => q)
        have hs34 : w4.heap.size = w3.heap.size + 1 + 1 := by rw [hw4]; simp only [World.size_alloc]
        have hz := HM.out.fr.size
        rw [← hw4]
        have d0 : w4.cell? ⟨wr.heap.size, 0, none⟩ = some (.int .i64 op) := by rw [cell_of_row w4 _ 0 _ _ _ hb10]; rfl
        have d1 : w4.cell? ⟨wr.heap.size, 1, none⟩ = some (.int .i64 ca) := by rw [cell_of_row w4 _ 1 _ _ _ hb10]; rfl
        have d2 : w4.cell? ⟨wr.heap.size, 2, none⟩ = some (.int .i64 cb) := by rw [cell_of_row w4 _ 2 _ _ _ hb10]; rfl
        have d3 : w4.cell? ⟨wr.heap.size, 3, none⟩ = some (.int .u16 (csize : Int)) := by rw [cell_of_row w4 _ 3 _ _ _ hb10]; rfl
        have d4 : w4.cell? ⟨wr.heap.size, 4, none⟩ = some (.int .i64 cn) := by rw [cell_of_row w4 _ 4 _ _ _ hb10]; rfl
        have d5 : w4.cell? ⟨wr.heap.size, 5, none⟩ = some (.int .u8 (csign.toNat : Int)) := by rw [cell_of_row w4 _ 5 _ _ _ hb10]; rfl
        have d6 : w4.cell? ⟨wr.heap.size, 6, none⟩ = some (.int .i32 cchar) := by rw [cell_of_row w4 _ 6 _ _ _ hb10]; rfl
        have d7 : w4.cell? ⟨wr.heap.size, 7, none⟩ = some (.string ⟨ctext.toArray⟩) := by rw [cell_of_row w4 _ 7 _ _ _ hb10]; rfl
        have d8 : w4.cell? ⟨wr.heap.size, 8, none⟩ = some (.slice cad ccuts.length ccap) := by rw [cell_of_row w4 _ 8 _ _ _ hb10]; rfl
        have g0 : w4.cell? ⟨w3.heap.size, 0, none⟩ = some (.slice B1 m1 k1) := by rw [cell_of_row w4 _ 0 _ _ _ hb11]; rfl
        have g1 : w4.cell? ⟨w3.heap.size, 1, none⟩ = some (.slice B2 m2 k2) := by rw [cell_of_row w4 _ 1 _ _ _ hb11]; rfl
        have hnd : ∀ b, b = wr.heap.size ∨ b = w3.heap.size → ¬ ((Value.slice A8 out.length q8).ownBlock = some b ∨ w4.heap.size ≤ b ∨ b = H) := by
          intro b hb q
          rcases q with q | q | q
          · have := HM.out.own.blk_lt q
            omega
          · omega
          · omega
        have HS := Lib.hid (show ∀ w', Fr (fun x => (Value.slice A8 out.length q8).ownBlock = some x ∨ w4.heap.size ≤ x ∨ x = H) w4 w' → (w'.cell? ⟨wr.heap.size, 0, none⟩ = some (.int .i64 op) ∧ w'.cell? ⟨wr.heap.size, 1, none⟩ = some (.int .i64 ca) ∧ w'.cell? ⟨wr.heap.size, 2, none⟩ = some (.int .i64 cb) ∧ w'.cell? ⟨wr.heap.size, 3, none⟩ = some (.int .u16 (csize : Int)) ∧ w'.cell? ⟨wr.heap.size, 4, none⟩ = some (.int .i64 cn) ∧ w'.cell? ⟨wr.heap.size, 5, none⟩ = some (.int .u8 (csign.toNat : Int)) ∧ w'.cell? ⟨wr.heap.size, 6, none⟩ = some (.int .i32 cchar) ∧ w'.cell? ⟨wr.heap.size, 7, none⟩ = some (.string ⟨ctext.toArray⟩) ∧ w'.cell? ⟨wr.heap.size, 8, none⟩ = some (.slice cad ccuts.length ccap) ∧ w'.cell? ⟨w3.heap.size, 0, none⟩ = some (.slice B1 m1 k1) ∧ w'.cell? ⟨w3.heap.size, 1, none⟩ = some (.slice B2 m2 k2)) from fun w' F => ⟨(F.cell (World.block_lt_of_cell? _ _ d0) (hnd wr.heap.size (.inl rfl))).trans d0, (F.cell (World.block_lt_of_cell? _ _ d1) (hnd wr.heap.size (.inl rfl))).trans d1, (F.cell (World.block_lt_of_cell? _ _ d2) (hnd wr.heap.size (.inl rfl))).trans d2, (F.cell (World.block_lt_of_cell? _ _ d3) (hnd wr.heap.size (.inl rfl))).trans d3, (F.cell (World.block_lt_of_cell? _ _ d4) (hnd wr.heap.size (.inl rfl))).trans d4, (F.cell (World.block_lt_of_cell? _ _ d5) (hnd wr.heap.size (.inl rfl))).trans d5, (F.cell (World.block_lt_of_cell? _ _ d6) (hnd wr.heap.size (.inl rfl))).trans d6, (F.cell (World.block_lt_of_cell? _ _ d7) (hnd wr.heap.size (.inl rfl))).trans d7, (F.cell (World.block_lt_of_cell? _ _ d8) (hnd wr.heap.size (.inl rfl))).trans d8, (F.cell (World.block_lt_of_cell? _ _ g0) (hnd w3.heap.size (.inr rfl))).trans g0, (F.cell (World.block_lt_of_cell? _ _ g1) (hnd w3.heap.size (.inr rfl))).trans g1⟩)
        have h34 : w3.heap.size < w4.heap.size := by omega
        have hw4s : w.heap.size ≤ w4.heap.size := by omega
        have hneH : ∀ x, (Value.slice A8 out.length q8).ownBlock = some x → x ≠ H := fun x hx => hown4.ne_blk hybH (by decide) hx
        have HNE := Lib.hid hneH
        have HYBH := Lib.hid hybH
        have HOWN4 := Lib.hid hown4
        have HF4 := Lib.hid F4
        have HF34 := Lib.hid F34
        have hh0 : w4.cell? ⟨H, 0, none⟩ = some (.slice A1 n1 c1) := by rw [cell_of_row w4 _ 0 _ _ _ hybH]; rfl
        have hh1 : w4.cell? ⟨H, 1, none⟩ = some (.slice A2 n2 c2) := by rw [cell_of_row w4 _ 1 _ _ _ hybH]; rfl
        clear hs34 hw4 F34 hb11 hb10 F4 hybH hown4 hnd hneH hne
        go_region_held3 (fun w' => w'.cell? ⟨wr.heap.size, 0, none⟩ = some (.int .i64 op) ∧ w'.cell? ⟨wr.heap.size, 1, none⟩ = some (.int .i64 ca) ∧ w'.cell? ⟨wr.heap.size, 2, none⟩ = some (.int .i64 cb) ∧ w'.cell? ⟨wr.heap.size, 3, none⟩ = some (.int .u16 (csize : Int)) ∧ w'.cell? ⟨wr.heap.size, 4, none⟩ = some (.int .i64 cn) ∧ w'.cell? ⟨wr.heap.size, 5, none⟩ = some (.int .u8 (csign.toNat : Int)) ∧ w'.cell? ⟨wr.heap.size, 6, none⟩ = some (.int .i32 cchar) ∧ w'.cell? ⟨wr.heap.size, 7, none⟩ = some (.string ⟨ctext.toArray⟩) ∧ w'.cell? ⟨wr.heap.size, 8, none⟩ = some (.slice cad ccuts.length ccap) ∧ w'.cell? ⟨w3.heap.size, 0, none⟩ = some (.slice B1 m1 k1) ∧ w'.cell? ⟨w3.heap.size, 1, none⟩ = some (.slice B2 m2 k2)) (exact HS.out _ (by (repeat (with_reducible first | exact Fr.refl _ _ | exact HF5.out | refine Fr.setCell ?_ (fun _ => .inr (.inr rfl)) _ | refine Fr.drew ?_ | refine Fr.alloc ?_ _)))) ((refine step_app rfl elem_call (.tmp 37) (.tmp 39) rfl w.heap.size (Value.slice A8 out.length q8) out.length (cls out) (by rfl) (HOWN4.out.fr (((Fr.refl (fun _ => False) w4).alloc _).drew) (fun _ _ q => q)) w4.heap.size (Cl.cells ⟨op, ca, cb, csize, cn, csign, cchar, ctext, ccuts, cad, ccap⟩) 36 (by rfl) (by exact heap_alloc_new w4 _) rfl (by simp [Cl.cells, Value.oneCell']) (by omega) (by simp; omega) ?_; intro gb cap w5 hown hfr hat hltg; have HF5 := Lib.hid (show Fr (fun x => (Value.slice A8 out.length q8).ownBlock = some x ∨ w4.heap.size ≤ x ∨ x = H) w4 w5 from (((Fr.refl (fun x => (Value.slice A8 out.length q8).ownBlock = some x ∨ w4.heap.size ≤ x ∨ x = H) w4).alloc _).drew).trans (hfr.mono (fun _ _ q => .inl q))); have HFR5 := Lib.hid ((((Fr.refl (fun x => (Value.slice A8 out.length q8).ownBlock = some x) w4).alloc _).drew).trans hfr); have HOWN5 := Lib.hid hown; have HAT5 := Lib.hid hat; have hb5 := HFR5.out.blk HYBH.out (fun q => HNE.out _ q rfl); have HB5 := Lib.hid hb5; have h50 : w5.cell? ⟨H, 0, none⟩ = some (.slice A1 n1 c1) := (by rw [cell_of_row w5 _ 0 _ _ _ hb5]; rfl); have h51 : w5.cell? ⟨H, 1, none⟩ = some (.slice A2 n2 c2) := (by rw [cell_of_row w5 _ 1 _ _ _ hb5]; rfl); have z50 := frozen_row hb5 0; have z51 := frozen_row hb5 1; clear hown hfr hat hb5))
        go_wp2_with fail
        go_roundw
        case rel =>
          have J := just2 w5 H (.slice B1 m1 k1) (.slice B2 m2 k2)
          have hat := HAT5.out
          have hsz5 := HFR5.out.size
          have hA1 : y'.bufs ≠ [] → ∀ r o s, B1 = some ⟨r, o, s⟩ → (r ≠ H ∧ (Value.slice A8 out.length q8).ownBlock ≠ some r) ∧ r < w3.heap.size := by
            intro hb r o s q
            refine ⟨?_, HYV3.out.lt1 hb r o s q⟩
            rcases HFA1.out r o s q with h | h
            · refine ⟨by omega, fun q2 => ?_⟩
              have := HM.out.own.blk_lt q2
              omega
            · exact HM.out.r1 (fun e => hb (HS3.out e)) r o s h
          have hA2 : y'.blds ≠ [] → ∀ r o s, B2 = some ⟨r, o, s⟩ → (r ≠ H ∧ (Value.slice A8 out.length q8).ownBlock ≠ some r) ∧ r < w3.heap.size := by
            intro hb r o s q
            refine ⟨?_, HYV3.out.lt2 hb r o s q⟩
            rcases HFA2.out r o s q with h | h
            · refine ⟨by omega, fun q2 => ?_⟩
              have := HM.out.own.blk_lt q2
              omega
            · exact HM.out.r2 (fun e => hb (HS4.out e)) r o s h
          have hgb : ∀ r, (Value.slice A8 out.length q8).ownBlock ≠ some r → r < w3.heap.size → (Value.slice (some ⟨gb, 0, none⟩) (out.length + 1) cap).ownBlock ≠ some r := by
            intro r h1 h2 q
            have q := own_at q
            subst q
            rcases hat with h | h
            · exact h1 h
            · simp only [World.size_drew, World.size_alloc] at h
              omega
          refine ⟨k + 1, y', B1, m1, k1, B2, m2, k2, out ++ [⟨op, ca, cb, csize, cn, csign, cchar, ctext, ccuts, cad, ccap⟩], by omega, by go_num, by simp; omega, ?_⟩
          refine ⟨by rw [HEQ2.out]; simp, HS2.out, ?_, ?_, ?_, fun hb r o s q => ⟨(hA1 hb r o s q).1.1, hgb r (hA1 hb r o s q).1.2 (hA1 hb r o s q).2⟩, fun hb r o s q => ⟨(hA2 hb r o s q).1.1, hgb r (hA2 hb r o s q).1.2 (hA2 hb r o s q).2⟩, HM.out.hH, ?_⟩
          · simp [World.setCell, Array.getElem?_modify, HB5.out]
          · refine YV.fr' (S := fun x => (Value.slice A8 out.length q8).ownBlock = some x ∨ x = H) HYV3.out (((HF34.out.mono (fun _ _ q => q.elim)).trans (HFR5.out.mono (fun _ _ q => .inl q))).trans (J.mono (fun _ _ q => .inr q))) (fun hb r o s q => ?_) (fun hb r o s q => ?_)
            · rintro (h | h)
              · exact (hA1 hb r o s q).1.2 h
              · exact (hA1 hb r o s q).1.1 h
            · rintro (h | h)
              · exact (hA2 hb r o s q).1.2 h
              · exact (hA2 hb r o s q).1.1 h
          · have ho := HOWN5.out.fr J (fun x hx q => HOWN5.out.ne_blk HB5.out (by decide) hx q)
            unfold OwnC
            rw [cls_append, cls_one, List.length_append]
            exact ho
          · have hH := HM.out.hH
            exact ((HM.out.fr.trans HF4.out).trans' HFR5.out (fun x hx q => by have := HM.out.own.blk_ge q; omega)).trans' J (fun x hx q => by have q : x = H := q; omega)
        case measure => simp [intOf]; omega
      · have heq2 := HEQ.out
        rw [if_neg hq] at heq2
        have hMn : CmI w ((w3.alloc (.cells #[.slice B1 m1 k1, .slice B2 m2 k2] 59)).alloc (.cells #[.int .i64 tn, .string ⟨ttx.toArray⟩, .int .i32 tc, .int .i64 tsd] 39)) H (cs.drop (k + 1)) full Inv (.slice A8 out.length q8) y A1 n1 c1 A2 n2 c2 out := by
          have F := (HFW.out.alloc (.cells #[.slice B1 m1 k1, .slice B2 m2 k2] 59)).alloc (.cells #[.int .i64 tn, .string ⟨ttx.toArray⟩, .int .i32 tc, .int .i64 tsd] 39)
          exact ⟨heq2, HS1.out, F.blk HYB.out (fun q => q), HM.out.yv.fr F, HM.out.own.fr F (fun _ _ q => q), HM.out.r1, HM.out.r2, HM.out.hH, HM.out.fr.trans F⟩
        have HMN := Lib.hid hMn
        clear heq2 hMn
        cases ob with
        | false =>
          clear hq
          go_wp2_with fail
          go_roundw
          case rel => exact ⟨k + 1, y, A1, n1, c1, A2, n2, c2, out, by omega, by go_num, by omega, HMN.out⟩
          case measure => simp [intOf]; omega
        | true =>
          have hne : (tsd != 3) = false := by
            by_cases h : tsd = 3
            · simp [h]
            · exact absurd ⟨rfl, h⟩ hq
          clear hq
          go_wp2_with fail
          go_roundw
          case rel => exact ⟨k + 1, y, A1, n1, c1, A2, n2, c2, out, by omega, by go_num, by omega, HMN.out⟩
          case measure => simp [intOf]; omega
    · have hkk : k = cs.length := by omega
      subst hkk
      have heq := hM.eq
      rw [List.drop_length] at heq
      simp only [calmF, List.append_nil] at heq
      subst heq
      obtain ⟨A8, q8, rfl⟩ := hM.own.value
      have HO := Lib.hid hM.own
      have HF := Lib.hid hM.fr
      clear hM
      go_wp2_with fail
      go_ret
      exact ⟨_, rfl, HO.out, HF.out⟩
end Go.Proofs.YtbodbajgpgaoeaaGreatDoor

namespace Go.Proofs.YtbodbajgpgaoeaaGreatDoor
open Go

/-- The call writes a text that it has. -/
def Cl.writes (c : Cl) : Prop := (1 ≤ c.op ∧ c.op ≤ 5) ∨ (28 ≤ c.op ∧ c.op ≤ 31) ∨ (c.op = 27 ∧ c.n = 0)
instance (c : Cl) : Decidable c.writes := by unfold Cl.writes; infer_instance
instance (c : Cl) : Decidable c.isRead := by unfold Cl.isRead; infer_instance
instance (c : Cl) : Decidable c.isBack := by unfold Cl.isBack; infer_instance
/-- The call leaves the bytes of a buffer in their order. -/
def Cl.streams (c : Cl) : Prop := (c.op = 14 ∨ c.op = 17 ∨ c.op = 18 ∨ c.op = 19 ∨ c.op = 20 ∨ c.op = 26) ∨ (c.op < 28 ∧ c.writes) ∨ c.isRead ∨ c.isBack
instance (c : Cl) : Decidable c.streams := by unfold Cl.streams; infer_instance
def wrF (c : Cl) : List UInt8 := if c.writes then textF c else []
def tells (c : Cl) : Prop := c.isRead ∨ c.op = 26
instance (c : Cl) : Decidable (tells c) := by unfold tells; infer_instance
/-- What a buffer has to do with all that was written, and the place that is reached. -/
structure OrdI (b : SB) (W : List UInt8) (at' size : Nat) : Prop where
  le : at' ≤ W.length
  tx : b.text = W.drop at'
  one : b.recent = 1 → 1 ≤ at' ∧ b.last = (W.drop (at' - 1)).take 1
  two : b.recent = 2 → size = b.last.length ∧ 0 < size ∧ size ≤ at' ∧ b.last = (W.drop (at' - size)).take size
  sz : size ≤ 4

theorem OrdI.other {b : SB} {W : List UInt8} {at' size : Nat} {t : List UInt8} (hle : at' ≤ W.length) (ht : t = W.drop at') (hs : size ≤ 4) : OrdI (b.other t) W at' size :=
  ⟨hle, ht, fun q => absurd q (by simp [SB.other]), fun q => absurd q (by simp [SB.other]), hs⟩
theorem drop_app {W s : List UInt8} {k : Nat} (h : k ≤ W.length) : (W ++ s).drop k = W.drop k ++ s := List.drop_append_of_le_length h
theorem OrdI.write {b : SB} {W : List UInt8} {at' size : Nat} (h : OrdI b W at' size) (s : List UInt8) : OrdI (b.write s) (W ++ s) at' size :=
  ⟨by have := h.le; simp; omega, by rw [drop_app h.le, ← h.tx]; rfl, fun q => absurd q (by simp [SB.write]), fun q => absurd q (by simp [SB.write]), h.sz⟩
theorem OrdI.read0 {b : SB} {W : List UInt8} {at' size : Nat} (r : Int) (h : OrdI b W at' size) (size' : Nat) (hs : size' ≤ 4) : OrdI (b.read 0 r) W at' size' := by
  simp only [SB.read, if_true]
  exact ⟨h.le, h.tx, fun q => absurd q (by simp), fun q => absurd q (by simp), hs⟩
theorem OrdI.read1 {b : SB} {W : List UInt8} {at' size n : Nat} {r : Int} (h : OrdI b W at' size) (hn : n ≤ b.text.length) (hr : r = 1 ∨ r = 5) : OrdI (b.read n r) W (at' + n) size := by
  have hl : b.text.length = W.length - at' := by rw [h.tx]; simp
  have hle := h.le
  rcases Nat.eq_zero_or_pos n with h0 | h0
  · subst h0
    exact h.read0 r size h.sz
  have hne : n ≠ 0 := by omega
  unfold SB.read
  rw [if_neg hne]
  refine ⟨by omega, by simp only; rw [h.tx, List.drop_drop], fun q => ⟨by omega, ?_⟩, fun q => by simp only at q; omega, h.sz⟩
  simp only
  rw [if_neg (by omega), h.tx, List.drop_drop]
  congr 2
  omega
theorem OrdI.read2 {b : SB} {W : List UInt8} {at' size n : Nat} (h : OrdI b W at' size) (h0 : 0 < n) (hn : n ≤ b.text.length) (h4 : n ≤ 4) : OrdI (b.read n 2) W (at' + n) n := by
  have hl : b.text.length = W.length - at' := by rw [h.tx]; simp
  have hle := h.le
  have hne : n ≠ 0 := by omega
  unfold SB.read
  rw [if_neg hne]
  refine ⟨by omega, by simp only; rw [h.tx, List.drop_drop], fun q => absurd q (by simp), fun q => ⟨?_, h0, by omega, ?_⟩, h4⟩
  · simp; omega
  · simp only [if_true]
    rw [h.tx]
    congr 2
    omega
theorem OrdI.back {b : SB} {W : List UInt8} {at' size k : Nat} {t : List UInt8} (h : OrdI b W at' size) (hk : k ≤ at') (ht : t = (W.drop (at' - k)).take k ++ b.text) : OrdI (b.other t) W (at' - k) size := by
  refine OrdI.other (by have := h.le; omega) ?_ h.sz
  rw [ht, h.tx]
  have : W.drop at' = (W.drop (at' - k)).drop k := by rw [List.drop_drop]; congr 1; omega
  rw [this, List.take_append_drop]

end Go.Proofs.YtbodbajgpgaoeaaGreatDoor

namespace Go.Proofs.YtbodbajgpgaoeaaGreatDoor
open Go

/-- A read got all that it asked for. -/
def fullF (c : Cl) (t : Td) : Prop :=
  if c.op = 6 ∨ c.op = 7 then t.text.length = c.size
  else if c.op = 11 then t.said = 0 ∧ ¬ (t.char = 65533 ∧ t.n = 1)
  else t.said = 0
instance (c : Cl) (t : Td) : Decidable (fullF c t) := by unfold fullF; infer_instance
/-- A script without the reads that do not get all. -/
def scrF : Yd → List Cl → List Cl
  | _, [] => []
  | y, c :: l => if c.isRead ∧ ¬ fullF c (y.do c).2.1 then scrF y l else c :: scrF (y.do c).1 l
def pickR : List Cl → List Td → List Td
  | c :: l, t :: ts => if c.isRead then t :: pickR l ts else pickR l ts
  | _, _ => []

/-- The calls that the law plays. -/
def Cl.wr (c : Cl) : Prop := c.a = 0 ∧ ((c.op < 28 ∧ c.writes) ∨ c.isRead) ∧ c.valid
theorem wr_write {c : Cl} (h : c.wr) (hn : ¬ c.isRead) (b : SB) : ∃ b' t, (yd1 b).do c = (yd1 b', t, true) ∧ t.said = 0 ∧ b'.text = b.text ++ wrF c := by
  obtain ⟨ha, h1, hv⟩ := h
  have hw : c.op < 28 ∧ c.writes := h1.resolve_right hn
  have hwf : wrF c = textF c := by unfold wrF; rw [if_pos hw.2]
  rw [hwf]
  by_cases h27 : c.op = 27
  · have hn0 : c.n = 0 := by
      have := hw.2
      unfold Cl.writes at this
      omega
    refine ⟨_, _, yd1_fill b c ha h27, by simp [hn0], ?_⟩
    unfold textF
    rw [if_neg (by omega), if_neg (by omega)]
    rfl
  · have hww : c.isWrite := by
      have h2 := hw.1
      have := hw.2
      unfold Cl.writes at this
      unfold Cl.isWrite
      omega
    obtain ⟨t, e, ht, _⟩ := do_write b c hww hv
    unfold Cl.isWrite at hww
    refine ⟨b.write (textF c), t, ?_, ht, rfl⟩
    rw [yd1_do b c ha (by omega) (by omega), e]
theorem wr_read {c : Cl} (h : c.wr) (hr : c.isRead) (b : SB) : (yd1 b).do c = (yd1 (b.reads c).1, (b.reads c).2.1, true) ∧ (b.reads c).2.1.said ≠ 3 := by
  obtain ⟨h1, h2, _⟩ := reads_ok b c
  refine ⟨?_, by omega⟩
  have hr' := hr
  unfold Cl.isRead at hr'
  rw [yd1_do b c h.1 (by omega) (by omega), do_read b c hr, h1]
/-- What a calm script has is settled. -/
theorem calm_valid : ∀ (l : List Cl) (b : SB), (∀ c ∈ l, c.one) → ∀ c ∈ calmF (yd1 b) l, c.op = 4 → enc c.char ≠ []
  | [], b, _, c, hc, _ => by cases hc
  | d :: l, b, h, c, hc, h4 => by
    obtain ⟨b', e⟩ := yd1_one b d (h d (by simp))
    have hl : ∀ c ∈ l, c.one := fun x hx => h x (by simp [hx])
    simp only [calmF] at hc
    split at hc
    · rename_i hq
      rcases List.mem_cons.1 hc with rfl | hc
      · rw [yd1_do b c (h c (by simp)).1 (by omega) (by omega)] at hq
        have h0 := hq.1
        simp only at h0
        intro q
        simp [SB.do, h4, q] at h0
      · rw [e] at hc
        exact calm_valid l b' hl c hc h4
    · exact calm_valid l b hl c hc h4
end Go.Proofs.YtbodbajgpgaoeaaGreatDoor

namespace Go.Proofs.YtbodbajgpgaoeaaGreatDoor
open Go Go.RowKit

theorem Own.lower {E : TypeId} {size : Nat} {w : World} {base base' : Nat} {v : Value} {n : Nat} {xs : List Value} (h : Own E size w base v n xs) (hb : base' ≤ base) : Own E size w base' v n xs := by
  refine ⟨h.1, ?_⟩
  rcases h.2 with k | ⟨g, cap, cur, e, k1, k⟩
  · exact .inl k
  · exact .inr ⟨g, cap, cur, e, Nat.le_trans hb k1, k⟩
def Cl.at0 (c : Cl) : Cl := { c with a := 0 }
/-- The calls that are kept, all of the first buffer. -/
def keepF (keep : Cl → Bool) (l : List Cl) : List Cl := (l.map Cl.at0).filter keep
theorem keep_succ {keep : Cl → Bool} {cs : List Cl} {k : Nat} {d : Cl} (h : cs[k]? = some d) : keepF keep (cs.take (k + 1)) = keepF keep (cs.take k) ++ (if keep d.at0 = true then [d.at0] else []) := by
  obtain ⟨hl, e⟩ := List.getElem?_eq_some_iff.1 h
  rw [List.take_succ_eq_append_getElem hl, e]
  simp only [keepF, List.map_append, List.map_cons, List.map_nil, List.filter_append, List.filter_cons, List.filter_nil]
theorem keep_len (keep : Cl → Bool) (cs : List Cl) (k : Nat) : (keepF keep (cs.take k)).length ≤ k := by
  refine Nat.le_trans (List.length_filter_le _ _) ?_
  simp
  omega
/-- A test of calls, as the code has it. -/
def TestOk (fid : FuncId) (keep : Cl → Bool) : Prop := ∀ (c : Cl) (w : World), Calls Tryz.prog fid #[c.val] w fun e w' => e = .returned (.bool (keep c)) ∧ Fr (fun _ => False) w w'
set_option maxHeartbeats 1600000 in
set_option maxRecDepth 100000 in
theorem one_trunc (Inv : Yd → List Cl → Prop) (hstep : StepOk Inv) (s : St) (keep : Cl → Bool) (hk : TestOk 20 keep) (cs : List Cl) (A' : Option Addr) (c' : Nat) (w : World) (hC : Reads Cl.cells 9 w A' cs) (hcl : cs.length ≤ 4294967296) (hI : Inv (Yd.begin [s] 0) (keepF keep cs)) :
    Calls Tryz.prog 10 #[.agg s.cells.toArray, .slice A' cs.length c', .func (.func 20) #[] #[]] w (CalmPost w (calmF (Yd.begin [s] 0) (keepF keep cs))) := by
  obtain ⟨text, way, space⟩ := s
  have HSTEP := Lib.hid hstep
  have HK := Lib.hid hk
  have HC := Lib.hid hC
  have HI := Lib.hid hI
  clear hstep hk hC hI
  simp only [St.cells]
  go_enter Tryz.func10, Tryz.ntmps10
  go_wp2_with fail
  have hb0 := heap_alloc_new w (.cells #[.string ⟨text.toArray⟩, .int .i64 way, .int .u16 (space : Int)] 24)
  have hF0 := (Fr.refl (fun _ => False) w).alloc (.cells #[.string ⟨text.toArray⟩, .int .i64 way, .int .u16 (space : Int)] 24)
  have HB0 := Lib.hid hb0
  have HF0 := Lib.hid hF0
  clear hb0 hF0
  go_loopw [7, 12] (fun v7 v12 wr => ∃ k : Nat, k ≤ cs.length ∧ v12 = .int .i64 (k : Int) ∧ OwnC wr w.heap.size v7 (keepF keep (cs.take k)) ∧ Fr (fun _ => False) w wr ∧ wr.heap[w.heap.size]? = some (.cells #[.string ⟨text.toArray⟩, .int .i64 way, .int .u16 (space : Int)] 24 (0, 0))) (fun _ v12 _ => cs.length - (intOf v12).toNat)
  case atStart => exact ⟨0, Nat.zero_le _, rfl, Own.nil _ _ _ _, HF0.out, HB0.out⟩
  case round =>
    obtain ⟨k, hk, rfl, hO, hF, hB⟩ := hrel
    obtain ⟨l, hl⟩ : ∃ l, l = keepF keep (cs.take k) := ⟨_, rfl⟩
    have hll : l.length ≤ k := by rw [hl]; exact keep_len keep cs k
    rw [← hl] at hO
    obtain ⟨A7, q7, rfl⟩ := hO.value
    have HL := Lib.hid hl
    have HO := Lib.hid hO
    have HF := Lib.hid hF
    have HB := Lib.hid hB
    by_cases hlt : k < cs.length
    · obtain ⟨d, hd⟩ : ∃ d, cs[k]? = some d := ⟨_, List.getElem?_eq_getElem hlt⟩
      obtain ⟨r, o, e1, hc⟩ := HC.out.at' k d hd
      subst e1
      have hsucc := keep_succ (keep := keep) hd
      rw [← hl] at hsucc
      have hq : ∀ j u, (Cl.cells d)[j]? = some u → wr.cell? ⟨r, o + k * 9 + j, none⟩ = some u := fun j u hu => (hF.cell (World.block_lt_of_cell? _ _ (hc j u hu)) (fun q => q)).trans (hc j u hu)
      have hkk := HK.out d.at0
      generalize hkp : keep d.at0 = kp at *
      obtain ⟨op, ca, cb, csize, cn, csign, cchar, ctext, ccuts, cad, ccap⟩ := d
      have c0 := hq 0 _ rfl
      have c1' := hq 1 _ rfl
      have c2' := hq 2 _ rfl
      have c3' := hq 3 _ rfl
      have c4 := hq 4 _ rfl
      have c5 := hq 5 _ rfl
      have c6 := hq 6 _ rfl
      have c7 := hq 7 _ rfl
      have c8 := hq 8 _ rfl
      simp only [Nat.add_zero] at c0
      have hki : (k : Int) < (cs.length : Int) := by omega
      have hk0 : (0 : Int) ≤ (k : Int) := by omega
      simp only [Cl.at0, Cl.val, Cl.cells] at hkk hsucc
      have HKK := Lib.hid hkk
      have HSU := Lib.hid hsucc
      clear hkk hsucc hd hc hq hO hF hB hl hkp
      go_wp2_with fail
      refine (HKK.out _).mono ?_
      rintro e w3 ⟨rfl, F3⟩
      have hb9 := F3.blk (heap_alloc_new wr (.cells #[.int .i64 op, .int .i64 0, .int .i64 cb, .int .u16 (csize : Int), .int .i64 cn, .int .u8 (csign.toNat : Int), .int .i32 cchar, .string ⟨ctext.toArray⟩, .slice cad ccuts.length ccap] 36)) (fun q => q)
      have hF3 := ((Fr.refl (fun _ => False) wr).alloc (.cells #[.int .i64 op, .int .i64 0, .int .i64 cb, .int .u16 (csize : Int), .int .i64 cn, .int .u8 (csign.toNat : Int), .int .i32 cchar, .string ⟨ctext.toArray⟩, .slice cad ccuts.length ccap] 36)).trans F3
      have HF3 := Lib.hid hF3
      have HFW := Lib.hid (HF.out.trans hF3)
      have HB3 := Lib.hid (hF3.blk HB.out (fun q => q))
      have HO3 := Lib.hid (HO.out.fr hF3 (fun _ _ q => q))
      clear F3 hF3 c0 c1' c2' c3' c4 c5 c6 c7 c8
      cases kp with
      | false =>
        have hsu := HSU.out
        rw [if_neg (by decide), List.append_nil] at hsu
        have HSU2 := Lib.hid hsu
        clear hsu hb9
        go_wp2_with fail
        go_roundw
        case rel => exact ⟨k + 1, by omega, by go_num, by rw [HSU2.out]; exact HO3.out, HFW.out, HB3.out⟩
        case measure => simp [intOf]; omega
      | true =>
        have hsu := HSU.out
        rw [if_pos rfl] at hsu
        have HSU2 := Lib.hid hsu
        have d0 : w3.cell? ⟨wr.heap.size, 0, none⟩ = some (.int .i64 op) := by rw [cell_of_row w3 _ 0 _ _ _ hb9]; rfl
        have d1 : w3.cell? ⟨wr.heap.size, 1, none⟩ = some (.int .i64 0) := by rw [cell_of_row w3 _ 1 _ _ _ hb9]; rfl
        have d2 : w3.cell? ⟨wr.heap.size, 2, none⟩ = some (.int .i64 cb) := by rw [cell_of_row w3 _ 2 _ _ _ hb9]; rfl
        have d3 : w3.cell? ⟨wr.heap.size, 3, none⟩ = some (.int .u16 (csize : Int)) := by rw [cell_of_row w3 _ 3 _ _ _ hb9]; rfl
        have d4 : w3.cell? ⟨wr.heap.size, 4, none⟩ = some (.int .i64 cn) := by rw [cell_of_row w3 _ 4 _ _ _ hb9]; rfl
        have d5 : w3.cell? ⟨wr.heap.size, 5, none⟩ = some (.int .u8 (csign.toNat : Int)) := by rw [cell_of_row w3 _ 5 _ _ _ hb9]; rfl
        have d6 : w3.cell? ⟨wr.heap.size, 6, none⟩ = some (.int .i32 cchar) := by rw [cell_of_row w3 _ 6 _ _ _ hb9]; rfl
        have d7 : w3.cell? ⟨wr.heap.size, 7, none⟩ = some (.string ⟨ctext.toArray⟩) := by rw [cell_of_row w3 _ 7 _ _ _ hb9]; rfl
        have d8 : w3.cell? ⟨wr.heap.size, 8, none⟩ = some (.slice cad ccuts.length ccap) := by rw [cell_of_row w3 _ 8 _ _ _ hb9]; rfl
        have hws : w.heap.size ≤ w3.heap.size := HFW.out.size
        clear hsu hb9
        go_wp2_with (refine wpList_app rfl elem_call (.tmp 20) (.tmp 22) rfl w.heap.size _ l.length _ (by rfl) (HO3.out.fr ((Fr.refl (fun _ => False) w3).alloc (.cells #[.int .i64 op, .int .i64 0, .int .i64 cb, .int .u16 (csize : Int), .int .i64 cn, .int .u8 (csign.toNat : Int), .int .i32 cchar, .string ⟨ctext.toArray⟩, .slice cad ccuts.length ccap] 36)) (fun _ _ q => q)) w3.heap.size (Cl.cells ⟨op, 0, cb, csize, cn, csign, cchar, ctext, ccuts, cad, ccap⟩) 36 (by rfl) (by exact heap_alloc_new w3 _) rfl (by simp [Cl.cells, Value.oneCell']) (by omega) (by simp; omega) ?_)
        intro gb cap w4 hown hfr hat hlt1
        have HOWN := Lib.hid hown
        have HFR := Lib.hid (HO3.out.grown HFW.out hfr)
        have HB4 := Lib.hid (hfr.blk (((Fr.refl (fun _ => False) w3).alloc _).blk HB3.out (fun q => q)) (fun q => HO3.out.ne_blk HB3.out (by decide) q rfl))
        clear hown hfr hat hlt1
        go_wp2_with fail
        go_roundw
        case rel =>
          refine ⟨k + 1, by omega, by go_num, ?_, HFR.out, HB4.out⟩
          rw [HSU2.out]
          unfold OwnC
          rw [cls_append, cls_one, List.length_append]
          exact HOWN.out
        case measure => simp [intOf]; omega
    · have hkk : k = cs.length := by omega
      subst hkk
      rw [List.take_length] at hl
      subst hl
      have s0 : wr.cell? ⟨w.heap.size, 0, none⟩ = some (.string ⟨text.toArray⟩) := by rw [cell_of_row wr _ 0 _ _ _ hB]; rfl
      have s1 : wr.cell? ⟨w.heap.size, 1, none⟩ = some (.int .i64 way) := by rw [cell_of_row wr _ 1 _ _ _ hB]; rfl
      have s2 : wr.cell? ⟨w.heap.size, 2, none⟩ = some (.int .u16 (space : Int)) := by rw [cell_of_row wr _ 2 _ _ _ hB]; rfl
      have hR : Reads St.cells 3 (wr.alloc (.cells #[.string ⟨text.toArray⟩, .int .i64 way, .int .u16 (space : Int)] 24)) (some ⟨wr.heap.size, 0, none⟩) [⟨text, way, space⟩] := Reads.of_block St.cells_len (heap_alloc_new wr _) rfl
      have hCr := (Own.readsAt Cl.cells_len (by decide) hO).fr0 ((Fr.refl (fun _ => False) wr).alloc (.cells #[.string ⟨text.toArray⟩, .int .i64 way, .int .u16 (space : Int)] 24))
      have hcalm := calm_any Inv HSTEP.out [⟨text, way, space⟩] 0 (some ⟨wr.heap.size, 0, none⟩) 1 (keepF keep cs) A7 q7 (wr.alloc (.cells #[.string ⟨text.toArray⟩, .int .i64 way, .int .u16 (space : Int)] 24)) hR (by simp) (by omega) hCr (by omega) HI.out
      have HCALM := Lib.hid hcalm
      clear hO hF hB hR hCr hcalm
      go_wp2_with fail
      refine HCALM.out.mono ?_
      rintro e w4 ⟨v, rfl, hv, F4⟩
      have hbase := F4.size
      obtain ⟨A4, q4, rfl⟩ := hv.value
      have HV := Lib.hid (hv.lower (base' := w.heap.size) (by rw [World.size_alloc]; have := HF.out.size; omega))
      have HFE := Lib.hid ((HF.out.alloc (.cells #[.string ⟨text.toArray⟩, .int .i64 way, .int .u16 (space : Int)] 24)).trans F4)
      clear hv F4
      go_wp2_with fail
      go_ret
      exact ⟨_, rfl, HV.out, HFE.out⟩
end Go.Proofs.YtbodbajgpgaoeaaGreatDoor

namespace Go.Proofs.YtbodbajgpgaoeaaGreatDoor
open Go Go.RowKit

theorem fr_one (w : World) (o : Obj) : Fr (fun _ => False) w (w.alloc o) := (Fr.refl _ w).alloc o
set_option maxHeartbeats 800000 in
set_option maxRecDepth 100000 in
theorem t_back : TestOk 32 (fun c => decide (c.isBack)) := by
  intro c w
  obtain ⟨op, a, bb, size, n, sign, char, text, cuts, ad, cap⟩ := c
  simp only [Cl.val, Cl.cells]
  have hc : (op = 12) ∨ (op = 13) ∨ (op < 12 ∨ 13 < op) := by omega
  rcases hc with hc | hc | hc
  · have hr : decide (((Cl.mk op a bb size n sign char text cuts ad cap).isBack)) = true := decide_eq_true (by (try simp only [Cl.isRead, Cl.isBack, Cl.writes]); omega)
    rw [hr]
    have e0 : (op == 12) = true := by simp; omega
    clear hr hc
    go_enter Tryz.func32, Tryz.ntmps32
    go_wp2_with fail
    go_ret
    exact ⟨rfl, fr_one w _⟩
  · have hr : decide (((Cl.mk op a bb size n sign char text cuts ad cap).isBack)) = true := decide_eq_true (by (try simp only [Cl.isRead, Cl.isBack, Cl.writes]); omega)
    rw [hr]
    have e0 : (op == 12) = false := by simp; omega
    have e1 : (op == 13) = true := by simp; omega
    clear hr hc
    go_enter Tryz.func32, Tryz.ntmps32
    go_wp2_with fail
    go_ret
    exact ⟨rfl, fr_one w _⟩
  · have hr : decide (((Cl.mk op a bb size n sign char text cuts ad cap).isBack)) = false := decide_eq_false (by (try simp only [Cl.isRead, Cl.isBack, Cl.writes]); omega)
    rw [hr]
    have e0 : (op == 12) = false := by simp; omega
    have e1 : (op == 13) = false := by simp; omega
    clear hr hc
    go_enter Tryz.func32, Tryz.ntmps32
    go_wp2_with fail
    go_ret
    exact ⟨rfl, fr_one w _⟩
set_option maxHeartbeats 800000 in
set_option maxRecDepth 100000 in
theorem t_trunc : TestOk 20 (fun c => decide (c.op < 23)) := by
  intro c w
  obtain ⟨op, a, bb, size, n, sign, char, text, cuts, ad, cap⟩ := c
  simp only [Cl.val, Cl.cells]
  have hc : (op < 23) ∨ (23 ≤ op) := by omega
  rcases hc with hc | hc
  · have hr : decide (((Cl.mk op a bb size n sign char text cuts ad cap).op < 23)) = true := decide_eq_true (by (try simp only [Cl.isRead, Cl.isBack, Cl.writes]); omega)
    rw [hr]
    have q0 : decide (op < 23) = true := by simp; omega
    have r0 : (op < 23) := by omega
    clear hr hc
    go_enter Tryz.func20, Tryz.ntmps20
    go_wp2_with fail
    go_ret
    exact ⟨rfl, fr_one w _⟩
  · have hr : decide (((Cl.mk op a bb size n sign char text cuts ad cap).op < 23)) = false := decide_eq_false (by (try simp only [Cl.isRead, Cl.isBack, Cl.writes]); omega)
    rw [hr]
    have q0 : decide (op < 23) = false := by simp; omega
    have r0 : ¬ (op < 23) := by omega
    clear hr hc
    go_enter Tryz.func20, Tryz.ntmps20
    go_wp2_with fail
    go_ret
    exact ⟨rfl, fr_one w _⟩
end Go.Proofs.YtbodbajgpgaoeaaGreatDoor

namespace Go.Proofs.YtbodbajgpgaoeaaGreatDoor
open Go Go.RowKit

instance (c : Cl) : Decidable c.valid := by unfold Cl.valid; infer_instance
set_option maxHeartbeats 1600000 in
set_option maxRecDepth 100000 in
theorem long_2 (g : Nat) (A : Option Addr) (n c : Nat) (B : Option Addr) (m d : Nat) (w : World) (h : w.cell? ⟨g, 0, none⟩ = some (.slice A n c)) (h2 : w.cell? ⟨g, 1, none⟩ = some (.slice B m d)) (hn : n ≤ 4294967296) (hm : m ≤ 4294967296) :
    Calls Tryz.prog 9 #[.slice (some ⟨g, 0, none⟩) 2 2] w fun e w' => e = .returned (.bool (decide (4096 < n + m))) ∧ w' = w := by
  have hz : decide (4096 < n + m) = decide ((4096 : Int) < (n : Int) + (m : Int)) := by by_cases q : 4096 < n + m <;> simp [q] <;> omega
  rw [hz]
  clear hz
  have hw1 : IntKind.i64.wrap (n : Int) = (n : Int) := IntWalk.i64_in _ (by omega)
  have hw2 : IntKind.i64.wrap ((n : Int) + (m : Int)) = (n : Int) + (m : Int) := IntWalk.i64_in _ (by omega)
  go_enter Tryz.func9, Tryz.ntmps9
  go_wp2_with fail
  go_loop [3, 8] (fun v3 v8 => (v8 = .int .i64 0 ∧ v3 = .int .i64 0) ∨ (v8 = .int .i64 1 ∧ v3 = .int .i64 (n : Int)) ∨ (v8 = .int .i64 2 ∧ v3 = .int .i64 ((n : Int) + (m : Int)))) (fun _ v8 => 2 - (intOf v8).toNat)
  case atStart => exact .inl ⟨rfl, rfl⟩
  case round =>
    rcases hrel with ⟨rfl, rfl⟩ | ⟨rfl, rfl⟩ | ⟨rfl, rfl⟩
    · go_wp2_with fail
      go_round
      case rel => exact .inr (.inl ⟨rfl, rfl⟩)
      case measure => simp [intOf]
    · go_wp2_with fail
      go_round
      case rel => exact .inr (.inr ⟨rfl, rfl⟩)
      case measure => simp [intOf]
    · go_wp2_with fail
      go_ret
      exact ⟨rfl, rfl⟩
end Go.Proofs.YtbodbajgpgaoeaaGreatDoor

namespace Go.Proofs.YtbodbajgpgaoeaaGreatDoor
open Go Go.RowKit

/-- Where Calm stands, in a script of one buffer. -/
def InvB (y : Yd) (l : List Cl) : Prop := ∃ b, y = yd1 b ∧ b.good ∧ (∀ c ∈ l, c.first ∧ c.size ≤ 65535) ∧ b.text.length + wsum l + 16 ≤ 1099511627776
theorem yd1_step (b : SB) (c : Cl) (hc : c.first) (hg : b.good) : ∃ b', ((yd1 b).do c).1 = yd1 b' ∧ b'.good ∧ b'.text.length ≤ b.text.length + c.text.length + 4 := by
  obtain ⟨ha, hop⟩ := hc
  by_cases h1 : c.op < 1
  · exact ⟨b, by rw [yd1_do0 b c h1], hg, by omega⟩
  by_cases h2 : c.op < 23
  · exact ⟨(b.do c).1, by rw [yd1_do b c ha (by omega) h2], good_do hg c, (b.do_len c hg.l2).1⟩
  by_cases h26 : c.op = 26
  · rw [yd1_drain b c ha h26]
    split
    · exact ⟨b, rfl, hg, by omega⟩
    · exact ⟨b.other [], rfl, good_other _ _, by simp [SB.other]⟩
  · rw [yd1_fill b c ha (by omega)]
    exact ⟨_, rfl, good_other _ _, by simp [SB.other]⟩
theorem stepB : StepOk InvB := by
  intro y c l h
  obtain ⟨b, rfl, hg, hc, hl⟩ := h
  have hcc := hc c (by simp)
  rw [wsum_cons] at hl
  obtain ⟨b', e, hg', hl'⟩ := yd1_step b c hcc.1 hg
  have hrest : ∀ d ∈ l, d.first ∧ d.size ≤ 65535 := fun d hd => hc d (by simp [hd])
  refine ⟨⟨b, rfl, hg, hrest, by omega⟩, ⟨b', e, hg', hrest, by omega⟩, fun q => by simp [yd1] at q, fun _ => by rw [e]; rfl, ?_⟩
  intro A1 n1 c1 A2 n2 c2 wx hY
  have h1 := hY.l1
  have h2 := hY.l2
  simp only [yd1, List.length_cons, List.length_nil] at h1 h2
  subst h1 h2
  exact sp_Do b c A1 c1 A2 c2 wx hY hcc.1 hg (by omega) hcc.2
/-- The buffer that a law begins with. -/
def b0 (s : St) : SB := ⟨s.text, if s.way = 2 then 4 else 0, [], false⟩
theorem begin_b0 (s : St) : Yd.begin [s] 0 = yd1 (b0 s) := rfl
theorem b0_good (s : St) : (b0 s).good := ⟨fun q => by simp only [b0] at q; split at q <;> omega, by simp [b0]⟩
/-- What is known of the calls that a law is given. -/
structure CallsOk (w : World) (cs : List Cl) : Prop where
  ok : ∀ c ∈ cs, ClOk w c
  sz : wsum cs ≤ 549755813888
  few : cs.length ≤ 1073741824
theorem CallsOk.fr {w w' : World} {cs : List Cl} (h : CallsOk w cs) (hf : Fr (fun _ => False) w w') : CallsOk w' cs := ⟨fun c hc => (h.ok c hc).fr hf, h.sz, h.few⟩
theorem wsum_keep (keep : Cl → Bool) : ∀ cs : List Cl, wsum (keepF keep cs) ≤ wsum cs
  | [] => Nat.le_refl _
  | c :: cs => by
    have h := wsum_keep keep cs
    have e : c.at0.text = c.text := rfl
    simp only [keepF, List.map_cons, List.filter_cons] at h ⊢
    split
    · rw [wsum_cons, wsum_cons, e]
      omega
    · rw [wsum_cons]
      omega
theorem keep_mem {keep : Cl → Bool} {cs : List Cl} {c : Cl} (h : c ∈ keepF keep cs) : ∃ d ∈ cs, c = d.at0 ∧ keep c = true := by
  obtain ⟨h1, h2⟩ := List.mem_filter.1 h
  obtain ⟨d, hd, rfl⟩ := List.mem_map.1 h1
  exact ⟨d, hd, rfl, h2⟩
/-- A test that keeps calls of one buffer that the laws play. -/
def KeepFirst (keep : Cl → Bool) : Prop := ∀ c : Cl, c.a = 0 → keep c = true → c.first
theorem keep_inv {keep : Cl → Bool} (hk : KeepFirst keep) {w : World} {cs : List Cl} (h : CallsOk w cs) (s : St) (hs : s.text.length ≤ 549755813000) : InvB (Yd.begin [s] 0) (keepF keep cs) := by
  refine ⟨b0 s, rfl, b0_good s, fun c hc => ?_, ?_⟩
  · obtain ⟨d, hd, rfl, hkk⟩ := keep_mem hc
    exact ⟨hk _ rfl hkk, (h.ok d hd).size⟩
  · have := wsum_keep keep cs
    have := h.sz
    show s.text.length + _ + 16 ≤ _
    omega
/-- A script of one buffer that may be played. -/
structure Play1 (w : World) (s : St) (l : List Cl) : Prop where
  mild : Mild (yd1 (b0 s)) l
  first : ∀ c ∈ l, c.first
  ok : ∀ c ∈ l, ClOk w c
  sz : s.text.length + wsum l + 66000 ≤ 1099511627776
  few : l.length ≤ 4294967296
theorem Play1.fr {w w' : World} {s : St} {l : List Cl} (h : Play1 w s l) (hf : Fr (fun _ => False) w w') : Play1 w' s l := ⟨h.mild, h.first, fun c hc => (h.ok c hc).fr hf, h.sz, h.few⟩
theorem calm_play {keep : Cl → Bool} (hk : KeepFirst keep) {w : World} {cs : List Cl} (h : CallsOk w cs) (s : St) (hs : s.text.length ≤ 549755700000) : Play1 w s (calmF (Yd.begin [s] 0) (keepF keep cs)) ∧ wsum (calmF (Yd.begin [s] 0) (keepF keep cs)) ≤ wsum cs ∧ (calmF (Yd.begin [s] 0) (keepF keep cs)).length ≤ cs.length := by
  have h1 := calm_mild (keepF keep cs) (Yd.begin [s] 0)
  have h2 := wsum_calm (keepF keep cs) (Yd.begin [s] 0)
  have h3 := wsum_keep keep cs
  have h4 := calm_len (keepF keep cs) (Yd.begin [s] 0)
  have h5 : (keepF keep cs).length ≤ cs.length := by have := keep_len keep cs cs.length; rwa [List.take_length] at this
  have h6 := h.sz
  have h7 := h.few
  refine ⟨⟨h1, fun c hc => ?_, fun c hc => ?_, by omega, by omega⟩, by omega, by omega⟩
  · obtain ⟨d, hd, rfl, hkk⟩ := keep_mem (calm_mem _ _ c hc)
    exact hk _ rfl hkk
  · obtain ⟨d, hd, rfl, hkk⟩ := keep_mem (calm_mem _ _ c hc)
    have := h.ok d hd
    exact ⟨this.size, this.cuts, this.few, this.text⟩
theorem first_plays {c : Cl} (h : c.first) : c.plays := by
  have := h.2
  unfold Cl.plays
  omega
theorem first_there {c : Cl} (h : c.first) (b : SB) : c.there (yd1 b) := by
  have := h.2
  unfold Cl.there
  rw [if_neg (by omega), h.1]
  exact ⟨⟨by omega, by simp [yd1]⟩, fun q => by omega⟩
/-- What Run returns of a script of one buffer. -/
def Run1Post (w : World) (s : St) (l : List Cl) (e : Ending) (w' : World) : Prop :=
  ∃ A1 c1 A2 c2 A3 n3 c3 fin, e = .returned (.tuple #[.slice A1 l.length c1, .slice A2 1 c2, .slice A3 n3 c3]) ∧ (runF (yd1 (b0 s)) l).2.texts = [fin] ∧ (runF (yd1 (b0 s)) l).1.length = l.length ∧ Reads Td.cells 4 w' A1 (runF (yd1 (b0 s)) l).1 ∧ Reads strC 1 w' A2 [fin] ∧ Fr (fun _ => False) w w' ∧ l.length ≤ c1 ∧ (∀ r o, A1 = some ⟨r, o, none⟩ → w.heap.size ≤ r) ∧ (∀ r o, A2 = some ⟨r, o, none⟩ → w.heap.size ≤ r)
theorem run1_any (s : St) (l : List Cl) (A A' : Option Addr) (c c' : Nat) (ea eu : Addr) (w : World) (hR : Reads St.cells 3 w A [s]) (hs : s.text.length ≤ 1099511627776 ∧ s.space ≤ 65535) (hC : Reads Cl.cells 9 w A' l) (hP : Play1 w s l) (hG : Gl w.heap.size ea eu w) :
    Calls Tryz.prog 12 #[.slice A 1 c, .int .u8 0, .slice A' l.length c'] w (Run1Post w s l) := by
  have hrun := run_any [s] 0 A c l A' c' ea eu w hR (fun x hx => by simp at hx; subst hx; exact hs) (by simp) (by omega) hC ⟨hP.ok, fun x hx => first_plays (hP.first x hx), fun x hx => first_there (hP.first x hx) _⟩ hP.mild (fun i x hx => by
    rw [begin_b0] at hx
    cases i with
    | zero =>
      simp [yd1] at hx
      subst hx
      simp [b0]
    | succ i => simp [yd1] at hx) hP.few (by
      have e : (Yd.begin [s] 0).tot = s.text.length := by simp [begin_b0, Yd.tot, Yd.texts, tsum, yd1, b0]
      rw [e]
      exact hP.sz) hG
  refine Calls.mono hrun ?_
  rintro e w' ⟨v1, v2, v3, rfl, h1, h2, h3, hf⟩
  obtain ⟨b', e'⟩ := run_one l (b0 s) (fun x hx => (hP.first x hx).one)
  rw [begin_b0] at h1 h2 h3
  rw [e'] at h2 h3
  have hlen := Mild.len l _ hP.mild
  obtain ⟨A1, c1, rfl⟩ := h1.value
  obtain ⟨A2, c2, rfl⟩ := h2.value
  obtain ⟨A3, c3, rfl⟩ := h3.value
  have h2' : Own 9 1 w' w.heap.size (.slice A2 1 c2) 1 (strs [b'.text]) := h2
  rw [← hlen] at h1
  have hcap : l.length ≤ c1 ∧ ∀ r o, A1 = some ⟨r, o, none⟩ → w.heap.size ≤ r := by
    obtain ⟨A', c', e, hle, _, hb⟩ := Own.reads (cells := Td.cells) Td.cells_len (by decide) h1
    injection e with e1 e2 e3
    subst e1
    exact ⟨by omega, fun r o q => (hb r o q).2⟩
  have hnew : ∀ r o, A2 = some ⟨r, o, none⟩ → w.heap.size ≤ r := by
    have h2s := h2'
    rw [strs_flat] at h2s
    obtain ⟨A', c', e, _, _, hb⟩ := Own.reads (cells := strC) (fun _ => rfl) (by decide) h2s
    injection e with e1 e2 e3
    subst e1
    exact fun r o q => (hb r o q).2
  refine ⟨A1, c1, A2, c2, A3, _, c3, b'.text, rfl, by rw [e']; rfl, hlen, Own.readsAt Td.cells_len (by decide) h1, Own.readsStrs h2', hf, hcap.1, hcap.2, hnew⟩
end Go.Proofs.YtbodbajgpgaoeaaGreatDoor

namespace Go.Proofs.YtbodbajgpgaoeaaGreatDoor
open Go Go.RowKit

theorem bsC_ok (w : World) : ClOk w bsC := ⟨by decide, ⟨(by intro x h; cases h), (by intro h; cases h)⟩, by decide, by decide⟩
theorem bsC_first : bsC.first := ⟨rfl, .inl (by decide)⟩
theorem read_first {c : Cl} (ha : c.a = 0) (h : c.isRead) : c.first := ⟨ha, .inl (by unfold Cl.isRead at h; omega)⟩
theorem Play1.append {w : World} {s : St} {l m : List Cl} (h : Play1 w s l) (hm : Mild (runF (yd1 (b0 s)) l).2 m) (hf : ∀ c ∈ m, c.first) (ho : ∀ c ∈ m, ClOk w c) (hs : s.text.length + wsum l + wsum m + 66000 ≤ 1099511627776) (hn : l.length + m.length ≤ 4294967296) : Play1 w s (l ++ m) := by
  refine ⟨Mild.append l m _ h.mild hm, fun c hc => ?_, fun c hc => ?_, ?_, ?_⟩
  · rcases List.mem_append.mp hc with k | k
    · exact h.first c k
    · exact hf c k
  · rcases List.mem_append.mp hc with k | k
    · exact h.ok c k
    · exact ho c k
  · rw [wsum_append]; omega
  · rw [List.length_append]; exact hn
theorem Reads.left {α : Type} {cells : α → List Value} {size : Nat} {w : World} {A : Option Addr} {xs ys : List α} (h : Reads cells size w A (xs ++ ys)) : Reads cells size w A xs :=
  ⟨fun j x hx => h.at' j x (by rw [List.getElem?_append_left (List.getElem?_eq_some_iff.1 hx).1]; exact hx)⟩
theorem Reads.right {α : Type} {cells : α → List Value} {size r o : Nat} {w : World} {xs ys : List α} (h : Reads cells size w (some ⟨r, o, none⟩) (xs ++ ys)) : Reads cells size w (some ⟨r, o + xs.length * size, none⟩) ys := by
  refine ⟨fun j x hx => ?_⟩
  obtain ⟨r', o', e, hc⟩ := h.at' (xs.length + j) x (by rw [List.getElem?_append_right (by omega), Nat.add_sub_cancel_left]; exact hx)
  injection e with e
  injection e with e1 e2
  subst e1 e2
  refine ⟨r, _, rfl, fun k v hv => ?_⟩
  have := hc k v hv
  rw [Nat.add_mul, ← Nat.add_assoc] at this
  exact this
theorem info_toldU : (Tryz.prog.info? 39).map (fun i => (i.zero, i.size, i.bytes)) = some (some (.agg #[.int .i64 0, .string ⟨#[]⟩, .int .i32 0, .int .i64 0]), 4, 40) := by kernel_rfl
theorem cl_one (c : Cl) : ∀ u ∈ c.cells, u.oneCell' = true := by simp [Cl.cells, Value.oneCell']
section
variable {α : Type} {cells : α → List Value} {P : Program} {w : World} {ops : Array Oper} {rest : List Oper} {o : Oper} {a : Act} {Q : Exit → Act → World → Prop} {T E : TypeId} {size bytes : Nat}
theorem wpList_copy (ok : ElemOk P T E size bytes) (hs : ∀ x, (cells x).length = size) (h1 : ∀ x, ∀ u ∈ cells x, u.oneCell' = true) (hgd : o.guard = none) (s x : Operand) (ho : o.op = .call { callee := .builtin .append, args := #[s, x], argTypes := #[T, T] })
    (base : Nat) (v : Value) (n : Nat) (xs : List Value) (A : Option Addr) (c : Nat) (ys : List α) (hv : a.eval s = v) (hx : a.eval x = .slice A ys.length c) (hown : Own E size w base v n xs) (hr : Reads cells size w A ys) (hA : A = none → ys = [] ∧ c = 0) (hn : n + ys.length ≤ 8589934592) (hbase : base ≤ w.heap.size)
    (h : ∀ v' w', Own E size w' base v' (n + ys.length) (xs ++ ys.flatMap cells) → Fr (fun x => v.ownBlock = some x) w w' → (v'.ownBlock = v.ownBlock ∨ v'.ownBlock = some w.heap.size) → wpList P ops Q rest (a.put o.dst v') w') :
    wpList P ops Q (o :: rest) a w := by
  obtain ⟨v', w', hrun, k1, k2, k3⟩ := run_copy ok hs h1 o.type hown hr hA hn hbase
  exact wpList_plain hgd fun _ hK => wp_append_of_run s x T T ho hv hx hrun (hK _ _ (h v' w' k1 k2 k3))
end
theorem two_blocks (w : World) (o0 o1 : Obj) : ((w.alloc o0).alloc o1).heap[w.heap.size]? = some o0 ∧ ((w.alloc o0).alloc o1).heap[w.heap.size + 1]? = some o1 := by
  have h1 := heap_alloc_new (w.alloc o0) o1
  have h0 := ((Fr.refl (fun _ => False) _).alloc o1).blk (heap_alloc_new w o0) (fun q => q)
  simp only [World.size_alloc] at h0 h1
  exact ⟨h0, h1⟩
theorem slice_str_to (l : List UInt8) (b : Nat) (hb : b ≤ l.length) (w : World) : (Instr.slice 9 (.string ⟨l.toArray⟩) none (some (.int .i64 (b : Int))) none).run Tryz.prog w = .ok (.string ⟨(l.take b).toArray⟩) w := by
  have h2 : (b : Int) ≤ (l.length : Int) := by omega
  have hsz : (ByteArray.mk l.toArray).size = l.length := by show l.toArray.size = _; simp
  simp [Instr.slice, run_underlying Tryz.underlying9, Instr.sliceBounds, run_sliceBound, sizeOf, typeInfo, h2, ext_mid, hsz]
end Go.Proofs.YtbodbajgpgaoeaaGreatDoor
