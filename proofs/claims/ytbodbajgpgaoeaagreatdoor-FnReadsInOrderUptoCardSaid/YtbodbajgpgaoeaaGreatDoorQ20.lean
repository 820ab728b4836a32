/- SpecI, SpecK, OrdP, ErlP. -/
import Derived.Test.YtbodbajgpgaoeaaGreatDoorQ19
import Derived.Test.YtbodbajgpgaoeaaGreatDoorQ17
namespace Go.Proofs.YtbodbajgpgaoeaaGreatDoor
open Go Go.RowKit

/-- The calls of the first buffer that the laws play. -/
def Cl.first (c : Cl) : Prop := c.a = 0 ∧ (c.op < 23 ∨ c.op = 26 ∨ (c.op = 27 ∧ c.n = 0))
theorem Cl.first.one {c : Cl} (h : c.first) : c.one := ⟨h.1, by have := h.2; omega⟩
theorem sp_Do (b : SB) (c : Cl) (A1 : Option Addr) (c1 : Nat) (A2 : Option Addr) (c2 : Nat) (w : World) (hY : YV w A1 1 c1 A2 0 c2 (yd1 b)) (hc : c.first) (hg : b.good) (hl : b.text.length + c.text.length + 8 ≤ 1099511627776) (hs : c.size ≤ 65535) :
    Calls Tryz.prog 30 #[.agg #[.slice A1 1 c1, .slice A2 0 c2], c.val] w (YPost w A1 A2 ((yd1 b).do c)) := by
  obtain ⟨ha, hop⟩ := hc
  by_cases h1 : c.op < 1
  · rw [yd1_do0 b c h1]
    obtain ⟨op, a, bb, size, n, sign, char, ctext, cuts, ad, cap⟩ := c
    simp only at ha h1
    subst ha
    exact spg_none A1 c1 A2 c2 op bb size n sign char ctext cuts ad cap w (yd1 b) h1 hY
  by_cases h2 : c.op < 23
  · rw [yd1_do b c ha (by omega) h2]
    have hd := fun wx => sp_do b c wx (by omega) h2 hg hl hs
    generalize b.do c = r at *
    obtain ⟨R, T, O⟩ := r
    obtain ⟨op, a, bb, size, n, sign, char, ctext, cuts, ad, cap⟩ := c
    obtain ⟨text, recent, last, begun⟩ := b
    simp only at ha h1 h2
    subst ha
    exact spg_buf A1 c1 A2 c2 op bb size n sign char ctext cuts ad cap w text recent last begun (by omega) (by omega) (by omega) (by omega) hY R T O hd
  by_cases h26 : c.op = 26
  · rw [yd1_drain b c ha h26]
    obtain ⟨op, a, bb, size, n, sign, char, ctext, cuts, ad, cap⟩ := c
    obtain ⟨text, recent, last, begun⟩ := b
    simp only at ha h26 hs hl
    subst ha h26
    simp only
    split
    · rename_i hq
      exact spg_flow A1 c1 A2 c2 26 bb size n sign char ctext cuts ad cap w text recent last begun (by omega) (by omega) (by omega) (by omega) hY _ _ _ (fun g d1 B2 d2 wx x0 x1 x2 x3 xz => spf_26x d1 B2 d2 bb size n sign char ctext cuts ad cap g text recent last begun wx x0 x1 x2 x3 xz hs hq)
    · rename_i hq
      exact spg_flow A1 c1 A2 c2 26 bb size n sign char ctext cuts ad cap w text recent last begun (by omega) (by omega) (by omega) (by omega) hY _ _ _ (fun g d1 B2 d2 wx x0 x1 x2 x3 xz => spf_26 d1 B2 d2 bb size n sign char ctext cuts ad cap g text recent last begun wx x0 x1 x2 x3 xz hs hq)
  · have h27 : c.op = 27 ∧ c.n = 0 := by omega
    rw [yd1_fill b c ha h27.1]
    obtain ⟨op, a, bb, size, n, sign, char, ctext, cuts, ad, cap⟩ := c
    obtain ⟨text, recent, last, begun⟩ := b
    simp only at ha h27 hs hl
    obtain ⟨h27, hn⟩ := h27
    subst ha h27 hn
    simp only
    exact spg_flow A1 c1 A2 c2 27 bb size 0 sign char ctext cuts ad cap w text recent last begun (by omega) (by omega) (by omega) (by omega) hY _ _ _ (fun g d1 B2 d2 wx x0 x1 x2 x3 xz => spf_27 d1 B2 d2 bb size sign char ctext cuts ad cap g text recent last begun wx x0 x1 x2 x3 xz (by omega))
/-- A yard of one builder. -/
def yb1 (s : List UInt8) : Yd := ⟨[], [s]⟩
end Go.Proofs.YtbodbajgpgaoeaaGreatDoor

namespace Go.Proofs.YtbodbajgpgaoeaaGreatDoor
open Go Go.RowKit

theorem Reads.blk_lt {α : Type} {cells : α → List Value} {size : Nat} {w : World} {A : Option Addr} {xs : List α} (h : Reads cells size w A xs) (hn : xs ≠ []) (hc : ∀ x, ∃ v, (cells x)[0]? = some v) (r o : Nat) (s : Option Nat) (hA : A = some ⟨r, o, s⟩) : r < w.heap.size := by
  cases xs with
  | nil => exact absurd rfl hn
  | cons x xs =>
    obtain ⟨r', o', e, k⟩ := h.at' 0 x rfl
    obtain ⟨v, hv⟩ := hc x
    rw [hA] at e
    injection e with e
    injection e with e1 e2 e3
    subst e1
    exact World.block_lt_of_cell? _ _ (k 0 v hv)
theorem YV.fr' {S : Nat → Prop} {w w' : World} {A1 : Option Addr} {n1 c1 : Nat} {A2 : Option Addr} {n2 c2 : Nat} {y : Yd} (h : YV w A1 n1 c1 A2 n2 c2 y) (hf : Fr S w w') (h1 : y.bufs ≠ [] → ∀ r o s, A1 = some ⟨r, o, s⟩ → ¬ S r) (h2 : y.blds ≠ [] → ∀ r o s, A2 = some ⟨r, o, s⟩ → ¬ S r) : YV w' A1 n1 c1 A2 n2 c2 y := by
  refine ⟨h.l1, h.l2, ?_, ?_, h.z1, h.z2⟩
  · by_cases hb : y.bufs = []
    · rw [hb]
      exact Reads.nil _ _ _ _
    · exact h.r1.fr hf (fun r o q => h1 hb r o none q)
  · by_cases hb : y.blds = []
    · rw [hb]
      exact Reads.nil _ _ _ _
    · exact h.r2.fr hf (fun r o q => h2 hb r o none q)
theorem YV.lt1 {w : World} {A1 : Option Addr} {n1 c1 : Nat} {A2 : Option Addr} {n2 c2 : Nat} {y : Yd} (h : YV w A1 n1 c1 A2 n2 c2 y) (hb : y.bufs ≠ []) (r o : Nat) (s : Option Nat) (hA : A1 = some ⟨r, o, s⟩) : r < w.heap.size := h.r1.blk_lt hb (fun _ => ⟨_, rfl⟩) r o s hA
theorem YV.lt2 {w : World} {A1 : Option Addr} {n1 c1 : Nat} {A2 : Option Addr} {n2 c2 : Nat} {y : Yd} (h : YV w A1 n1 c1 A2 n2 c2 y) (hb : y.blds ≠ []) (r o : Nat) (s : Option Nat) (hA : A2 = some ⟨r, o, s⟩) : r < w.heap.size := h.r2.blk_lt hb (fun _ => ⟨_, rfl⟩) r o s hA
theorem sbs_nil {l : List SB} (h : sbs l = []) : l = [] := by
  cases l with
  | nil => rfl
  | cons x l => simp [sbs, SB.cells] at h
theorem strs_nil {l : List (List UInt8)} (h : strs l = []) : l = [] := by
  cases l with
  | nil => rfl
  | cons x l => simp [strs] at h
/-- What Begin returns, as a yard. -/
theorem YV.of_copy {w : World} {base : Nat} {A1 : Option Addr} {c1 : Nat} {A2 : Option Addr} {c2 : Nat} {y : Yd} (o1 : Own 81 4 w base (.slice A1 y.bufs.length c1) y.bufs.length (sbs y.bufs)) (o2 : Own 9 1 w base (.slice A2 y.blds.length c2) y.blds.length (strs y.blds)) : YV w A1 y.bufs.length c1 A2 y.blds.length c2 y :=
  ⟨rfl, rfl, Own.readsAt SB.cells_len (by decide) o1, Own.readsStrs o2, fun q => ⟨sbs_nil (Own.zero o1 q).1, (Own.zero o1 q).2⟩, fun q => ⟨strs_nil (Own.zero o2 q).1, (Own.zero o2 q).2⟩⟩
/-- How far Calm has come. -/
structure CmI (w wr : World) (H : Nat) (cs full : List Cl) (Inv : Yd → List Cl → Prop) (v8 : Value) (y : Yd) (A1 : Option Addr) (n1 c1 : Nat) (A2 : Option Addr) (n2 c2 : Nat) (out : List Cl) : Prop where
  eq : full = out ++ calmF y cs
  inv : Inv y cs
  yb : wr.heap[H]? = some (.cells #[.slice A1 n1 c1, .slice A2 n2 c2] 59 (0, 0))
  yv : YV wr A1 n1 c1 A2 n2 c2 y
  own : OwnC wr w.heap.size v8 out
  r1 : y.bufs ≠ [] → ∀ r o s, A1 = some ⟨r, o, s⟩ → r ≠ H ∧ v8.ownBlock ≠ some r
  r2 : y.blds ≠ [] → ∀ r o s, A2 = some ⟨r, o, s⟩ → r ≠ H ∧ v8.ownBlock ≠ some r
  hH : w.heap.size ≤ H
  fr : Fr (fun _ => False) w wr
def CalmPost (w : World) (l : List Cl) (e : Ending) (w' : World) : Prop := ∃ v, e = .returned v ∧ OwnC w' w.heap.size v l ∧ Fr (fun _ => False) w w'
/-- What Do does at each call of a script. -/
def StepOk (Inv : Yd → List Cl → Prop) : Prop := ∀ y c l, Inv y (c :: l) → Inv y l ∧ Inv (y.do c).1 l ∧ (y.bufs = [] → (y.do c).1.bufs = []) ∧ (y.blds = [] → (y.do c).1.blds = []) ∧
  ∀ A1 n1 c1 A2 n2 c2 wx, YV wx A1 n1 c1 A2 n2 c2 y → Calls Tryz.prog 30 #[.agg #[.slice A1 n1 c1, .slice A2 n2 c2], c.val] wx (YPost wx A1 A2 (y.do c))
set_option maxHeartbeats 3200000 in
set_option maxRecDepth 100000 in
theorem calm_any (Inv : Yd → List Cl → Prop) (hstep : StepOk Inv) (starts : List St) (nb : Nat) (A : Option Addr) (c : Nat) (cs : List Cl) (A' : Option Addr) (c' : Nat) (w : World) (hR : Reads St.cells 3 w A starts) (hn : starts.length ≤ 4294967296) (hnb : nb ≤ 255) (hC : Reads Cl.cells 9 w A' cs) (hcl : cs.length ≤ 4294967296) (hI : Inv (Yd.begin starts nb) cs) :
    Calls Tryz.prog 17 #[.slice A starts.length c, .int .u8 (nb : Int), .slice A' cs.length c'] w (CalmPost w (calmF (Yd.begin starts nb) cs)) := by
  have HSTEP := Lib.hid hstep
  have HR := Lib.hid hR
  have HC := Lib.hid hC
  have HI := Lib.hid hI
  clear hstep hR hC hI
  unfold CalmPost
  obtain ⟨full, hfull⟩ : ∃ full, full = calmF (Yd.begin starts nb) cs := ⟨_, rfl⟩
  rw [← hfull]
  have HFULL := Lib.hid hfull
  clear hfull
  go_enter Tryz.func17, Tryz.ntmps17
  go_wp2_with fail
  refine (sp_begin starts nb A c w HR.out hn hnb).mono ?_
  rintro e w1 ⟨v1, v2, rfl, o1, o2, F1⟩
  generalize hy0 : Yd.begin starts nb = y0 at *
  obtain ⟨A1, c1, rfl⟩ := o1.value
  obtain ⟨A2, c2, rfl⟩ := o2.value
  have HF1 := Lib.hid F1
  have HYV := Lib.hid (YV.of_copy o1 o2)
  have HFA := Lib.hid (fun r o s (q : A1 = some ⟨r, o, s⟩) => own_fresh o1 r o s q)
  have HFB := Lib.hid (fun r o s (q : A2 = some ⟨r, o, s⟩) => own_fresh o2 r o s q)
  have HY0 := Lib.hid hy0
  clear F1 o1 o2 hy0
  go_wp2_with fail
  obtain ⟨H, hH⟩ : ∃ H, H = w1.heap.size := ⟨_, rfl⟩
  have hb1 := heap_alloc_new w1 (.cells #[.slice A1 y0.bufs.length c1, .slice A2 y0.blds.length c2] 59)
  have hz1 := HF1.out.size
  have hcm : CmI w ((w1.alloc (.cells #[.slice A1 y0.bufs.length c1, .slice A2 y0.blds.length c2] 59)).alloc (.cells #[] 36)) H cs full Inv (.slice (some ⟨H + 1, 0, none⟩) 0 0) y0 A1 y0.bufs.length c1 A2 y0.blds.length c2 [] := by
    have hl1 := fun h r o s q => HYV.out.lt1 h r o s q
    have hl2 := fun h r o s q => HYV.out.lt2 h r o s q
    refine ⟨by rw [HFULL.out]; rfl, HI.out, ?_, HYV.out.fr (((Fr.refl (fun _ => False) w1).alloc _).alloc _), ?_, ?_, ?_, by omega, (HF1.out.alloc _).alloc _⟩
    · rw [hH]
      exact ((Fr.refl (fun _ => False) _).alloc _).blk hb1 (fun q => q)
    · have := Own.empty 36 9 (w1.alloc (.cells #[.slice A1 y0.bufs.length c1, .slice A2 y0.blds.length c2] 59)) (base := w.heap.size) (by rw [World.size_alloc]; omega)
      rw [World.size_alloc, ← hH] at this
      exact this
    · intro h r o s q
      have := hl1 h r o s q
      refine ⟨by omega, fun e => ?_⟩
      have e := own_at e
      omega
    · intro h r o s q
      have := hl2 h r o s q
      refine ⟨by omega, fun e => ?_⟩
      have e := own_at e
      omega
  have HCM := Lib.hid hcm
  have HHH := Lib.hid hH
  clear hcm hb1 hz1
  rw [← hH]
  clear hH
  go_loopw [8, 20] (fun v8 v20 wr => ∃ (k : Nat) (y : Yd) (A1 : Option Addr) (n1 c1 : Nat) (A2 : Option Addr) (n2 c2 : Nat) (out : List Cl), k ≤ cs.length ∧ v20 = .int .i64 (k : Int) ∧ out.length ≤ k ∧ CmI w wr H (cs.drop k) full Inv v8 y A1 n1 c1 A2 n2 c2 out) (fun _ v20 _ => cs.length - (intOf v20).toNat)
  case atStart => exact ⟨0, y0, _, _, _, _, _, _, [], Nat.zero_le _, rfl, Nat.zero_le _, HCM.out⟩
  case round =>
    obtain ⟨k, y, A1, n1, c1, A2, n2, c2, out, hk, rfl, hout, hM⟩ := hrel
    have HM := Lib.hid hM
    by_cases hlt : k < cs.length
    · obtain ⟨d, hd⟩ : ∃ d, cs[k]? = some d := ⟨_, List.getElem?_eq_getElem hlt⟩
      obtain ⟨r, o, e1, hc⟩ := HC.out.at' k d hd
      subst e1
      have hdrop : cs.drop k = d :: cs.drop (k + 1) := by
        obtain ⟨hl, e⟩ := List.getElem?_eq_some_iff.1 hd
        rw [List.drop_eq_getElem_cons hl, e]
      have hinv := hM.inv
      have heq := hM.eq
      rw [hdrop] at hinv heq
      obtain ⟨s1, s2, s3, s4, s5⟩ := HSTEP.out y d (cs.drop (k + 1)) hinv
      have hq : ∀ j u, (Cl.cells d)[j]? = some u → wr.cell? ⟨r, o + k * 9 + j, none⟩ = some u := fun j u hu => (hM.fr.cell (World.block_lt_of_cell? _ _ (hc j u hu)) (fun q => q)).trans (hc j u hu)
      have hyv := hM.yv
      have hyb := hM.yb
      obtain ⟨A8, q8, rfl⟩ := hM.own.value
      have hHl : H < wr.heap.size := lt_of_blk hyb
      have hcall : ∀ w', Fr (fun _ => False) wr w' → Calls Tryz.prog 30 #[.agg #[.slice A1 n1 c1, .slice A2 n2 c2], d.val] w' (YPost w' A1 A2 (y.do d)) := fun w' hf => s5 A1 n1 c1 A2 n2 c2 w' (hyv.fr hf)
      unfold YPost at hcall
      generalize hres : y.do d = res at *
      obtain ⟨y', ⟨tn, ttx, tc, tsd⟩, ob⟩ := res
      simp only at s2 s3 s4 hcall
      have hcalm : calmF y (d :: cs.drop (k + 1)) = if ob = true ∧ tsd ≠ 3 then d :: calmF y' (cs.drop (k + 1)) else calmF y (cs.drop (k + 1)) := by
        simp only [calmF, hres]
      rw [hcalm] at heq
      have y0c : wr.cell? ⟨H, 0, none⟩ = some (.slice A1 n1 c1) := by rw [cell_of_row wr _ 0 _ _ _ hyb]; rfl
      have y1c : wr.cell? ⟨H, 1, none⟩ = some (.slice A2 n2 c2) := by rw [cell_of_row wr _ 1 _ _ _ hyb]; rfl
      obtain ⟨op, ca, cb, csize, cn, csign, cchar, ctext, ccuts, cad, ccap⟩ := d
      have c0 := hq 0 _ rfl
      have c1' := hq 1 _ rfl
      have c2' := hq 2 _ rfl
      have c3' := hq 3 _ rfl
      have c4 := hq 4 _ rfl
      have c5 := hq 5 _ rfl
      have c6 := hq 6 _ rfl
      have c7 := hq 7 _ rfl
      have c8 := hq 8 _ rfl
      simp only [Nat.add_zero] at c0
      have hki : (k : Int) < (cs.length : Int) := by omega
      have hk0 : (0 : Int) ≤ (k : Int) := by omega
      have hm0 : ¬ (H = wr.heap.size) := by omega
      have hm1 : ¬ (wr.heap.size = H) := by omega
      simp only [Cl.val, Cl.cells, Td.val, Td.cells] at hcall
      have HCALL := Lib.hid hcall
      have HEQ := Lib.hid heq
      have HS1 := Lib.hid s1
      have HS2 := Lib.hid s2
      have HS3 := Lib.hid s3
      have HS4 := Lib.hid s4
      have HYB := Lib.hid hyb
      clear hcall heq s1 s2 s3 s4 s5 hinv hd hc hq hM hyv hyb hres hcalm hdrop
      go_wp2_with fail
      refine (HCALL.out _ ((Fr.refl _ wr).alloc _)).mono ?_
      rintro e w3 ⟨B1, m1, k1, B2, m2, k2, rfl, hyv', F3, hf1, hf2⟩
      have hFw := ((Fr.refl (fun _ => False) wr).alloc (.cells #[.int .i64 op, .int .i64 ca, .int .i64 cb, .int .u16 (csize : Int), .int .i64 cn, .int .u8 (csign.toNat : Int), .int .i32 cchar, .string ⟨ctext.toArray⟩, .slice cad ccuts.length ccap] 36)).trans F3
      have hb10 := F3.blk (heap_alloc_new wr (.cells #[.int .i64 op, .int .i64 ca, .int .i64 cb, .int .u16 (csize : Int), .int .i64 cn, .int .u8 (csign.toNat : Int), .int .i32 cchar, .string ⟨ctext.toArray⟩, .slice cad ccuts.length ccap] 36)) (fun q => q)
      have hsz3 := F3.size
      rw [World.size_alloc] at hsz3 hf1 hf2
      have HYV3 := Lib.hid hyv'
      have HFW := Lib.hid hFw
      have HB10 := Lib.hid hb10
      have HFA1 := Lib.hid hf1
      have HFA2 := Lib.hid hf2
      clear hyv' F3 hFw hb10 hf1 hf2 y0c y1c c0 c1' c2' c3' c4 c5 c6 c7 c8
      by_cases hq : ob = true ∧ tsd ≠ 3
      · obtain ⟨rfl, hts⟩ := hq
        have hne : (tsd != 3) = true := by simpa using hts
        have heq2 := HEQ.out
        rw [if_pos ⟨rfl, hts⟩] at heq2
        have HEQ2 := Lib.hid heq2
        clear heq2 hts
        go_wp2_with fail
        obtain ⟨w4, hw4⟩ : ∃ w4, w4 = (w3.alloc (.cells #[.slice B1 m1 k1, .slice B2 m2 k2] 59)).alloc (.cells #[.int .i64 tn, .string ⟨ttx.toArray⟩, .int .i32 tc, .int .i64 tsd] 39) := ⟨_, rfl⟩
        have F34 : Fr (fun _ => False) w3 w4 := by rw [hw4]; exact ((Fr.refl (fun _ => False) w3).alloc _).alloc _
        have hb11 : w4.heap[w3.heap.size]? = some (.cells #[.slice B1 m1 k1, .slice B2 m2 k2] 59 (0, 0)) := by rw [hw4]; exact ((Fr.refl (fun _ => False) _).alloc _).blk (heap_alloc_new w3 _) (fun q => q)
        have hb10 := F34.blk HB10.out (fun q => q)
        have F4 := HFW.out.trans F34
        have hybH := F4.blk HYB.out (fun q => q)
        have hown4 := HM.out.own.fr F4 (fun _ _ q => q)
        have hs34 : w4.heap.size = w3.heap.size + 1 + 1 := by rw [hw4]; simp only [World.size_alloc]
        have hz := HM.out.fr.size
        rw [← hw4]
        have d0 : w4.cell? ⟨wr.heap.size, 0, none⟩ = some (.int .i64 op) := by rw [cell_of_row w4 _ 0 _ _ _ hb10]; rfl
        have d1 : w4.cell? ⟨wr.heap.size, 1, none⟩ = some (.int .i64 ca) := by rw [cell_of_row w4 _ 1 _ _ _ hb10]; rfl
        have d2 : w4.cell? ⟨wr.heap.size, 2, none⟩ = some (.int .i64 cb) := by rw [cell_of_row w4 _ 2 _ _ _ hb10]; rfl
        have d3 : w4.cell? ⟨wr.heap.size, 3, none⟩ = some (.int .u16 (csize : Int)) := by rw [cell_of_row w4 _ 3 _ _ _ hb10]; rfl
        have d4 : w4.cell? ⟨wr.heap.size, 4, none⟩ = some (.int .i64 cn) := by rw [cell_of_row w4 _ 4 _ _ _ hb10]; rfl
        have d5 : w4.cell? ⟨wr.heap.size, 5, none⟩ = some (.int .u8 (csign.toNat : Int)) := by rw [cell_of_row w4 _ 5 _ _ _ hb10]; rfl
        have d6 : w4.cell? ⟨wr.heap.size, 6, none⟩ = some (.int .i32 cchar) := by rw [cell_of_row w4 _ 6 _ _ _ hb10]; rfl
        have d7 : w4.cell? ⟨wr.heap.size, 7, none⟩ = some (.string ⟨ctext.toArray⟩) := by rw [cell_of_row w4 _ 7 _ _ _ hb10]; rfl
        have d8 : w4.cell? ⟨wr.heap.size, 8, none⟩ = some (.slice cad ccuts.length ccap) := by rw [cell_of_row w4 _ 8 _ _ _ hb10]; rfl
        have g0 : w4.cell? ⟨w3.heap.size, 0, none⟩ = some (.slice B1 m1 k1) := by rw [cell_of_row w4 _ 0 _ _ _ hb11]; rfl
        have g1 : w4.cell? ⟨w3.heap.size, 1, none⟩ = some (.slice B2 m2 k2) := by rw [cell_of_row w4 _ 1 _ _ _ hb11]; rfl
        have hnd : ∀ b, b = wr.heap.size ∨ b = w3.heap.size → ¬ ((Value.slice A8 out.length q8).ownBlock = some b ∨ w4.heap.size ≤ b ∨ b = H) := by
          intro b hb q
          rcases q with q | q | q
          · have := HM.out.own.blk_lt q
            omega
          · omega
          · omega
        have HS := Lib.hid (show ∀ w', Fr (fun x => (Value.slice A8 out.length q8).ownBlock = some x ∨ w4.heap.size ≤ x ∨ x = H) w4 w' → (w'.cell? ⟨wr.heap.size, 0, none⟩ = some (.int .i64 op) ∧ w'.cell? ⟨wr.heap.size, 1, none⟩ = some (.int .i64 ca) ∧ w'.cell? ⟨wr.heap.size, 2, none⟩ = some (.int .i64 cb) ∧ w'.cell? ⟨wr.heap.size, 3, none⟩ = some (.int .u16 (csize : Int)) ∧ w'.cell? ⟨wr.heap.size, 4, none⟩ = some (.int .i64 cn) ∧ w'.cell? ⟨wr.heap.size, 5, none⟩ = some (.int .u8 (csign.toNat : Int)) ∧ w'.cell? ⟨wr.heap.size, 6, none⟩ = some (.int .i32 cchar) ∧ w'.cell? ⟨wr.heap.size, 7, none⟩ = some (.string ⟨ctext.toArray⟩) ∧ w'.cell? ⟨wr.heap.size, 8, none⟩ = some (.slice cad ccuts.length ccap) ∧ w'.cell? ⟨w3.heap.size, 0, none⟩ = some (.slice B1 m1 k1) ∧ w'.cell? ⟨w3.heap.size, 1, none⟩ = some (.slice B2 m2 k2)) from fun w' F => ⟨(F.cell (World.block_lt_of_cell? _ _ d0) (hnd wr.heap.size (.inl rfl))).trans d0, (F.cell (World.block_lt_of_cell? _ _ d1) (hnd wr.heap.size (.inl rfl))).trans d1, (F.cell (World.block_lt_of_cell? _ _ d2) (hnd wr.heap.size (.inl rfl))).trans d2, (F.cell (World.block_lt_of_cell? _ _ d3) (hnd wr.heap.size (.inl rfl))).trans d3, (F.cell (World.block_lt_of_cell? _ _ d4) (hnd wr.heap.size (.inl rfl))).trans d4, (F.cell (World.block_lt_of_cell? _ _ d5) (hnd wr.heap.size (.inl rfl))).trans d5, (F.cell (World.block_lt_of_cell? _ _ d6) (hnd wr.heap.size (.inl rfl))).trans d6, (F.cell (World.block_lt_of_cell? _ _ d7) (hnd wr.heap.size (.inl rfl))).trans d7, (F.cell (World.block_lt_of_cell? _ _ d8) (hnd wr.heap.size (.inl rfl))).trans d8, (F.cell (World.block_lt_of_cell? _ _ g0) (hnd w3.heap.size (.inr rfl))).trans g0, (F.cell (World.block_lt_of_cell? _ _ g1) (hnd w3.heap.size (.inr rfl))).trans g1⟩)
        have h34 : w3.heap.size < w4.heap.size := by omega
        have hw4s : w.heap.size ≤ w4.heap.size := by omega
        have hneH : ∀ x, (Value.slice A8 out.length q8).ownBlock = some x → x ≠ H := fun x hx => hown4.ne_blk hybH (by decide) hx
        have HNE := Lib.hid hneH
        have HYBH := Lib.hid hybH
        have HOWN4 := Lib.hid hown4
        have HF4 := Lib.hid F4
        have HF34 := Lib.hid F34
        have hh0 : w4.cell? ⟨H, 0, none⟩ = some (.slice A1 n1 c1) := by rw [cell_of_row w4 _ 0 _ _ _ hybH]; rfl
        have hh1 : w4.cell? ⟨H, 1, none⟩ = some (.slice A2 n2 c2) := by rw [cell_of_row w4 _ 1 _ _ _ hybH]; rfl
        clear hs34 hw4 F34 hb11 hb10 F4 hybH hown4 hnd hneH hne
        go_region_held3 (fun w' => w'.cell? ⟨wr.heap.size, 0, none⟩ = some (.int .i64 op) ∧ w'.cell? ⟨wr.heap.size, 1, none⟩ = some (.int .i64 ca) ∧ w'.cell? ⟨wr.heap.size, 2, none⟩ = some (.int .i64 cb) ∧ w'.cell? ⟨wr.heap.size, 3, none⟩ = some (.int .u16 (csize : Int)) ∧ w'.cell? ⟨wr.heap.size, 4, none⟩ = some (.int .i64 cn) ∧ w'.cell? ⟨wr.heap.size, 5, none⟩ = some (.int .u8 (csign.toNat : Int)) ∧ w'.cell? ⟨wr.heap.size, 6, none⟩ = some (.int .i32 cchar) ∧ w'.cell? ⟨wr.heap.size, 7, none⟩ = some (.string ⟨ctext.toArray⟩) ∧ w'.cell? ⟨wr.heap.size, 8, none⟩ = some (.slice cad ccuts.length ccap) ∧ w'.cell? ⟨w3.heap.size, 0, none⟩ = some (.slice B1 m1 k1) ∧ w'.cell? ⟨w3.heap.size, 1, none⟩ = some (.slice B2 m2 k2)) (exact HS.out _ (by (repeat (with_reducible first | exact Fr.refl _ _ | exact HF5.out | refine Fr.setCell ?_ (fun _ => .inr (.inr rfl)) _ | refine Fr.drew ?_ | refine Fr.alloc ?_ _)))) ((refine step_app rfl elem_call (.tmp 37) (.tmp 39) rfl w.heap.size (Value.slice A8 out.length q8) out.length (cls out) (by rfl) (HOWN4.out.fr (((Fr.refl (fun _ => False) w4).alloc _).drew) (fun _ _ q => q)) w4.heap.size (Cl.cells ⟨op, ca, cb, csize, cn, csign, cchar, ctext, ccuts, cad, ccap⟩) 36 (by rfl) (by exact heap_alloc_new w4 _) rfl (by simp [Cl.cells, Value.oneCell']) (by omega) (by simp; omega) ?_; intro gb cap w5 hown hfr hat hltg; have HF5 := Lib.hid (show Fr (fun x => (Value.slice A8 out.length q8).ownBlock = some x ∨ w4.heap.size ≤ x ∨ x = H) w4 w5 from (((Fr.refl (fun x => (Value.slice A8 out.length q8).ownBlock = some x ∨ w4.heap.size ≤ x ∨ x = H) w4).alloc _).drew).trans (hfr.mono (fun _ _ q => .inl q))); have HFR5 := Lib.hid ((((Fr.refl (fun x => (Value.slice A8 out.length q8).ownBlock = some x) w4).alloc _).drew).trans hfr); have HOWN5 := Lib.hid hown; have HAT5 := Lib.hid hat; have hb5 := HFR5.out.blk HYBH.out (fun q => HNE.out _ q rfl); have HB5 := Lib.hid hb5; have h50 : w5.cell? ⟨H, 0, none⟩ = some (.slice A1 n1 c1) := (by rw [cell_of_row w5 _ 0 _ _ _ hb5]; rfl); have h51 : w5.cell? ⟨H, 1, none⟩ = some (.slice A2 n2 c2) := (by rw [cell_of_row w5 _ 1 _ _ _ hb5]; rfl); have z50 := frozen_row hb5 0; have z51 := frozen_row hb5 1; clear hown hfr hat hb5))
        go_wp2_with fail
        go_roundw
        case rel =>
          have J := just2 w5 H (.slice B1 m1 k1) (.slice B2 m2 k2)
          have hat := HAT5.out
          have hsz5 := HFR5.out.size
          have hA1 : y'.bufs ≠ [] → ∀ r o s, B1 = some ⟨r, o, s⟩ → (r ≠ H ∧ (Value.slice A8 out.length q8).ownBlock ≠ some r) ∧ r < w3.heap.size := by
            intro hb r o s q
            refine ⟨?_, HYV3.out.lt1 hb r o s q⟩
            rcases HFA1.out r o s q with h | h
            · refine ⟨by omega, fun q2 => ?_⟩
              have := HM.out.own.blk_lt q2
              omega
            · exact HM.out.r1 (fun e => hb (HS3.out e)) r o s h
          have hA2 : y'.blds ≠ [] → ∀ r o s, B2 = some ⟨r, o, s⟩ → (r ≠ H ∧ (Value.slice A8 out.length q8).ownBlock ≠ some r) ∧ r < w3.heap.size := by
            intro hb r o s q
            refine ⟨?_, HYV3.out.lt2 hb r o s q⟩
            rcases HFA2.out r o s q with h | h
            · refine ⟨by omega, fun q2 => ?_⟩
              have := HM.out.own.blk_lt q2
              omega
            · exact HM.out.r2 (fun e => hb (HS4.out e)) r o s h
          have hgb : ∀ r, (Value.slice A8 out.length q8).ownBlock ≠ some r → r < w3.heap.size → (Value.slice (some ⟨gb, 0, none⟩) (out.length + 1) cap).ownBlock ≠ some r := by
            intro r h1 h2 q
            have q := own_at q
            subst q
            rcases hat with h | h
            · exact h1 h
            · simp only [World.size_drew, World.size_alloc] at h
              omega
          refine ⟨k + 1, y', B1, m1, k1, B2, m2, k2, out ++ [⟨op, ca, cb, csize, cn, csign, cchar, ctext, ccuts, cad, ccap⟩], by omega, by go_num, by simp; omega, ?_⟩
          refine ⟨by rw [HEQ2.out]; simp, HS2.out, ?_, ?_, ?_, fun hb r o s q => ⟨(hA1 hb r o s q).1.1, hgb r (hA1 hb r o s q).1.2 (hA1 hb r o s q).2⟩, fun hb r o s q => ⟨(hA2 hb r o s q).1.1, hgb r (hA2 hb r o s q).1.2 (hA2 hb r o s q).2⟩, HM.out.hH, ?_⟩
          · simp [World.setCell, Array.getElem?_modify, HB5.out]
          · refine YV.fr' (S := fun x => (Value.slice A8 out.length q8).ownBlock = some x ∨ x = H) HYV3.out (((HF34.out.mono (fun _ _ q => q.elim)).trans (HFR5.out.mono (fun _ _ q => .inl q))).trans (J.mono (fun _ _ q => .inr q))) (fun hb r o s q => ?_) (fun hb r o s q => ?_)
            · rintro (h | h)
              · exact (hA1 hb r o s q).1.2 h
              · exact (hA1 hb r o s q).1.1 h
            · rintro (h | h)
              · exact (hA2 hb r o s q).1.2 h
              · exact (hA2 hb r o s q).1.1 h
          · have ho := HOWN5.out.fr J (fun x hx q => HOWN5.out.ne_blk HB5.out (by decide) hx q)
            unfold OwnC
            rw [cls_append, cls_one, List.length_append]
            exact ho
          · have hH := HM.out.hH
            exact ((HM.out.fr.trans HF4.out).trans' HFR5.out (fun x hx q => by have := HM.out.own.blk_ge q; omega)).trans' J (fun x hx q => by have q : x = H := q; omega)
        case measure => simp [intOf]; omega
      · have heq2 := HEQ.out
        rw [if_neg hq] at heq2
        have hMn : CmI w ((w3.alloc (.cells #[.slice B1 m1 k1, .slice B2 m2 k2] 59)).alloc (.cells #[.int .i64 tn, .string ⟨ttx.toArray⟩, .int .i32 tc, .int .i64 tsd] 39)) H (cs.drop (k + 1)) full Inv (.slice A8 out.length q8) y A1 n1 c1 A2 n2 c2 out := by
          have F := (HFW.out.alloc (.cells #[.slice B1 m1 k1, .slice B2 m2 k2] 59)).alloc (.cells #[.int .i64 tn, .string ⟨ttx.toArray⟩, .int .i32 tc, .int .i64 tsd] 39)
          exact ⟨heq2, HS1.out, F.blk HYB.out (fun q => q), HM.out.yv.fr F, HM.out.own.fr F (fun _ _ q => q), HM.out.r1, HM.out.r2, HM.out.hH, HM.out.fr.trans F⟩
        have HMN := Lib.hid hMn
        clear heq2 hMn
        cases ob with
        | false =>
          clear hq
          go_wp2_with fail
          go_roundw
          case rel => exact ⟨k + 1, y, A1, n1, c1, A2, n2, c2, out, by omega, by go_num, by omega, HMN.out⟩
          case measure => simp [intOf]; omega
        | true =>
          have hne : (tsd != 3) = false := by
            by_cases h : tsd = 3
            · simp [h]
            · exact absurd ⟨rfl, h⟩ hq
          clear hq
          go_wp2_with fail
          go_roundw
          case rel => exact ⟨k + 1, y, A1, n1, c1, A2, n2, c2, out, by omega, by go_num, by omega, HMN.out⟩
          case measure => simp [intOf]; omega
    · have hkk : k = cs.length := by omega
      subst hkk
      have heq := hM.eq
      rw [List.drop_length] at heq
      simp only [calmF, List.append_nil] at heq
      subst heq
      obtain ⟨A8, q8, rfl⟩ := hM.own.value
      have HO := Lib.hid hM.own
      have HF := Lib.hid hM.fr
      clear hM
      go_wp2_with fail
      go_ret
      exact ⟨_, rfl, HO.out, HF.out⟩
end Go.Proofs.YtbodbajgpgaoeaaGreatDoor

namespace Go.Proofs.YtbodbajgpgaoeaaGreatDoor
open Go

/-- The call writes a text that it has. -/
def Cl.writes (c : Cl) : Prop := (1 ≤ c.op ∧ c.op ≤ 5) ∨ (28 ≤ c.op ∧ c.op ≤ 31) ∨ (c.op = 27 ∧ c.n = 0)
instance (c : Cl) : Decidable c.writes := by unfold Cl.writes; infer_instance
instance (c : Cl) : Decidable c.isRead := by unfold Cl.isRead; infer_instance
instance (c : Cl) : Decidable c.isBack := by unfold Cl.isBack; infer_instance
/-- The call leaves the bytes of a buffer in their order. -/
def Cl.streams (c : Cl) : Prop := (c.op = 14 ∨ c.op = 17 ∨ c.op = 18 ∨ c.op = 19 ∨ c.op = 20 ∨ c.op = 26) ∨ (c.op < 28 ∧ c.writes) ∨ c.isRead ∨ c.isBack
instance (c : Cl) : Decidable c.streams := by unfold Cl.streams; infer_instance
def wrF (c : Cl) : List UInt8 := if c.writes then textF c else []
def allF (l : List Cl) : List UInt8 := l.flatMap wrF

/-- The bytes that a call returned. -/
def dataF (all : List UInt8) (at' : Nat) (c : Cl) (t : Td) : List UInt8 :=
  if c.op = 8 ∧ t.said = 0 then [t.char.toNat.toUInt8]
  else if c.op = 11 then
    if t.said ≠ 0 then []
    else if t.char = 65533 ∧ t.n = 1 ∧ at' < all.length then (all.drop at').take 1
    else enc t.char
  else t.text
def sizeF (size : Nat) (c : Cl) (t : Td) : Nat := if c.op = 11 then t.n.toNat else size
def backF (at' size : Nat) (c : Cl) (t : Td) : Nat := if c.op = 12 ∧ t.said = 0 then at' - 1 else if c.op = 13 ∧ t.said = 0 then at' - size else at'
def tells (c : Cl) : Prop := c.isRead ∨ c.op = 26
instance (c : Cl) : Decidable (tells c) := by unfold tells; infer_instance
def nextF (all : List UInt8) (at' size : Nat) (c : Cl) (t : Td) : Nat := if tells c then at' + (dataF all at' c t).length else backF at' size c t
structure OrdOk (all : List UInt8) (at' size : Nat) (c : Cl) (t : Td) : Prop where
  b1 : c.op = 12 → t.said = 0 → 1 ≤ at'
  b2 : c.op = 13 → t.said = 0 → size ≤ at'
  le : tells c → at' + (dataF all at' c t).length ≤ all.length
  eq : tells c → (all.drop at').take (dataF all at' c t).length = dataF all at' c t
  n0 : c.op = 11 → 0 ≤ t.n ∧ t.n ≤ 4
def OrdGo (all fin : List UInt8) : List Cl → List Td → Nat → Nat → Prop
  | [], _, at', _ => at' ≤ all.length ∧ all.drop at' = fin
  | c :: l, ts, at', size => ∃ t ts', ts = t :: ts' ∧ OrdOk all at' size c t ∧ at' ≤ all.length ∧ size ≤ 4 ∧ OrdGo all fin l ts' (nextF all at' size c t) (sizeF size c t)
/-- What a buffer has to do with all that was written, and the place that is reached. -/
structure OrdI (b : SB) (W : List UInt8) (at' size : Nat) : Prop where
  le : at' ≤ W.length
  tx : b.text = W.drop at'
  one : b.recent = 1 → 1 ≤ at' ∧ b.last = (W.drop (at' - 1)).take 1
  two : b.recent = 2 → size = b.last.length ∧ 0 < size ∧ size ≤ at' ∧ b.last = (W.drop (at' - size)).take size
  sz : size ≤ 4

theorem OrdI.other {b : SB} {W : List UInt8} {at' size : Nat} {t : List UInt8} (hle : at' ≤ W.length) (ht : t = W.drop at') (hs : size ≤ 4) : OrdI (b.other t) W at' size :=
  ⟨hle, ht, fun q => absurd q (by simp [SB.other]), fun q => absurd q (by simp [SB.other]), hs⟩
theorem drop_app {W s : List UInt8} {k : Nat} (h : k ≤ W.length) : (W ++ s).drop k = W.drop k ++ s := List.drop_append_of_le_length h
theorem OrdI.write {b : SB} {W : List UInt8} {at' size : Nat} (h : OrdI b W at' size) (s : List UInt8) : OrdI (b.write s) (W ++ s) at' size :=
  ⟨by have := h.le; simp; omega, by rw [drop_app h.le, ← h.tx]; rfl, fun q => absurd q (by simp [SB.write]), fun q => absurd q (by simp [SB.write]), h.sz⟩
theorem OrdI.read0 {b : SB} {W : List UInt8} {at' size : Nat} (r : Int) (h : OrdI b W at' size) (size' : Nat) (hs : size' ≤ 4) : OrdI (b.read 0 r) W at' size' := by
  simp only [SB.read, if_true]
  exact ⟨h.le, h.tx, fun q => absurd q (by simp), fun q => absurd q (by simp), hs⟩
theorem OrdI.read1 {b : SB} {W : List UInt8} {at' size n : Nat} {r : Int} (h : OrdI b W at' size) (hn : n ≤ b.text.length) (hr : r = 1 ∨ r = 5) : OrdI (b.read n r) W (at' + n) size := by
  have hl : b.text.length = W.length - at' := by rw [h.tx]; simp
  have hle := h.le
  rcases Nat.eq_zero_or_pos n with h0 | h0
  · subst h0
    exact h.read0 r size h.sz
  have hne : n ≠ 0 := by omega
  unfold SB.read
  rw [if_neg hne]
  refine ⟨by omega, by simp only; rw [h.tx, List.drop_drop], fun q => ⟨by omega, ?_⟩, fun q => by simp only at q; omega, h.sz⟩
  simp only
  rw [if_neg (by omega), h.tx, List.drop_drop]
  congr 2
  omega
theorem OrdI.read2 {b : SB} {W : List UInt8} {at' size n : Nat} (h : OrdI b W at' size) (h0 : 0 < n) (hn : n ≤ b.text.length) (h4 : n ≤ 4) : OrdI (b.read n 2) W (at' + n) n := by
  have hl : b.text.length = W.length - at' := by rw [h.tx]; simp
  have hle := h.le
  have hne : n ≠ 0 := by omega
  unfold SB.read
  rw [if_neg hne]
  refine ⟨by omega, by simp only; rw [h.tx, List.drop_drop], fun q => absurd q (by simp), fun q => ⟨?_, h0, by omega, ?_⟩, h4⟩
  · simp; omega
  · simp only [if_true]
    rw [h.tx]
    congr 2
    omega
theorem OrdI.back {b : SB} {W : List UInt8} {at' size k : Nat} {t : List UInt8} (h : OrdI b W at' size) (hk : k ≤ at') (ht : t = (W.drop (at' - k)).take k ++ b.text) : OrdI (b.other t) W (at' - k) size := by
  refine OrdI.other (by have := h.le; omega) ?_ h.sz
  rw [ht, h.tx]
  have : W.drop at' = (W.drop (at' - k)).drop k := by rw [List.drop_drop]; congr 1; omega
  rw [this, List.take_append_drop]

theorem pre_take {W all rest : List UInt8} {at' n : Nat} (h : W ++ rest = all) (hle : at' ≤ W.length) (hn : n ≤ W.length - at') : (all.drop at').take n = (W.drop at').take n := by
  rw [← h, drop_app hle, List.take_append_of_le_length (by simp; omega)]

/-- What a call does in the order of the bytes. -/
theorem ord_read {all W rest : List UInt8} {b : SB} {at' size : Nat} {c : Cl} (hI : OrdI b W at' size) (hc : c.isRead) (hp : W ++ rest = all) :
    OrdOk all at' size c (b.reads c).2.1 ∧ OrdI (b.reads c).1 W (nextF all at' size c (b.reads c).2.1) (sizeF size c (b.reads c).2.1) := by
  have hl : b.text.length = W.length - at' := by rw [hI.tx]; simp
  have hle := hI.le
  have hal : all.length = W.length + rest.length := by rw [← hp]; simp
  have htl : tells c := .inl hc
  -- a call that tells the bytes that it has read
  have key : ∀ (n : Nat) (t : Td) (b' : SB), n ≤ b.text.length → c.op ≠ 12 → c.op ≠ 13 → dataF all at' c t = b.text.take n → (c.op = 11 → 0 ≤ t.n ∧ t.n ≤ 4) → OrdI b' W (at' + n) (sizeF size c t) → OrdOk all at' size c t ∧ OrdI b' W (nextF all at' size c t) (sizeF size c t) := by
    intro n t b' hn h12 h13 hd h11 hO
    have hdl : (b.text.take n).length = n := by simp; omega
    refine ⟨⟨fun q => absurd q h12, fun q => absurd q h13, fun _ => by rw [hd, hdl]; omega, fun _ => ?_, h11⟩, ?_⟩
    · rw [hd, hdl, pre_take hp hle (by omega), ← hI.tx]
    · unfold nextF
      rw [if_pos htl, hd, hdl]
      exact hO
  unfold Cl.isRead at hc
  unfold SB.reads
  simp only
  by_cases h6 : c.op = 6
  · have hs : ∀ t, sizeF size c t = size := fun t => by unfold sizeF; rw [if_neg (by omega)]
    have hdt : ∀ t, dataF all at' c t = t.text := fun t => by unfold dataF; rw [if_neg (by omega), if_neg (by omega)]
    rw [if_pos h6]
    split
    · exact key 0 _ _ (by omega) (by omega) (by omega) (by rw [hdt]; rfl) (fun q => by omega) (by rw [hs]; exact hI.read0 1 size hI.sz)
    · exact key _ _ _ (Nat.min_le_right c.size _) (by omega) (by omega) (by rw [hdt]) (fun q => by omega) (by rw [hs]; exact hI.read1 (Nat.min_le_right _ _) (.inl rfl))
  rw [if_neg h6]
  by_cases h7 : c.op = 7
  · have hs : ∀ t, sizeF size c t = size := fun t => by unfold sizeF; rw [if_neg (by omega)]
    have hdt : ∀ t, dataF all at' c t = t.text := fun t => by unfold dataF; rw [if_neg (by omega), if_neg (by omega)]
    rw [if_pos h7]
    exact key _ _ _ (Nat.min_le_right c.size _) (by omega) (by omega) (by rw [hdt]; rfl) (fun q => by omega) (by rw [hs]; exact hI.read1 (Nat.min_le_right _ _) (.inl rfl))
  rw [if_neg h7]
  by_cases h8 : c.op = 8
  · have hs : ∀ t, sizeF size c t = size := fun t => by unfold sizeF; rw [if_neg (by omega)]
    rw [if_pos h8]
    cases ht : b.text with
    | nil => exact key 0 _ _ (by omega) (by omega) (by omega) (by unfold dataF; rw [if_neg (by simp [Td.said']), if_neg (by omega)]; rfl) (fun q => by omega) (by rw [hs]; exact hI.read0 1 size hI.sz)
    | cons x l => exact key 1 _ _ (by rw [ht]; simp) (by omega) (by omega) (by unfold dataF; rw [if_pos ⟨h8, rfl⟩, ht]; simp) (fun q => by omega) (by rw [hs]; exact hI.read1 (n := 1) (by rw [ht]; simp) (.inl rfl))
  rw [if_neg h8]
  by_cases h9 : c.op = 9 ∨ c.op = 10
  · have hs : ∀ t, sizeF size c t = size := fun t => by unfold sizeF; rw [if_neg (by omega)]
    have hdt : ∀ t, dataF all at' c t = t.text := fun t => by unfold dataF; rw [if_neg (by omega), if_neg (by omega)]
    rw [if_pos h9]
    cases hu : upTo c.sign b.text with
    | some k => exact key k _ _ (upTo_le _ _ _ hu).2 (by omega) (by omega) (by rw [hdt]; rfl) (fun q => by omega) (by rw [hs]; exact hI.read1 (upTo_le _ _ _ hu).2 (.inl rfl))
    | none =>
      simp only
      split
      · rename_i hz
        refine key 0 _ _ (by omega) (by omega) (by omega) (by rw [hdt]; rfl) (fun q => by omega) ?_
        rw [hs]
        refine ⟨hle, ?_, fun q => absurd q (by simp), fun q => absurd q (by simp), hI.sz⟩
        rw [Nat.add_zero, ← hI.tx, hz]
      · exact key b.text.length _ _ (Nat.le_refl _) (by omega) (by omega) (by rw [hdt]; simp) (fun q => by omega) (by rw [hs]; exact hI.read1 (Nat.le_refl _) (.inr rfl))
  rw [if_neg h9]
  have h11 : c.op = 11 := by omega
  by_cases hz : b.text = []
  · rw [if_pos hz]
    refine key 0 _ _ (by omega) (by omega) (by omega) ?_ (fun _ => ⟨by simp [Td.said'], by simp [Td.said']⟩) ?_
    · unfold dataF
      rw [if_neg (by omega), if_pos h11, if_pos (by simp [Td.said'])]
      rfl
    · have : sizeF size c (Td.said' 1) = 0 := by unfold sizeF; rw [if_pos h11]; rfl
      rw [this]
      exact hI.read0 2 0 (by omega)
  · rw [if_neg hz]
    obtain ⟨d1, d2, d3⟩ := dec_le b.text hz
    refine key (dec b.text).2 _ _ d2 (by omega) (by omega) ?_ (fun _ => ⟨by simp, by simp; omega⟩) ?_
    · unfold dataF
      rw [if_neg (by omega), if_pos h11, if_neg (by simp)]
      simp only
      by_cases hv : (dec b.text).1 = 65533 ∧ (dec b.text).2 = 1
      · have hat : at' < all.length := by have := List.length_pos_iff.2 hz; omega
        rw [if_pos ⟨hv.1, by rw [hv.2]; rfl, hat⟩, hv.2, pre_take hp hle (by omega), ← hI.tx]
      · rw [if_neg (by rintro ⟨q1, q2, _⟩; exact hv ⟨q1, by omega⟩), enc_dec hz hv]
    · have : sizeF size c ⟨((dec b.text).2 : Int), [], (dec b.text).1, 0⟩ = (dec b.text).2 := by unfold sizeF; rw [if_pos h11]; simp
      rw [this]
      exact hI.read2 (by omega) d2 d3
theorem ord_step {all W rest : List UInt8} {b : SB} {at' size : Nat} {c : Cl} (hI : OrdI b W at' size) (ha : c.a = 0) (hc : c.streams) (hp : W ++ wrF c ++ rest = all) (hset : ((yd1 b).do c).2.2 = true) (hns : ((yd1 b).do c).2.1.said ≠ 3) :
    ∃ b', ((yd1 b).do c).1 = yd1 b' ∧ OrdOk all at' size c ((yd1 b).do c).2.1 ∧ OrdI b' (W ++ wrF c) (nextF all at' size c ((yd1 b).do c).2.1) (sizeF size c ((yd1 b).do c).2.1) := by
  have hle := hI.le
  have hl : b.text.length = W.length - at' := by rw [hI.tx]; simp
  have hal : all.length = W.length + (wrF c).length + rest.length := by rw [← hp]; simp; omega
  -- a call that neither reads nor takes back
  have quiet : ∀ (t : Td) (b' : SB), ¬ tells c → c.op ≠ 11 → ¬ (c.op = 12 ∧ t.said = 0) → ¬ (c.op = 13 ∧ t.said = 0) → OrdI b' (W ++ wrF c) at' size → OrdOk all at' size c t ∧ OrdI b' (W ++ wrF c) (nextF all at' size c t) (sizeF size c t) := by
    intro t b' ht h11 h12 h13 hO
    refine ⟨⟨fun q r => absurd ⟨q, r⟩ h12, fun q r => absurd ⟨q, r⟩ h13, fun q => absurd q ht, fun q => absurd q ht, fun q => absurd q h11⟩, ?_⟩
    unfold nextF sizeF backF
    rw [if_neg ht, if_neg h12, if_neg h13, if_neg h11]
    exact hO
  have hw0 : ¬ c.writes → W ++ wrF c = W := fun q => by unfold wrF; rw [if_neg q, List.append_nil]
  by_cases hr : c.isRead
  · have hnw : ¬ c.writes := by unfold Cl.isRead at hr; unfold Cl.writes; omega
    rw [hw0 hnw] at hp ⊢
    have hr' := hr
    unfold Cl.isRead at hr'
    rw [yd1_do b c ha (by omega) (by omega), do_read b c hr]
    exact ⟨_, rfl, ord_read hI hr hp⟩
  unfold Cl.streams at hc
  unfold Cl.isRead at hr
  by_cases hdr : c.op = 26
  · have hnw : ¬ c.writes := by unfold Cl.writes; omega
    rw [hw0 hnw] at hp ⊢
    have htl : tells c := .inr hdr
    rw [yd1_drain b c ha hdr] at hset ⊢
    split at hset
    · exact absurd hset (by simp)
    · rename_i h
      rw [if_neg h]
      have hd : ∀ t : Td, dataF all at' c t = t.text := fun t => by unfold dataF; rw [if_neg (by omega), if_neg (by omega)]
      refine ⟨_, rfl, ⟨fun q => by omega, fun q => by omega, fun _ => by rw [hd]; simp only; omega, fun _ => ?_, fun q => by omega⟩, ?_⟩
      · rw [hd]
        simp only
        rw [pre_take hp hle (by omega), ← hI.tx, List.take_length]
      · unfold nextF sizeF
        rw [if_pos htl, hd, if_neg (by omega)]
        exact OrdI.other (by simp only; omega) (by simp only; rw [List.drop_of_length_le (by omega)]) hI.sz
  have hnt : ¬ tells c := by unfold tells Cl.isRead; omega
  by_cases hfl : c.op = 27
  · have hw : c.writes := by
      rcases hc with hc | hc | hc | hc
      · omega
      · exact hc.2
      · unfold Cl.isRead at hc; omega
      · unfold Cl.isBack at hc; omega
    have hwf : wrF c = c.text := by unfold wrF textF; rw [if_pos hw, if_neg (by omega), if_neg (by omega)]
    rw [yd1_fill b c ha hfl]
    refine ⟨_, rfl, quiet _ _ hnt (by omega) (by omega) (by omega) ?_⟩
    rw [hwf]
    exact OrdI.other (by simp; omega) (by rw [drop_app hle, ← hI.tx]) hI.sz
  have hlt : 1 ≤ c.op ∧ c.op < 23 := by
    unfold Cl.writes Cl.isRead Cl.isBack at hc
    omega
  rw [yd1_do b c ha hlt.1 hlt.2] at hset hns ⊢
  simp only at hset hns ⊢
  by_cases hwr : c.isWrite
  · have hw : c.writes := by unfold Cl.isWrite at hwr; unfold Cl.writes; omega
    have hv : c.valid := by
      intro q e
      unfold Cl.isWrite at hwr
      have h4 : c.op = 4 := by omega
      simp [SB.do, h4, e] at hset
    obtain ⟨t, e, ht, _⟩ := do_write b c hwr hv
    unfold Cl.isWrite at hwr
    rw [e]
    refine ⟨_, rfl, quiet _ _ hnt (by omega) (by omega) (by omega) ?_⟩
    have : wrF c = textF c := by unfold wrF; rw [if_pos hw]
    rw [this]
    exact hI.write _
  unfold Cl.isWrite at hwr
  have hnw : ¬ c.writes := by unfold Cl.writes; omega
  rw [hw0 hnw] at hp quiet ⊢
  by_cases hbk : c.isBack
  · unfold Cl.isBack at hbk
    have e0 : b.do c = b.back c := by
      unfold SB.do
      rw [if_neg (by omega), if_neg (by omega), if_neg (by omega), if_pos hbk]
    rw [e0] at hset ⊢
    unfold SB.back at hset ⊢
    by_cases h13 : c.op = 13
    · rw [if_pos h13] at hset ⊢
      by_cases h2 : b.recent = 2
      · rw [if_pos h2]
        obtain ⟨s1, _, s2, s3⟩ := hI.two h2
        refine ⟨_, rfl, ⟨fun q => by omega, fun _ _ => s2, fun q => absurd q hnt, fun q => absurd q hnt, fun q => by omega⟩, ?_⟩
        unfold nextF sizeF backF
        rw [if_neg hnt, if_neg (by omega), if_pos ⟨h13, rfl⟩, if_neg (by omega)]
        exact hI.back s2 (by rw [← s3])
      · rw [if_neg h2]
        exact ⟨_, rfl, quiet _ _ hnt (by omega) (by omega) (by simp [Td.said']) hI⟩
    · have h12 : c.op = 12 := by omega
      rw [if_neg h13] at hset ⊢
      by_cases h2 : b.recent = 1 ∨ b.recent = 2
      · rw [if_pos h2]
        have hk : 1 ≤ at' ∧ b.last.drop (b.last.length - 1) = (W.drop (at' - 1)).take 1 := by
          rcases h2 with h2 | h2
          · obtain ⟨s1, s2⟩ := hI.one h2
            refine ⟨s1, ?_⟩
            have : b.last.length = 1 := by rw [s2]; simp; omega
            rw [this, s2]
            rfl
          · obtain ⟨s1, s0, s2, s3⟩ := hI.two h2
            refine ⟨by omega, ?_⟩
            rw [← s1, s3, List.drop_take, List.drop_drop]
            have q1 : size - (size - 1) = 1 := by omega
            have q2 : at' - size + (size - 1) = at' - 1 := by omega
            rw [q1, q2]
        refine ⟨_, rfl, ⟨fun _ _ => hk.1, fun q => by omega, fun q => absurd q hnt, fun q => absurd q hnt, fun q => by omega⟩, ?_⟩
        unfold nextF sizeF backF
        rw [if_neg hnt, if_pos ⟨h12, rfl⟩, if_neg (by omega)]
        exact hI.back hk.1 (by rw [hk.2])
      · rw [if_neg h2] at hset ⊢
        by_cases h3 : b.recent = 3
        · rw [if_pos h3]
          exact ⟨_, rfl, quiet _ _ hnt (by omega) (by simp [Td.said']) (by omega) hI⟩
        · rw [if_neg h3] at hset ⊢
          by_cases h4 : b.recent = 4
          · rw [if_pos h4]
            exact ⟨_, rfl, quiet _ _ hnt (by omega) (by simp [Td.said']) (by omega) hI⟩
          · rw [if_neg h4] at hset
            exact absurd hset (by simp)
  unfold Cl.isBack at hbk
  have hrest : c.op = 14 ∨ c.op = 17 ∨ c.op = 18 ∨ c.op = 19 ∨ c.op = 20 := by
    unfold Cl.writes Cl.isRead Cl.isBack at hc
    unfold Cl.writes at hnw
    omega
  rcases hrest with h | h | h | h | h
  · have e0 : b.do c = b.look c := by
      unfold SB.do
      rw [if_neg (by omega), if_neg (by omega), if_neg (by omega), if_neg (by omega), if_neg (by omega), if_neg (by omega), if_neg (by omega), if_neg (by omega), if_neg (by omega), if_pos (by omega)]
    rw [e0] at hset ⊢
    unfold SB.look at hset ⊢
    simp only at hset ⊢
    rw [if_pos h] at hset ⊢
    split at hset
    · exact absurd hset (by simp)
    · rename_i hq
      rw [if_neg hq]
      exact ⟨_, rfl, quiet _ _ hnt (by omega) (by omega) (by omega) (OrdI.other hle hI.tx hI.sz)⟩
  · have e0 : b.do c = if c.n < 0 then (b, Td.said' 3, true) else (b.other b.text, Td.zero, decide (c.n ≤ 65536)) := by
      unfold SB.do
      rw [if_neg (by omega), if_neg (by omega), if_neg (by omega), if_neg (by omega), if_neg (by omega), if_neg (by omega), if_neg (by omega), if_neg (by omega), if_pos h]
    rw [e0] at hns ⊢
    split at hns
    · exact absurd rfl hns
    · rename_i hq
      rw [if_neg hq]
      exact ⟨_, rfl, quiet _ _ hnt (by omega) (by omega) (by omega) (OrdI.other hle hI.tx hI.sz)⟩
  · have e0 : b.do c = (b, Td.ofN b.text.length, true) := by
      unfold SB.do
      rw [if_neg (by omega), if_neg (by omega), if_neg (by omega), if_neg (by omega), if_pos h]
    rw [e0]
    exact ⟨_, rfl, quiet _ _ hnt (by omega) (by omega) (by omega) hI⟩
  · have e0 : b.do c = (b, Td.ofText b.text, true) := by
      unfold SB.do
      rw [if_neg (by omega), if_neg (by omega), if_neg (by omega), if_neg (by omega), if_neg (by omega), if_pos (.inl h)]
    rw [e0]
    exact ⟨_, rfl, quiet _ _ hnt (by omega) (by omega) (by omega) hI⟩
  · have e0 : b.do c = (b, Td.ofText b.text, true) := by
      unfold SB.do
      rw [if_neg (by omega), if_neg (by omega), if_neg (by omega), if_neg (by omega), if_neg (by omega), if_pos (.inr h)]
    rw [e0]
    exact ⟨_, rfl, quiet _ _ hnt (by omega) (by omega) (by omega) hI⟩
theorem ord_law (all : List UInt8) : ∀ (l : List Cl) (b : SB) (W : List UInt8) (at' size : Nat), OrdI b W at' size → (∀ c ∈ l, c.a = 0 ∧ c.streams) → Mild (yd1 b) l → W ++ allF l = all →
    ∃ fin, (runF (yd1 b) l).2.texts = [fin] ∧ OrdGo all fin l (runF (yd1 b) l).1 at' size
  | [], b, W, at', size, hI, _, _, he => by
    simp only [allF, List.flatMap_nil, List.append_nil] at he
    subst he
    exact ⟨b.text, rfl, hI.le, hI.tx.symm⟩
  | c :: l, b, W, at', size, hI, hc, hm, he => by
    obtain ⟨ha, hs⟩ := hc c (by simp)
    obtain ⟨m1, m2, m3⟩ := hm
    have he' : W ++ wrF c ++ allF l = all := by rw [← he]; simp [allF]
    obtain ⟨b', e1, hok, hI'⟩ := ord_step hI ha hs he' m1 m2
    rw [e1] at m3
    obtain ⟨fin, f1, f2⟩ := ord_law all l b' _ _ _ hI' (fun d hd => hc d (by simp [hd])) m3 he'
    refine ⟨fin, ?_, ?_⟩
    · simp only [runF]
      rw [if_neg m2, e1]
      exact f1
    · simp only [runF]
      rw [if_neg m2, e1]
      have hal : at' ≤ all.length := by have := hI.le; rw [← he]; simp; omega
      exact ⟨_, _, rfl, hok, hal, hI.sz, f2⟩
end Go.Proofs.YtbodbajgpgaoeaaGreatDoor

namespace Go.Proofs.YtbodbajgpgaoeaaGreatDoor
open Go

/-- A read got all that it asked for. -/
def fullF (c : Cl) (t : Td) : Prop :=
  if c.op = 6 ∨ c.op = 7 then t.text.length = c.size
  else if c.op = 11 then t.said = 0 ∧ ¬ (t.char = 65533 ∧ t.n = 1)
  else t.said = 0
instance (c : Cl) (t : Td) : Decidable (fullF c t) := by unfold fullF; infer_instance
/-- A script without the reads that do not get all. -/
def scrF : Yd → List Cl → List Cl
  | _, [] => []
  | y, c :: l => if c.isRead ∧ ¬ fullF c (y.do c).2.1 then scrF y l else c :: scrF (y.do c).1 l
def pickR : List Cl → List Td → List Td
  | c :: l, t :: ts => if c.isRead then t :: pickR l ts else pickR l ts
  | _, _ => []

theorem dec_app {s S : List UInt8} (hne : s ≠ []) (hv : ¬ ((dec s).1 = 65533 ∧ (dec s).2 = 1)) : dec (s ++ S) = dec s := by
  by_cases h : ∃ n, 1 ≤ n ∧ n ≤ 4 ∧ n ≤ s.length ∧ okN s n
  · obtain ⟨n, h1, h4, hl, ho⟩ := h
    have ht : (s ++ S).take n = s.take n := List.take_append_of_le_length hl
    have ho' : okN (s ++ S) n := by unfold okN; rw [ht]; exact ho
    rw [dec_hit h1 h4 hl ho, dec_hit h1 h4 (by simp; omega) ho', ht]
  · have := dec_miss hne (fun n h1 h4 hl ho => h ⟨n, h1, h4, hl, ho⟩)
    rw [this] at hv
    exact absurd ⟨rfl, rfl⟩ hv
theorem upTo_app (x : UInt8) (m : List UInt8) : ∀ (l : List UInt8) (k : Nat), upTo x l = some k → upTo x (l ++ m) = some k
  | [], k, h => by simp [upTo] at h
  | y :: l, k, h => by
    simp only [upTo, List.cons_append] at h ⊢
    split at h
    · rename_i q
      rw [if_pos q]
      exact h
    · rename_i q
      rw [if_neg q]
      cases hu : upTo x l with
      | none => rw [hu] at h; simp at h
      | some j =>
        rw [hu] at h
        rw [upTo_app x m l j hu]
        exact h
theorem read_app (b b2 : SB) (S : List UInt8) (n : Nat) (r : Int) (ht : b2.text = b.text ++ S) (hn : n ≤ b.text.length) : (b2.read n r).text = (b.read n r).text ++ S := by
  unfold SB.read
  split
  · exact ht
  · simp only
    rw [ht, List.drop_append_of_le_length hn]
theorem reads_app {b b2 : SB} {S : List UInt8} {c : Cl} (hc : c.isRead) (hf : fullF c (b.reads c).2.1) (ht : b2.text = b.text ++ S) :
    (b2.reads c).2 = (b.reads c).2 ∧ (b2.reads c).1.text = (b.reads c).1.text ++ S := by
  have hr := fun n r h => read_app b b2 S n r ht h
  unfold Cl.isRead at hc
  unfold fullF at hf
  unfold SB.reads at hf ⊢
  simp only at hf ⊢
  rw [ht]
  by_cases h6 : c.op = 6
  · rw [if_pos (.inl h6), if_pos h6] at hf
    rw [if_pos h6, if_pos h6]
    by_cases he : b.text = [] ∧ 0 < c.size
    · rw [if_pos he] at hf
      simp [Td.said'] at hf
      omega
    · rw [if_neg he] at hf ⊢
      simp only [List.length_take] at hf
      have hle : c.size ≤ b.text.length := by omega
      have he2 : ¬ (b.text ++ S = [] ∧ 0 < c.size) := by
        rintro ⟨q1, q2⟩
        have : b.text = [] := (List.append_eq_nil_iff.1 q1).1
        rw [this] at hle
        simp at hle
        omega
      rw [if_neg he2]
      have e1 : min c.size (b.text ++ S).length = c.size := by simp; omega
      have e2 : min c.size b.text.length = c.size := by omega
      rw [e1, e2, List.take_append_of_le_length hle]
      exact ⟨rfl, hr _ _ hle⟩
  rw [if_neg h6, if_neg h6]
  by_cases h7 : c.op = 7
  · rw [if_pos (.inr h7), if_neg h6, if_pos h7] at hf
    rw [if_pos h7, if_pos h7]
    simp only [Td.ofText, List.length_take] at hf
    have hle : c.size ≤ b.text.length := by omega
    have e1 : min c.size (b.text ++ S).length = c.size := by simp; omega
    have e2 : min c.size b.text.length = c.size := by omega
    rw [e1, e2, List.take_append_of_le_length hle]
    exact ⟨rfl, hr _ _ hle⟩
  rw [if_neg h7, if_neg h7]
  rw [if_neg (by omega), if_neg h6, if_neg h7] at hf
  by_cases h8 : c.op = 8
  · rw [if_pos h8, if_pos h8]
    rw [if_neg (by omega), if_pos h8] at hf
    cases hb : b.text with
    | nil => rw [hb] at hf; exact absurd hf (by simp [Td.said'])
    | cons x l => exact ⟨rfl, hr 1 1 (by rw [hb]; simp)⟩
  rw [if_neg h8, if_neg h8]
  by_cases h9 : c.op = 9 ∨ c.op = 10
  · rw [if_pos h9, if_pos h9]
    rw [if_neg (by omega), if_neg h8, if_pos h9] at hf
    cases hu : upTo c.sign b.text with
    | some k =>
      have hk := (upTo_le _ _ _ hu).2
      rw [upTo_app c.sign S b.text k hu]
      simp only
      rw [List.take_append_of_le_length hk]
      exact ⟨rfl, hr _ _ hk⟩
    | none =>
      rw [hu] at hf
      simp only at hf
      split at hf
      · exact absurd hf (by simp [Td.said'])
      · exact absurd hf (by simp)
  rw [if_neg h9, if_neg h9]
  rw [if_pos (by omega), if_neg h8, if_neg h9] at hf
  by_cases he : b.text = []
  · rw [if_pos he] at hf
    exact absurd hf.1 (by simp [Td.said'])
  · rw [if_neg he] at hf ⊢
    have he2 : ¬ b.text ++ S = [] := fun q => he (List.append_eq_nil_iff.1 q).1
    rw [if_neg he2]
    have hd := dec_app (S := S) he (fun q => hf.2 ⟨q.1, by simp only; omega⟩)
    rw [hd]
    exact ⟨rfl, hr _ _ (dec_le b.text he).2.1⟩
/-- The calls that the law plays. -/
def Cl.wr (c : Cl) : Prop := c.a = 0 ∧ ((c.op < 28 ∧ c.writes) ∨ c.isRead) ∧ c.valid
theorem wr_write {c : Cl} (h : c.wr) (hn : ¬ c.isRead) (b : SB) : ∃ b' t, (yd1 b).do c = (yd1 b', t, true) ∧ t.said = 0 ∧ b'.text = b.text ++ wrF c := by
  obtain ⟨ha, h1, hv⟩ := h
  have hw : c.op < 28 ∧ c.writes := h1.resolve_right hn
  have hwf : wrF c = textF c := by unfold wrF; rw [if_pos hw.2]
  rw [hwf]
  by_cases h27 : c.op = 27
  · have hn0 : c.n = 0 := by
      have := hw.2
      unfold Cl.writes at this
      omega
    refine ⟨_, _, yd1_fill b c ha h27, by simp [hn0], ?_⟩
    unfold textF
    rw [if_neg (by omega), if_neg (by omega)]
    rfl
  · have hww : c.isWrite := by
      have h2 := hw.1
      have := hw.2
      unfold Cl.writes at this
      unfold Cl.isWrite
      omega
    obtain ⟨t, e, ht, _⟩ := do_write b c hww hv
    unfold Cl.isWrite at hww
    refine ⟨b.write (textF c), t, ?_, ht, rfl⟩
    rw [yd1_do b c ha (by omega) (by omega), e]
theorem wr_read {c : Cl} (h : c.wr) (hr : c.isRead) (b : SB) : (yd1 b).do c = (yd1 (b.reads c).1, (b.reads c).2.1, true) ∧ (b.reads c).2.1.said ≠ 3 := by
  obtain ⟨h1, h2, _⟩ := reads_ok b c
  refine ⟨?_, by omega⟩
  have hr' := hr
  unfold Cl.isRead at hr'
  rw [yd1_do b c h.1 (by omega) (by omega), do_read b c hr, h1]
/-- All reads get all. -/
def AllFull : SB → List Cl → Prop
  | _, [] => True
  | b, c :: l => (c.isRead → fullF c (b.reads c).2.1) ∧ ∀ b', ((yd1 b).do c).1 = yd1 b' → AllFull b' l
theorem scr_full : ∀ (l : List Cl) (b : SB), (∀ c ∈ l, c.wr) → AllFull b (scrF (yd1 b) l) ∧ (∀ c ∈ scrF (yd1 b) l, c.wr) ∧ (scrF (yd1 b) l).length ≤ l.length
  | [], b, _ => ⟨trivial, by simp [scrF], Nat.le_refl _⟩
  | c :: l, b, h => by
    have hc := h c (by simp)
    have hl : ∀ d ∈ l, d.wr := fun d hd => h d (by simp [hd])
    simp only [scrF]
    split
    · obtain ⟨k1, k2, k3⟩ := scr_full l b hl
      exact ⟨k1, k2, by simp; omega⟩
    · rename_i hq
      obtain ⟨b', e⟩ : ∃ b', ((yd1 b).do c).1 = yd1 b' := by
        by_cases hr : c.isRead
        · exact ⟨_, by rw [(wr_read hc hr b).1]⟩
        · obtain ⟨b', t, e, _⟩ := wr_write hc hr b
          exact ⟨b', by rw [e]⟩
      rw [e]
      obtain ⟨k1, k2, k3⟩ := scr_full l b' hl
      refine ⟨⟨fun hr => ?_, fun b2 e2 => ?_⟩, fun d hd => ?_, by simp; omega⟩
      · have : fullF c ((yd1 b).do c).2.1 := Decidable.of_not_not fun q => hq ⟨hr, q⟩
        rw [(wr_read hc hr b).1] at this
        exact this
      · rw [e] at e2
        have : b' = b2 := by
          have := congrArg Yd.bufs e2
          simpa [yd1] using this
        rw [← this]
        exact k1
      · rcases List.mem_cons.1 hd with rfl | hd
        · exact hc
        · exact k2 d hd
/-- The writes alone. -/
theorem writes_run : ∀ (l : List Cl) (b : SB), (∀ c ∈ l, c.wr ∧ ¬ c.isRead) → Mild (yd1 b) l ∧ ∃ b', (runF (yd1 b) l).2 = yd1 b' ∧ b'.text = b.text ++ allF l
  | [], b, _ => ⟨trivial, b, rfl, by simp [allF]⟩
  | c :: l, b, h => by
    obtain ⟨hc, hn⟩ := h c (by simp)
    obtain ⟨b', t, e, ht, hb⟩ := wr_write hc hn b
    obtain ⟨m, b2, e2, hb2⟩ := writes_run l b' (fun d hd => h d (by simp [hd]))
    have hns : ((yd1 b).do c).2.1.said ≠ 3 := by rw [e]; show t.said ≠ 3; omega
    refine ⟨⟨by rw [e], hns, by rw [e]; exact m⟩, b2, ?_, ?_⟩
    · simp only [runF]
      rw [if_neg hns, e]
      exact e2
    · rw [hb2, hb]
      simp [allF]
theorem reads_run : ∀ (s : List Cl) (b b2 : SB), (∀ c ∈ s, c.wr) → AllFull b s → b2.text = b.text ++ allF (s.filter fun c => ¬ c.isRead) →
    Mild (yd1 b) s ∧ Mild (yd1 b2) (s.filter fun c => c.isRead) ∧ (runF (yd1 b2) (s.filter fun c => c.isRead)).1 = pickR s (runF (yd1 b) s).1 ∧ (runF (yd1 b2) (s.filter fun c => c.isRead)).2.texts = (runF (yd1 b) s).2.texts
  | [], b, b2, _, _, ht => by
    simp [allF] at ht
    exact ⟨trivial, trivial, rfl, by simp [runF, yd1_texts, ht]⟩
  | c :: s, b, b2, h, hf, ht => by
    have hc := h c (by simp)
    have hs : ∀ d ∈ s, d.wr := fun d hd => h d (by simp [hd])
    by_cases hr : c.isRead
    · have e1 : (c :: s).filter (fun c => ¬ c.isRead) = s.filter fun c => ¬ c.isRead := by simp [hr]
      have e2 : (c :: s).filter (fun c => c.isRead) = c :: s.filter fun c => c.isRead := by simp [hr]
      rw [e1] at ht
      rw [e2]
      obtain ⟨d1, n1⟩ := wr_read hc hr b
      obtain ⟨d2, n2⟩ := wr_read hc hr b2
      have hfl := hf.1 hr
      obtain ⟨r1, r2⟩ := reads_app hr hfl ht
      have hf2 := hf.2 (b.reads c).1 (by rw [d1])
      obtain ⟨m1, m2, k1, k2⟩ := reads_run s (b.reads c).1 (b2.reads c).1 hs hf2 r2
      have ns1 : ((yd1 b).do c).2.1.said ≠ 3 := by rw [d1]; exact n1
      have ns2 : ((yd1 b2).do c).2.1.said ≠ 3 := by rw [d2]; exact n2
      refine ⟨⟨by rw [d1], ns1, by rw [d1]; exact m1⟩, ⟨by rw [d2], ns2, by rw [d2]; exact m2⟩, ?_, ?_⟩
      · simp only [runF]
        rw [if_neg ns1, if_neg ns2, d1, d2]
        simp only [pickR]
        rw [if_pos hr, k1, r1]
      · simp only [runF]
        rw [if_neg ns1, if_neg ns2, d1, d2]
        exact k2
    · have e1 : (c :: s).filter (fun c => ¬ c.isRead) = c :: s.filter fun c => ¬ c.isRead := by simp [hr]
      have e2 : (c :: s).filter (fun c => c.isRead) = s.filter fun c => c.isRead := by simp [hr]
      rw [e1] at ht
      rw [e2]
      obtain ⟨b', t, d1, hs0, hb⟩ := wr_write hc hr b
      have hf2 := hf.2 b' (by rw [d1])
      have ht2 : b2.text = b'.text ++ allF (s.filter fun c => ¬ c.isRead) := by
        rw [ht, hb]
        simp [allF]
      obtain ⟨m1, m2, k1, k2⟩ := reads_run s b' b2 hs hf2 ht2
      have ns1 : ((yd1 b).do c).2.1.said ≠ 3 := by rw [d1]; show t.said ≠ 3; omega
      refine ⟨⟨by rw [d1], ns1, by rw [d1]; exact m1⟩, m2, ?_, ?_⟩
      · simp only [runF]
        rw [if_neg ns1, d1]
        simp only [pickR]
        rw [if_neg hr, k1]
      · simp only [runF]
        rw [if_neg ns1, d1]
        exact k2
theorem erl_law (b : SB) (l : List Cl) (h : ∀ c ∈ l, c.wr) (s first then' : List Cl) (hs : s = scrF (yd1 b) l) (h1 : first = s.filter fun c => ¬ c.isRead) (h2 : then' = s.filter fun c => c.isRead) :
    Mild (yd1 b) s ∧ Mild (yd1 b) (first ++ then') ∧ (runF (yd1 b) (first ++ then')).1.drop first.length = pickR s (runF (yd1 b) s).1 ∧ (runF (yd1 b) (first ++ then')).2.texts = (runF (yd1 b) s).2.texts := by
  obtain ⟨k1, k2, k3⟩ := scr_full l b h
  rw [← hs] at k1 k2 k3
  have hw : ∀ c ∈ first, c.wr ∧ ¬ c.isRead := fun c hc => by
    rw [h1] at hc
    obtain ⟨q1, q2⟩ := List.mem_filter.1 hc
    exact ⟨k2 c q1, by simpa using q2⟩
  obtain ⟨m1, b2, e2, ht⟩ := writes_run first b hw
  rw [h1] at ht
  obtain ⟨r1, r2, r3, r4⟩ := reads_run s b b2 k2 k1 ht
  rw [← h2] at r2 r3 r4
  have hm : Mild (runF (yd1 b) first).2 then' := by rw [e2]; exact r2
  refine ⟨r1, Mild.append first then' _ m1 hm, ?_, ?_⟩
  · rw [runF_append first then' _ m1, e2]
    simp only
    rw [r3, ← Mild.len first _ m1, List.drop_left]
  · rw [runF_append first then' _ m1, e2]
    exact r4
/-- What a calm script has is settled. -/
theorem calm_valid : ∀ (l : List Cl) (b : SB), (∀ c ∈ l, c.one) → ∀ c ∈ calmF (yd1 b) l, c.op = 4 → enc c.char ≠ []
  | [], b, _, c, hc, _ => by cases hc
  | d :: l, b, h, c, hc, h4 => by
    obtain ⟨b', e⟩ := yd1_one b d (h d (by simp))
    have hl : ∀ c ∈ l, c.one := fun x hx => h x (by simp [hx])
    simp only [calmF] at hc
    split at hc
    · rename_i hq
      rcases List.mem_cons.1 hc with rfl | hc
      · rw [yd1_do b c (h c (by simp)).1 (by omega) (by omega)] at hq
        have h0 := hq.1
        simp only at h0
        intro q
        simp [SB.do, h4, q] at h0
      · rw [e] at hc
        exact calm_valid l b' hl c hc h4
    · exact calm_valid l b hl c hc h4
end Go.Proofs.YtbodbajgpgaoeaaGreatDoor
