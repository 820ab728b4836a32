/- SpecH, SpecI, SpecK, OrdP, ErlP, SpecL, SpecM. -/
import Derived.Test.YtkggebhkjgjijaaGreatDoorQ31
import Derived.Test.YtkggebhkjgjijaaGreatDoorQ30
namespace Go.Proofs.YtkggebhkjgjijaaGreatDoor
open Go Go.RowKit

section
variable (A1 : Option Addr) (c1 : Nat) (A2 : Option Addr) (c2 : Nat) (op bb : Int) (size : Nat) (n : Int) (sign : UInt8) (char : Int) (ctext : List UInt8) (cuts : List Nat) (ad : Option Addr) (cap : Nat)
end
end Go.Proofs.YtkggebhkjgjijaaGreatDoor

namespace Go.Proofs.YtkggebhkjgjijaaGreatDoor
open Go Go.RowKit

/-- The calls of the first buffer that the laws play. -/
def Cl.first (c : Cl) : Prop := c.a = 0 ∧ (c.op < 23 ∨ c.op = 26 ∨ (c.op = 27 ∧ c.n = 0))
theorem Cl.first.one {c : Cl} (h : c.first) : c.one := ⟨h.1, by have := h.2; omega⟩
/-- A yard of one builder. -/
def yb1 (s : List UInt8) : Yd := ⟨[], [s]⟩
theorem yb1_do (s : List UInt8) (c : Cl) (ha : c.a = 0) (h1 : 28 ≤ c.op) (_h2 : c.op < 36) : (yb1 s).do c = (yb1 (putS s c).1, (putS s c).2.1, (putS s c).2.2) := by
  unfold Yd.do
  rw [if_neg (by omega), if_pos h1, if_pos (by rw [ha]; exact ⟨by omega, by simp [yb1]⟩)]
  simp [ha, yb1, Yd.bld, Yd.setBld]
theorem yb1_do0 (s : List UInt8) (c : Cl) (h1 : 36 ≤ c.op) : (yb1 s).do c = (yb1 s, Td.said' 4, true) := by
  unfold Yd.do
  rw [if_pos (.inr h1)]
theorem sp_DoB (s : List UInt8) (c : Cl) (A1 : Option Addr) (c1 : Nat) (A2 : Option Addr) (c2 : Nat) (w : World) (hY : YV w A1 0 c1 A2 1 c2 (yb1 s)) (ha : c.a = 0) (hop : 28 ≤ c.op) (hl : s.length + c.text.length + 8 ≤ 1099511627776) :
    Calls Tryz.prog 10 #[.agg #[.slice A1 0 c1, .slice A2 1 c2], c.val] w (YPost w A1 A2 ((yb1 s).do c)) := by
  by_cases h2 : 36 ≤ c.op
  · rw [yb1_do0 s c h2]
    obtain ⟨op, a, bb, size, n, sign, char, ctext, cuts, ad, cap⟩ := c
    simp only at ha h2
    subst ha
    exact spg_noneb A1 c1 A2 c2 op bb size n sign char ctext cuts ad cap w (yb1 s) (by omega) h2 hY
  · rw [yb1_do s c ha hop (by omega)]
    have hd := fun wx => sp_put s c wx hop hl
    generalize putS s c = r at *
    obtain ⟨R, T, O⟩ := r
    obtain ⟨op, a, bb, size, n, sign, char, ctext, cuts, ad, cap⟩ := c
    simp only at ha hop h2
    subst ha
    exact spg_bld A1 c1 A2 c2 op bb size n sign char ctext cuts ad cap w s (by omega) h2 hop hY R T O hd
end Go.Proofs.YtkggebhkjgjijaaGreatDoor

namespace Go.Proofs.YtkggebhkjgjijaaGreatDoor
open Go Go.RowKit

theorem Reads.blk_lt {α : Type} {cells : α → List Value} {size : Nat} {w : World} {A : Option Addr} {xs : List α} (h : Reads cells size w A xs) (hn : xs ≠ []) (hc : ∀ x, ∃ v, (cells x)[0]? = some v) (r o : Nat) (s : Option Nat) (hA : A = some ⟨r, o, s⟩) : r < w.heap.size := by
  cases xs with
  | nil => exact absurd rfl hn
  | cons x xs =>
    obtain ⟨r', o', e, k⟩ := h.at' 0 x rfl
    obtain ⟨v, hv⟩ := hc x
    rw [hA] at e
    injection e with e
    injection e with e1 e2 e3
    subst e1
    exact World.block_lt_of_cell? _ _ (k 0 v hv)
theorem YV.fr' {S : Nat → Prop} {w w' : World} {A1 : Option Addr} {n1 c1 : Nat} {A2 : Option Addr} {n2 c2 : Nat} {y : Yd} (h : YV w A1 n1 c1 A2 n2 c2 y) (hf : Fr S w w') (h1 : y.bufs ≠ [] → ∀ r o s, A1 = some ⟨r, o, s⟩ → ¬ S r) (h2 : y.blds ≠ [] → ∀ r o s, A2 = some ⟨r, o, s⟩ → ¬ S r) : YV w' A1 n1 c1 A2 n2 c2 y := by
  refine ⟨h.l1, h.l2, ?_, ?_, h.z1, h.z2⟩
  · by_cases hb : y.bufs = []
    · rw [hb]
      exact Reads.nil _ _ _ _
    · exact h.r1.fr hf (fun r o q => h1 hb r o none q)
  · by_cases hb : y.blds = []
    · rw [hb]
      exact Reads.nil _ _ _ _
    · exact h.r2.fr hf (fun r o q => h2 hb r o none q)
theorem YV.lt1 {w : World} {A1 : Option Addr} {n1 c1 : Nat} {A2 : Option Addr} {n2 c2 : Nat} {y : Yd} (h : YV w A1 n1 c1 A2 n2 c2 y) (hb : y.bufs ≠ []) (r o : Nat) (s : Option Nat) (hA : A1 = some ⟨r, o, s⟩) : r < w.heap.size := h.r1.blk_lt hb (fun _ => ⟨_, rfl⟩) r o s hA
theorem YV.lt2 {w : World} {A1 : Option Addr} {n1 c1 : Nat} {A2 : Option Addr} {n2 c2 : Nat} {y : Yd} (h : YV w A1 n1 c1 A2 n2 c2 y) (hb : y.blds ≠ []) (r o : Nat) (s : Option Nat) (hA : A2 = some ⟨r, o, s⟩) : r < w.heap.size := h.r2.blk_lt hb (fun _ => ⟨_, rfl⟩) r o s hA
theorem sbs_nil {l : List SB} (h : sbs l = []) : l = [] := by
  cases l with
  | nil => rfl
  | cons x l => simp [sbs, SB.cells] at h
theorem strs_nil {l : List (List UInt8)} (h : strs l = []) : l = [] := by
  cases l with
  | nil => rfl
  | cons x l => simp [strs] at h
/-- What Begin returns, as a yard. -/
theorem YV.of_copy {w : World} {base : Nat} {A1 : Option Addr} {c1 : Nat} {A2 : Option Addr} {c2 : Nat} {y : Yd} (o1 : Own 57 4 w base (.slice A1 y.bufs.length c1) y.bufs.length (sbs y.bufs)) (o2 : Own 9 1 w base (.slice A2 y.blds.length c2) y.blds.length (strs y.blds)) : YV w A1 y.bufs.length c1 A2 y.blds.length c2 y :=
  ⟨rfl, rfl, Own.readsAt SB.cells_len (by decide) o1, Own.readsStrs o2, fun q => ⟨sbs_nil (Own.zero o1 q).1, (Own.zero o1 q).2⟩, fun q => ⟨strs_nil (Own.zero o2 q).1, (Own.zero o2 q).2⟩⟩
/-- How far Calm has come. -/
structure CmI (w wr : World) (H : Nat) (cs full : List Cl) (Inv : Yd → List Cl → Prop) (v8 : Value) (y : Yd) (A1 : Option Addr) (n1 c1 : Nat) (A2 : Option Addr) (n2 c2 : Nat) (out : List Cl) : Prop where
  eq : full = out ++ calmF y cs
  inv : Inv y cs
  yb : wr.heap[H]? = some (.cells #[.slice A1 n1 c1, .slice A2 n2 c2] 42 (0, 0))
  yv : YV wr A1 n1 c1 A2 n2 c2 y
  own : OwnC wr w.heap.size v8 out
  r1 : y.bufs ≠ [] → ∀ r o s, A1 = some ⟨r, o, s⟩ → r ≠ H ∧ v8.ownBlock ≠ some r
  r2 : y.blds ≠ [] → ∀ r o s, A2 = some ⟨r, o, s⟩ → r ≠ H ∧ v8.ownBlock ≠ some r
  hH : w.heap.size ≤ H
  fr : Fr (fun _ => False) w wr
def CalmPost (w : World) (l : List Cl) (e : Ending) (w' : World) : Prop := ∃ v, e = .returned v ∧ OwnC w' w.heap.size v l ∧ Fr (fun _ => False) w w'
/-- What Do does at each call of a script. -/
def StepOk (Inv : Yd → List Cl → Prop) : Prop := ∀ y c l, Inv y (c :: l) → Inv y l ∧ Inv (y.do c).1 l ∧ (y.bufs = [] → (y.do c).1.bufs = []) ∧ (y.blds = [] → (y.do c).1.blds = []) ∧
  ∀ A1 n1 c1 A2 n2 c2 wx, YV wx A1 n1 c1 A2 n2 c2 y → Calls Tryz.prog 10 #[.agg #[.slice A1 n1 c1, .slice A2 n2 c2], c.val] wx (YPost wx A1 A2 (y.do c))
set_option maxHeartbeats 3200000 in
set_option maxRecDepth 100000 in
theorem calm_any (Inv : Yd → List Cl → Prop) (hstep : StepOk Inv) (starts : List St) (nb : Nat) (A : Option Addr) (c : Nat) (cs : List Cl) (A' : Option Addr) (c' : Nat) (w : World) (hR : Reads St.cells 3 w A starts) (hn : starts.length ≤ 4294967296) (hnb : nb ≤ 255) (hC : Reads Cl.cells 9 w A' cs) (_hcl : cs.length ≤ 4294967296) (hI : Inv (Yd.begin starts nb) cs) :
    Calls Tryz.prog 5 #[.slice A starts.length c, .int .u8 (nb : Int), .slice A' cs.length c'] w (CalmPost w (calmF (Yd.begin starts nb) cs)) := by
  have HSTEP := Lib.hid hstep
  have HR := Lib.hid hR
  have HC := Lib.hid hC
  have HI := Lib.hid hI
  clear hstep hR hC hI
  unfold CalmPost
  obtain ⟨full, hfull⟩ : ∃ full, full = calmF (Yd.begin starts nb) cs := ⟨_, rfl⟩
  rw [← hfull]
  have HFULL := Lib.hid hfull
  clear hfull
  go_enter Tryz.func5, Tryz.ntmps5
  go_wp2_with fail
  refine (sp_begin starts nb A c w HR.out hn hnb).mono ?_
  rintro e w1 ⟨v1, v2, rfl, o1, o2, F1⟩
  generalize hy0 : Yd.begin starts nb = y0 at *
  obtain ⟨A1, c1, rfl⟩ := o1.value
  obtain ⟨A2, c2, rfl⟩ := o2.value
  have HF1 := Lib.hid F1
  have HYV := Lib.hid (YV.of_copy o1 o2)
  have HFA := Lib.hid (fun r o s (q : A1 = some ⟨r, o, s⟩) => own_fresh o1 r o s q)
  have HFB := Lib.hid (fun r o s (q : A2 = some ⟨r, o, s⟩) => own_fresh o2 r o s q)
  have HY0 := Lib.hid hy0
  clear F1 o1 o2 hy0
  go_wp2_with fail
  obtain ⟨H, hH⟩ : ∃ H, H = w1.heap.size := ⟨_, rfl⟩
  have hb1 := heap_alloc_new w1 (.cells #[.slice A1 y0.bufs.length c1, .slice A2 y0.blds.length c2] 42)
  have hz1 := HF1.out.size
  have hcm : CmI w ((w1.alloc (.cells #[.slice A1 y0.bufs.length c1, .slice A2 y0.blds.length c2] 42)).alloc (.cells #[] 27)) H cs full Inv (.slice (some ⟨H + 1, 0, none⟩) 0 0) y0 A1 y0.bufs.length c1 A2 y0.blds.length c2 [] := by
    have hl1 := fun h r o s q => HYV.out.lt1 h r o s q
    have hl2 := fun h r o s q => HYV.out.lt2 h r o s q
    refine ⟨by rw [HFULL.out]; rfl, HI.out, ?_, HYV.out.fr (((Fr.refl (fun _ => False) w1).alloc _).alloc _), ?_, ?_, ?_, by omega, (HF1.out.alloc _).alloc _⟩
    · rw [hH]
      exact ((Fr.refl (fun _ => False) _).alloc _).blk hb1 (fun q => q)
    · have := Own.empty 27 9 (w1.alloc (.cells #[.slice A1 y0.bufs.length c1, .slice A2 y0.blds.length c2] 42)) (base := w.heap.size) (by rw [World.size_alloc]; omega)
      rw [World.size_alloc, ← hH] at this
      exact this
    · intro h r o s q
      have := hl1 h r o s q
      refine ⟨by omega, fun e => ?_⟩
      have e := own_at e
      omega
    · intro h r o s q
      have := hl2 h r o s q
      refine ⟨by omega, fun e => ?_⟩
      have e := own_at e
      omega
  have HCM := Lib.hid hcm
  have HHH := Lib.hid hH
  clear hcm hb1 hz1
  rw [← hH]
  clear hH
  go_loopw [8, 20] (fun v8 v20 wr => ∃ (k : Nat) (y : Yd) (A1 : Option Addr) (n1 c1 : Nat) (A2 : Option Addr) (n2 c2 : Nat) (out : List Cl), k ≤ cs.length ∧ v20 = .int .i64 (k : Int) ∧ out.length ≤ k ∧ CmI w wr H (cs.drop k) full Inv v8 y A1 n1 c1 A2 n2 c2 out) (fun _ v20 _ => cs.length - (intOf v20).toNat)
  case atStart => exact ⟨0, y0, _, _, _, _, _, _, [], Nat.zero_le _, rfl, Nat.zero_le _, HCM.out⟩
  case round =>
    obtain ⟨k, y, A1, n1, c1, A2, n2, c2, out, hk, rfl, hout, hM⟩ := hrel
    have HM := Lib.hid hM
    by_cases hlt : k < cs.length
    · obtain ⟨d, hd⟩ : ∃ d, cs[k]? = some d := ⟨_, List.getElem?_eq_getElem hlt⟩
      obtain ⟨r, o, e1, hc⟩ := HC.out.at' k d hd
      subst e1
      have hdrop : cs.drop k = d :: cs.drop (k + 1) := by
        obtain ⟨hl, e⟩ := List.getElem?_eq_some_iff.1 hd
        rw [List.drop_eq_getElem_cons hl, e]
      have hinv := hM.inv
      have heq := hM.eq
      rw [hdrop] at hinv heq
      obtain ⟨s1, s2, s3, s4, s5⟩ := HSTEP.out y d (cs.drop (k + 1)) hinv
      have hq : ∀ j u, (Cl.cells d)[j]? = some u → wr.cell? ⟨r, o + k * 9 + j, none⟩ = some u := fun j u hu => (hM.fr.cell (World.block_lt_of_cell? _ _ (hc j u hu)) (fun q => q)).trans (hc j u hu)
      have hyv := hM.yv
      have hyb := hM.yb
      obtain ⟨A8, q8, rfl⟩ := hM.own.value
      have hHl : H < wr.heap.size := lt_of_blk hyb
      have hcall : ∀ w', Fr (fun _ => False) wr w' → Calls Tryz.prog 10 #[.agg #[.slice A1 n1 c1, .slice A2 n2 c2], d.val] w' (YPost w' A1 A2 (y.do d)) := fun w' hf => s5 A1 n1 c1 A2 n2 c2 w' (hyv.fr hf)
      unfold YPost at hcall
      generalize hres : y.do d = res at *
      obtain ⟨y', ⟨tn, ttx, tc, tsd⟩, ob⟩ := res
      simp only at s2 s3 s4 hcall
      have hcalm : calmF y (d :: cs.drop (k + 1)) = if ob = true ∧ tsd ≠ 3 then d :: calmF y' (cs.drop (k + 1)) else calmF y (cs.drop (k + 1)) := by
        simp only [calmF, hres]
      rw [hcalm] at heq
      have y0c : wr.cell? ⟨H, 0, none⟩ = some (.slice A1 n1 c1) := by rw [cell_of_row wr _ 0 _ _ _ hyb]; rfl
      have y1c : wr.cell? ⟨H, 1, none⟩ = some (.slice A2 n2 c2) := by rw [cell_of_row wr _ 1 _ _ _ hyb]; rfl
      obtain ⟨op, ca, cb, csize, cn, csign, cchar, ctext, ccuts, cad, ccap⟩ := d
      have c0 := hq 0 _ rfl
      have c1' := hq 1 _ rfl
      have c2' := hq 2 _ rfl
      have c3' := hq 3 _ rfl
      have c4 := hq 4 _ rfl
      have c5 := hq 5 _ rfl
      have c6 := hq 6 _ rfl
      have c7 := hq 7 _ rfl
      have c8 := hq 8 _ rfl
      simp only [Nat.add_zero] at c0
      have hki : (k : Int) < (cs.length : Int) := by omega
      have hk0 : (0 : Int) ≤ (k : Int) := by omega
      have hm0 : ¬ (H = wr.heap.size) := by omega
      have hm1 : ¬ (wr.heap.size = H) := by omega
      simp only [Cl.val, Cl.cells, Td.val, Td.cells] at hcall
      have HCALL := Lib.hid hcall
      have HEQ := Lib.hid heq
      have HS1 := Lib.hid s1
      have HS2 := Lib.hid s2
      have HS3 := Lib.hid s3
      have HS4 := Lib.hid s4
      have HYB := Lib.hid hyb
      clear hcall heq s1 s2 s3 s4 s5 hinv hd hc hq hM hyv hyb hres hcalm hdrop
      go_wp2_with fail
      refine (HCALL.out _ ((Fr.refl _ wr).alloc _)).mono ?_
      rintro e w3 ⟨B1, m1, k1, B2, m2, k2, rfl, hyv', F3, hf1, hf2⟩
      have hFw := ((Fr.refl (fun _ => False) wr).alloc (.cells #[.int .i64 op, .int .i64 ca, .int .i64 cb, .int .u16 (csize : Int), .int .i64 cn, .int .u8 (csign.toNat : Int), .int .i32 cchar, .string ⟨ctext.toArray⟩, .slice cad ccuts.length ccap] 27)).trans F3
      have hb10 := F3.blk (heap_alloc_new wr (.cells #[.int .i64 op, .int .i64 ca, .int .i64 cb, .int .u16 (csize : Int), .int .i64 cn, .int .u8 (csign.toNat : Int), .int .i32 cchar, .string ⟨ctext.toArray⟩, .slice cad ccuts.length ccap] 27)) (fun q => q)
      have hsz3 := F3.size
      rw [World.size_alloc] at hsz3 hf1 hf2
      have HYV3 := Lib.hid hyv'
      have HFW := Lib.hid hFw
      have HB10 := Lib.hid hb10
      have HFA1 := Lib.hid hf1
      have HFA2 := Lib.hid hf2
      clear hyv' F3 hFw hb10 hf1 hf2 y0c y1c c0 c1' c2' c3' c4 c5 c6 c7 c8
      by_cases hq : ob = true ∧ tsd ≠ 3
      · obtain ⟨rfl, hts⟩ := hq
        have hne : (tsd != 3) = true := by simpa using hts
        have heq2 := HEQ.out
        rw [if_pos ⟨rfl, hts⟩] at heq2
        have HEQ2 := Lib.hid heq2
        clear heq2 hts
        go_wp2_with fail
        obtain ⟨w4, hw4⟩ : ∃ w4, w4 = (w3.alloc (.cells #[.slice B1 m1 k1, .slice B2 m2 k2] 42)).alloc (.cells #[.int .i64 tn, .string ⟨ttx.toArray⟩, .int .i32 tc, .int .i64 tsd] 45) := ⟨_, rfl⟩
        have F34 : Fr (fun _ => False) w3 w4 := by rw [hw4]; exact ((Fr.refl (fun _ => False) w3).alloc _).alloc _
        have hb11 : w4.heap[w3.heap.size]? = some (.cells #[.slice B1 m1 k1, .slice B2 m2 k2] 42 (0, 0)) := by rw [hw4]; exact ((Fr.refl (fun _ => False) _).alloc _).blk (heap_alloc_new w3 _) (fun q => q)
        have hb10 := F34.blk HB10.out (fun q => q)
        have F4 := HFW.out.trans F34
        have hybH := F4.blk HYB.out (fun q => q)
        have hown4 := HM.out.own.fr F4 (fun _ _ q => q)
        have hs34 : w4.heap.size = w3.heap.size + 1 + 1 := by rw [hw4]; simp only [World.size_alloc]
        have hz := HM.out.fr.size
        rw [← hw4]
        have d0 : w4.cell? ⟨wr.heap.size, 0, none⟩ = some (.int .i64 op) := by rw [cell_of_row w4 _ 0 _ _ _ hb10]; rfl
        have d1 : w4.cell? ⟨wr.heap.size, 1, none⟩ = some (.int .i64 ca) := by rw [cell_of_row w4 _ 1 _ _ _ hb10]; rfl
        have d2 : w4.cell? ⟨wr.heap.size, 2, none⟩ = some (.int .i64 cb) := by rw [cell_of_row w4 _ 2 _ _ _ hb10]; rfl
        have d3 : w4.cell? ⟨wr.heap.size, 3, none⟩ = some (.int .u16 (csize : Int)) := by rw [cell_of_row w4 _ 3 _ _ _ hb10]; rfl
        have d4 : w4.cell? ⟨wr.heap.size, 4, none⟩ = some (.int .i64 cn) := by rw [cell_of_row w4 _ 4 _ _ _ hb10]; rfl
        have d5 : w4.cell? ⟨wr.heap.size, 5, none⟩ = some (.int .u8 (csign.toNat : Int)) := by rw [cell_of_row w4 _ 5 _ _ _ hb10]; rfl
        have d6 : w4.cell? ⟨wr.heap.size, 6, none⟩ = some (.int .i32 cchar) := by rw [cell_of_row w4 _ 6 _ _ _ hb10]; rfl
        have d7 : w4.cell? ⟨wr.heap.size, 7, none⟩ = some (.string ⟨ctext.toArray⟩) := by rw [cell_of_row w4 _ 7 _ _ _ hb10]; rfl
        have d8 : w4.cell? ⟨wr.heap.size, 8, none⟩ = some (.slice cad ccuts.length ccap) := by rw [cell_of_row w4 _ 8 _ _ _ hb10]; rfl
        have g0 : w4.cell? ⟨w3.heap.size, 0, none⟩ = some (.slice B1 m1 k1) := by rw [cell_of_row w4 _ 0 _ _ _ hb11]; rfl
        have g1 : w4.cell? ⟨w3.heap.size, 1, none⟩ = some (.slice B2 m2 k2) := by rw [cell_of_row w4 _ 1 _ _ _ hb11]; rfl
        have hnd : ∀ b, b = wr.heap.size ∨ b = w3.heap.size → ¬ ((Value.slice A8 out.length q8).ownBlock = some b ∨ w4.heap.size ≤ b ∨ b = H) := by
          intro b hb q
          rcases q with q | q | q
          · have := HM.out.own.blk_lt q
            omega
          · omega
          · omega
        have HS := Lib.hid (show ∀ w', Fr (fun x => (Value.slice A8 out.length q8).ownBlock = some x ∨ w4.heap.size ≤ x ∨ x = H) w4 w' → (w'.cell? ⟨wr.heap.size, 0, none⟩ = some (.int .i64 op) ∧ w'.cell? ⟨wr.heap.size, 1, none⟩ = some (.int .i64 ca) ∧ w'.cell? ⟨wr.heap.size, 2, none⟩ = some (.int .i64 cb) ∧ w'.cell? ⟨wr.heap.size, 3, none⟩ = some (.int .u16 (csize : Int)) ∧ w'.cell? ⟨wr.heap.size, 4, none⟩ = some (.int .i64 cn) ∧ w'.cell? ⟨wr.heap.size, 5, none⟩ = some (.int .u8 (csign.toNat : Int)) ∧ w'.cell? ⟨wr.heap.size, 6, none⟩ = some (.int .i32 cchar) ∧ w'.cell? ⟨wr.heap.size, 7, none⟩ = some (.string ⟨ctext.toArray⟩) ∧ w'.cell? ⟨wr.heap.size, 8, none⟩ = some (.slice cad ccuts.length ccap) ∧ w'.cell? ⟨w3.heap.size, 0, none⟩ = some (.slice B1 m1 k1) ∧ w'.cell? ⟨w3.heap.size, 1, none⟩ = some (.slice B2 m2 k2)) from fun w' F => ⟨(F.cell (World.block_lt_of_cell? _ _ d0) (hnd wr.heap.size (.inl rfl))).trans d0, (F.cell (World.block_lt_of_cell? _ _ d1) (hnd wr.heap.size (.inl rfl))).trans d1, (F.cell (World.block_lt_of_cell? _ _ d2) (hnd wr.heap.size (.inl rfl))).trans d2, (F.cell (World.block_lt_of_cell? _ _ d3) (hnd wr.heap.size (.inl rfl))).trans d3, (F.cell (World.block_lt_of_cell? _ _ d4) (hnd wr.heap.size (.inl rfl))).trans d4, (F.cell (World.block_lt_of_cell? _ _ d5) (hnd wr.heap.size (.inl rfl))).trans d5, (F.cell (World.block_lt_of_cell? _ _ d6) (hnd wr.heap.size (.inl rfl))).trans d6, (F.cell (World.block_lt_of_cell? _ _ d7) (hnd wr.heap.size (.inl rfl))).trans d7, (F.cell (World.block_lt_of_cell? _ _ d8) (hnd wr.heap.size (.inl rfl))).trans d8, (F.cell (World.block_lt_of_cell? _ _ g0) (hnd w3.heap.size (.inr rfl))).trans g0, (F.cell (World.block_lt_of_cell? _ _ g1) (hnd w3.heap.size (.inr rfl))).trans g1⟩)
        have h34 : w3.heap.size < w4.heap.size := by omega
        have hw4s : w.heap.size ≤ w4.heap.size := by omega
        have hneH : ∀ x, (Value.slice A8 out.length q8).ownBlock = some x → x ≠ H := fun x hx => hown4.ne_blk hybH (by decide) hx
        have HNE := Lib.hid hneH
        have HYBH := Lib.hid hybH
        have HOWN4 := Lib.hid hown4
        have HF4 := Lib.hid F4
        have HF34 := Lib.hid F34
        have hh0 : w4.cell? ⟨H, 0, none⟩ = some (.slice A1 n1 c1) := by rw [cell_of_row w4 _ 0 _ _ _ hybH]; rfl
        have hh1 : w4.cell? ⟨H, 1, none⟩ = some (.slice A2 n2 c2) := by rw [cell_of_row w4 _ 1 _ _ _ hybH]; rfl
        clear hs34 hw4 F34 hb11 hb10 F4 hybH hown4 hnd hneH hne
        go_region_held3 (fun w' => w'.cell? ⟨wr.heap.size, 0, none⟩ = some (.int .i64 op) ∧ w'.cell? ⟨wr.heap.size, 1, none⟩ = some (.int .i64 ca) ∧ w'.cell? ⟨wr.heap.size, 2, none⟩ = some (.int .i64 cb) ∧ w'.cell? ⟨wr.heap.size, 3, none⟩ = some (.int .u16 (csize : Int)) ∧ w'.cell? ⟨wr.heap.size, 4, none⟩ = some (.int .i64 cn) ∧ w'.cell? ⟨wr.heap.size, 5, none⟩ = some (.int .u8 (csign.toNat : Int)) ∧ w'.cell? ⟨wr.heap.size, 6, none⟩ = some (.int .i32 cchar) ∧ w'.cell? ⟨wr.heap.size, 7, none⟩ = some (.string ⟨ctext.toArray⟩) ∧ w'.cell? ⟨wr.heap.size, 8, none⟩ = some (.slice cad ccuts.length ccap) ∧ w'.cell? ⟨w3.heap.size, 0, none⟩ = some (.slice B1 m1 k1) ∧ w'.cell? ⟨w3.heap.size, 1, none⟩ = some (.slice B2 m2 k2)) (exact HS.out _ (by (repeat (with_reducible first | exact Fr.refl _ _ | exact HF5.out | refine Fr.setCell ?_ (fun _ => .inr (.inr rfl)) _ | refine Fr.drew ?_ | refine Fr.alloc ?_ _)))) ((refine step_app rfl elem_call (.tmp 37) (.tmp 39) rfl w.heap.size (Value.slice A8 out.length q8) out.length (cls out) (by rfl) (HOWN4.out.fr (((Fr.refl (fun _ => False) w4).alloc _).drew) (fun _ _ q => q)) w4.heap.size (Cl.cells ⟨op, ca, cb, csize, cn, csign, cchar, ctext, ccuts, cad, ccap⟩) 27 (by rfl) (by exact heap_alloc_new w4 _) rfl (by simp [Cl.cells, Value.oneCell']) (by omega) (by simp; omega) ?_; intro gb cap w5 hown hfr hat hltg; have HF5 := Lib.hid (show Fr (fun x => (Value.slice A8 out.length q8).ownBlock = some x ∨ w4.heap.size ≤ x ∨ x = H) w4 w5 from (((Fr.refl (fun x => (Value.slice A8 out.length q8).ownBlock = some x ∨ w4.heap.size ≤ x ∨ x = H) w4).alloc _).drew).trans (hfr.mono (fun _ _ q => .inl q))); have HFR5 := Lib.hid ((((Fr.refl (fun x => (Value.slice A8 out.length q8).ownBlock = some x) w4).alloc _).drew).trans hfr); have HOWN5 := Lib.hid hown; have HAT5 := Lib.hid hat; have hb5 := HFR5.out.blk HYBH.out (fun q => HNE.out _ q rfl); have HB5 := Lib.hid hb5; have h50 : w5.cell? ⟨H, 0, none⟩ = some (.slice A1 n1 c1) := (by rw [cell_of_row w5 _ 0 _ _ _ hb5]; rfl); have h51 : w5.cell? ⟨H, 1, none⟩ = some (.slice A2 n2 c2) := (by rw [cell_of_row w5 _ 1 _ _ _ hb5]; rfl); have z50 := frozen_row hb5 0; have z51 := frozen_row hb5 1; clear hown hfr hat hb5))
        go_wp2_with fail
        go_roundw
        case rel =>
          have J := just2 w5 H (.slice B1 m1 k1) (.slice B2 m2 k2)
          have hat := HAT5.out
          have hsz5 := HFR5.out.size
          have hA1 : y'.bufs ≠ [] → ∀ r o s, B1 = some ⟨r, o, s⟩ → (r ≠ H ∧ (Value.slice A8 out.length q8).ownBlock ≠ some r) ∧ r < w3.heap.size := by
            intro hb r o s q
            refine ⟨?_, HYV3.out.lt1 hb r o s q⟩
            rcases HFA1.out r o s q with h | h
            · refine ⟨by omega, fun q2 => ?_⟩
              have := HM.out.own.blk_lt q2
              omega
            · exact HM.out.r1 (fun e => hb (HS3.out e)) r o s h
          have hA2 : y'.blds ≠ [] → ∀ r o s, B2 = some ⟨r, o, s⟩ → (r ≠ H ∧ (Value.slice A8 out.length q8).ownBlock ≠ some r) ∧ r < w3.heap.size := by
            intro hb r o s q
            refine ⟨?_, HYV3.out.lt2 hb r o s q⟩
            rcases HFA2.out r o s q with h | h
            · refine ⟨by omega, fun q2 => ?_⟩
              have := HM.out.own.blk_lt q2
              omega
            · exact HM.out.r2 (fun e => hb (HS4.out e)) r o s h
          have hgb : ∀ r, (Value.slice A8 out.length q8).ownBlock ≠ some r → r < w3.heap.size → (Value.slice (some ⟨gb, 0, none⟩) (out.length + 1) cap).ownBlock ≠ some r := by
            intro r h1 h2 q
            have q := own_at q
            subst q
            rcases hat with h | h
            · exact h1 h
            · simp only [World.size_drew, World.size_alloc] at h
              omega
          refine ⟨k + 1, y', B1, m1, k1, B2, m2, k2, out ++ [⟨op, ca, cb, csize, cn, csign, cchar, ctext, ccuts, cad, ccap⟩], by omega, by go_num, by simp; omega, ?_⟩
          refine ⟨by rw [HEQ2.out]; simp, HS2.out, ?_, ?_, ?_, fun hb r o s q => ⟨(hA1 hb r o s q).1.1, hgb r (hA1 hb r o s q).1.2 (hA1 hb r o s q).2⟩, fun hb r o s q => ⟨(hA2 hb r o s q).1.1, hgb r (hA2 hb r o s q).1.2 (hA2 hb r o s q).2⟩, HM.out.hH, ?_⟩
          · simp [World.setCell, Array.getElem?_modify, HB5.out]
          · refine YV.fr' (S := fun x => (Value.slice A8 out.length q8).ownBlock = some x ∨ x = H) HYV3.out (((HF34.out.mono (fun _ _ q => q.elim)).trans (HFR5.out.mono (fun _ _ q => .inl q))).trans (J.mono (fun _ _ q => .inr q))) (fun hb r o s q => ?_) (fun hb r o s q => ?_)
            · rintro (h | h)
              · exact (hA1 hb r o s q).1.2 h
              · exact (hA1 hb r o s q).1.1 h
            · rintro (h | h)
              · exact (hA2 hb r o s q).1.2 h
              · exact (hA2 hb r o s q).1.1 h
          · have ho := HOWN5.out.fr J (fun x hx q => HOWN5.out.ne_blk HB5.out (by decide) hx q)
            unfold OwnC
            rw [cls_append, cls_one, List.length_append]
            exact ho
          · have hH := HM.out.hH
            exact ((HM.out.fr.trans HF4.out).trans' HFR5.out (fun x hx q => by have := HM.out.own.blk_ge q; omega)).trans' J (fun x hx q => by have q : x = H := q; omega)
        case measure => simp [intOf]; omega
      · have heq2 := HEQ.out
        rw [if_neg hq] at heq2
        have hMn : CmI w ((w3.alloc (.cells #[.slice B1 m1 k1, .slice B2 m2 k2] 42)).alloc (.cells #[.int .i64 tn, .string ⟨ttx.toArray⟩, .int .i32 tc, .int .i64 tsd] 45)) H (cs.drop (k + 1)) full Inv (.slice A8 out.length q8) y A1 n1 c1 A2 n2 c2 out := by
          have F := (HFW.out.alloc (.cells #[.slice B1 m1 k1, .slice B2 m2 k2] 42)).alloc (.cells #[.int .i64 tn, .string ⟨ttx.toArray⟩, .int .i32 tc, .int .i64 tsd] 45)
          exact ⟨heq2, HS1.out, F.blk HYB.out (fun q => q), HM.out.yv.fr F, HM.out.own.fr F (fun _ _ q => q), HM.out.r1, HM.out.r2, HM.out.hH, HM.out.fr.trans F⟩
        have HMN := Lib.hid hMn
        clear heq2 hMn
        cases ob with
        | false =>
          clear hq
          go_wp2_with fail
          go_roundw
          case rel => exact ⟨k + 1, y, A1, n1, c1, A2, n2, c2, out, by omega, by go_num, by omega, HMN.out⟩
          case measure => simp [intOf]; omega
        | true =>
          have hne : (tsd != 3) = false := by
            by_cases h : tsd = 3
            · simp [h]
            · exact absurd ⟨rfl, h⟩ hq
          clear hq
          go_wp2_with fail
          go_roundw
          case rel => exact ⟨k + 1, y, A1, n1, c1, A2, n2, c2, out, by omega, by go_num, by omega, HMN.out⟩
          case measure => simp [intOf]; omega
    · have hkk : k = cs.length := by omega
      subst hkk
      have heq := hM.eq
      rw [List.drop_length] at heq
      simp only [calmF, List.append_nil] at heq
      subst heq
      obtain ⟨A8, q8, rfl⟩ := hM.own.value
      have HO := Lib.hid hM.own
      have HF := Lib.hid hM.fr
      clear hM
      go_wp2_with fail
      go_ret
      exact ⟨_, rfl, HO.out, HF.out⟩
end Go.Proofs.YtkggebhkjgjijaaGreatDoor

namespace Go.Proofs.YtkggebhkjgjijaaGreatDoor
open Go

/-- The call writes a text that it has. -/
def Cl.writes (c : Cl) : Prop := (1 ≤ c.op ∧ c.op ≤ 5) ∨ (28 ≤ c.op ∧ c.op ≤ 31) ∨ (c.op = 27 ∧ c.n = 0)
instance (c : Cl) : Decidable c.writes := by unfold Cl.writes; infer_instance
instance (c : Cl) : Decidable c.isRead := by unfold Cl.isRead; infer_instance
instance (c : Cl) : Decidable c.isBack := by unfold Cl.isBack; infer_instance
/-- The call leaves the bytes of a buffer in their order. -/
def Cl.streams (c : Cl) : Prop := (c.op = 14 ∨ c.op = 17 ∨ c.op = 18 ∨ c.op = 19 ∨ c.op = 20 ∨ c.op = 26) ∨ (c.op < 28 ∧ c.writes) ∨ c.isRead ∨ c.isBack
instance (c : Cl) : Decidable c.streams := by unfold Cl.streams; infer_instance
def tells (c : Cl) : Prop := c.isRead ∨ c.op = 26
instance (c : Cl) : Decidable (tells c) := by unfold tells; infer_instance
/-- What a buffer has to do with all that was written, and the place that is reached. -/
structure OrdI (b : SB) (W : List UInt8) (at' size : Nat) : Prop where
  le : at' ≤ W.length
  tx : b.text = W.drop at'
  one : b.recent = 1 → 1 ≤ at' ∧ b.last = (W.drop (at' - 1)).take 1
  two : b.recent = 2 → size = b.last.length ∧ 0 < size ∧ size ≤ at' ∧ b.last = (W.drop (at' - size)).take size
  sz : size ≤ 4

theorem OrdI.other {b : SB} {W : List UInt8} {at' size : Nat} {t : List UInt8} (hle : at' ≤ W.length) (ht : t = W.drop at') (hs : size ≤ 4) : OrdI (b.other t) W at' size :=
  ⟨hle, ht, fun q => absurd q (by simp [SB.other]), fun q => absurd q (by simp [SB.other]), hs⟩
theorem drop_app {W s : List UInt8} {k : Nat} (h : k ≤ W.length) : (W ++ s).drop k = W.drop k ++ s := List.drop_append_of_le_length h
theorem OrdI.write {b : SB} {W : List UInt8} {at' size : Nat} (h : OrdI b W at' size) (s : List UInt8) : OrdI (b.write s) (W ++ s) at' size :=
  ⟨by have := h.le; simp; omega, by rw [drop_app h.le, ← h.tx]; rfl, fun q => absurd q (by simp [SB.write]), fun q => absurd q (by simp [SB.write]), h.sz⟩
theorem OrdI.read0 {b : SB} {W : List UInt8} {at' size : Nat} (r : Int) (h : OrdI b W at' size) (size' : Nat) (hs : size' ≤ 4) : OrdI (b.read 0 r) W at' size' := by
  simp only [SB.read, if_true]
  exact ⟨h.le, h.tx, fun q => absurd q (by simp), fun q => absurd q (by simp), hs⟩
theorem OrdI.read1 {b : SB} {W : List UInt8} {at' size n : Nat} {r : Int} (h : OrdI b W at' size) (_hn : n ≤ b.text.length) (_hr : r = 1 ∨ r = 5) : OrdI (b.read n r) W (at' + n) size := by
  have hl : b.text.length = W.length - at' := by rw [h.tx]; simp
  have hle := h.le
  rcases Nat.eq_zero_or_pos n with h0 | h0
  · subst h0
    exact h.read0 r size h.sz
  have hne : n ≠ 0 := by omega
  unfold SB.read
  rw [if_neg hne]
  refine ⟨by omega, by simp only; rw [h.tx, List.drop_drop], fun q => ⟨by omega, ?_⟩, fun q => by simp only at q; omega, h.sz⟩
  simp only
  rw [if_neg (by omega), h.tx, List.drop_drop]
  congr 2
  omega
theorem OrdI.read2 {b : SB} {W : List UInt8} {at' size n : Nat} (h : OrdI b W at' size) (h0 : 0 < n) (_hn : n ≤ b.text.length) (h4 : n ≤ 4) : OrdI (b.read n 2) W (at' + n) n := by
  have hl : b.text.length = W.length - at' := by rw [h.tx]; simp
  have hle := h.le
  have hne : n ≠ 0 := by omega
  unfold SB.read
  rw [if_neg hne]
  refine ⟨by omega, by simp only; rw [h.tx, List.drop_drop], fun q => absurd q (by simp), fun q => ⟨?_, h0, by omega, ?_⟩, h4⟩
  · simp; omega
  · simp only [if_true]
    rw [h.tx]
    congr 2
    omega
theorem OrdI.back {b : SB} {W : List UInt8} {at' size k : Nat} {t : List UInt8} (h : OrdI b W at' size) (_hk : k ≤ at') (ht : t = (W.drop (at' - k)).take k ++ b.text) : OrdI (b.other t) W (at' - k) size := by
  refine OrdI.other (by have := h.le; omega) ?_ h.sz
  rw [ht, h.tx]
  have : W.drop at' = (W.drop (at' - k)).drop k := by rw [List.drop_drop]; congr 1; omega
  rw [this, List.take_append_drop]

end Go.Proofs.YtkggebhkjgjijaaGreatDoor

namespace Go.Proofs.YtkggebhkjgjijaaGreatDoor
open Go

/-- A read got all that it asked for. -/
def fullF (c : Cl) (t : Td) : Prop :=
  if c.op = 6 ∨ c.op = 7 then t.text.length = c.size
  else if c.op = 11 then t.said = 0 ∧ ¬ (t.char = 65533 ∧ t.n = 1)
  else t.said = 0
instance (c : Cl) (t : Td) : Decidable (fullF c t) := by unfold fullF; infer_instance
/-- The calls that the law plays. -/
def Cl.wr (c : Cl) : Prop := c.a = 0 ∧ ((c.op < 28 ∧ c.writes) ∨ c.isRead) ∧ c.valid
end Go.Proofs.YtkggebhkjgjijaaGreatDoor

namespace Go.Proofs.YtkggebhkjgjijaaGreatDoor
open Go Go.RowKit

theorem Own.lower {E : TypeId} {size : Nat} {w : World} {base base' : Nat} {v : Value} {n : Nat} {xs : List Value} (h : Own E size w base v n xs) (hb : base' ≤ base) : Own E size w base' v n xs := by
  refine ⟨h.1, ?_⟩
  rcases h.2 with k | ⟨g, cap, cur, e, k1, k⟩
  · exact .inl k
  · exact .inr ⟨g, cap, cur, e, Nat.le_trans hb k1, k⟩
def Cl.at0 (c : Cl) : Cl := { c with a := 0 }
/-- The calls that are kept, all of the first buffer. -/
def keepF (keep : Cl → Bool) (l : List Cl) : List Cl := (l.map Cl.at0).filter keep
theorem keep_succ {keep : Cl → Bool} {cs : List Cl} {k : Nat} {d : Cl} (h : cs[k]? = some d) : keepF keep (cs.take (k + 1)) = keepF keep (cs.take k) ++ (if keep d.at0 = true then [d.at0] else []) := by
  obtain ⟨hl, e⟩ := List.getElem?_eq_some_iff.1 h
  rw [List.take_succ_eq_append_getElem hl, e]
  simp only [keepF, List.map_append, List.map_cons, List.map_nil, List.filter_append, List.filter_cons, List.filter_nil]
theorem keep_len (keep : Cl → Bool) (cs : List Cl) (k : Nat) : (keepF keep (cs.take k)).length ≤ k := by
  refine Nat.le_trans (List.length_filter_le _ _) ?_
  simp
  omega
/-- A test of calls, as the code has it. -/
def TestOk (fid : FuncId) (keep : Cl → Bool) : Prop := ∀ (c : Cl) (w : World), Calls Tryz.prog fid #[c.val] w fun e w' => e = .returned (.bool (keep c)) ∧ Fr (fun _ => False) w w'
end Go.Proofs.YtkggebhkjgjijaaGreatDoor

namespace Go.Proofs.YtkggebhkjgjijaaGreatDoor
open Go Go.RowKit

theorem fr_one (w : World) (o : Obj) : Fr (fun _ => False) w (w.alloc o) := (Fr.refl _ w).alloc o
end Go.Proofs.YtkggebhkjgjijaaGreatDoor
