/- The walk of laws.FnWritesEarlier. -/
import Derived.Test.YtbodbajgpgaoeaaGreatDoorQErlS
namespace Go.Proofs.YtbodbajgpgaoeaaGreatDoor
open Go Go.RowKit

set_option maxHeartbeats 12800000 in
set_option maxRecDepth 100000 in
theorem writesEarlier_walk (text : List UInt8) (way : Int) (space : Nat) (cs : List Cl) (A : Option Addr) (c : Nat) (ea eu : Addr) (w : World) (hC : Reads Cl.cells 9 w A cs) (hok : CallsOk w cs)
    (hs : text.length ≤ 1048576) (hsp : space ≤ 65535) (hG : Gl w.heap.size ea eu w) :
    Calls Tryz.prog 8 #[.agg #[.string ⟨text.toArray⟩, .int .i64 way, .int .u16 (space : Int)], .slice A cs.length c] w (LawPost w) := by
  have HC := Lib.hid hC
  have HOK := Lib.hid hok
  have HG := Lib.hid hG
  have hfew := hok.few
  clear hC hok hG
  obtain ⟨w0, hw0⟩ : ∃ w0, w0 = w.alloc (.cells #[.string ⟨text.toArray⟩, .int .i64 way, .int .u16 (space : Int)] 24) := ⟨_, rfl⟩
  have k0 := heap_alloc_new w (.cells #[.string ⟨text.toArray⟩, .int .i64 way, .int .u16 (space : Int)] 24)
  rw [← hw0] at k0
  have hF0 : Fr (fun _ => False) w w0 := by rw [hw0]; exact fr_one w _
  have hsz0 : w0.heap.size = w.heap.size + 1 := by rw [hw0]; simp only [World.size_alloc]
  have HSZ0 := Lib.hid hsz0
  have HF0 := Lib.hid hF0
  have HW0 := Lib.hid hw0
  have HK0 := Lib.hid k0
  have s0 : w0.cell? ⟨w.heap.size, 0, none⟩ = some (.string ⟨text.toArray⟩) := by rw [cell_of_row w0 _ 0 _ _ _ k0]; rfl
  have s1 : w0.cell? ⟨w.heap.size, 1, none⟩ = some (.int .i64 way) := by rw [cell_of_row w0 _ 1 _ _ _ k0]; rfl
  have s2 : w0.cell? ⟨w.heap.size, 2, none⟩ = some (.int .u16 (space : Int)) := by rw [cell_of_row w0 _ 2 _ _ _ k0]; rfl
  clear hw0 hF0 k0
  have hlong : ∀ bb, bb = decide (4096 < cs.length) → Calls Tryz.prog 9 #[.slice (some ⟨w.heap.size + 1, 0, none⟩) 1 1] (w0.alloc (.cells #[.slice A cs.length c] 25)) fun e w' => e = .returned (.bool bb) ∧ w' = w0.alloc (.cells #[.slice A cs.length c] 25) := by
    intro bb hbb
    rw [hbb]
    have hcell : (w0.alloc (.cells #[.slice A cs.length c] 25)).cell? ⟨w.heap.size + 1, 0, none⟩ = some (.slice A cs.length c) := by rw [← hsz0, cell_of_row _ _ 0 _ _ _ (heap_alloc_new w0 _)]; rfl
    exact long_1 (w.heap.size + 1) A cs.length c _ hcell (by omega)
  have HLONG := Lib.hid hlong
  clear hlong hsz0
  by_cases hbig : 4096 < cs.length
  · go_enter Tryz.func8, Tryz.ntmps8
    go_wp2_with fail
    rw [← HW0.out]
    refine (HLONG.out true (by simp [hbig])).mono ?_
    rintro e w1 ⟨rfl, hw1⟩
    rw [hw1]
    clear hw1
    go_wp2_with fail
    go_ret
    exact ⟨rfl, HF0.out.alloc _⟩
  go_enter Tryz.func8, Tryz.ntmps8
  go_wp2_with fail
  rw [← HW0.out]
  refine (HLONG.out false (by simp [hbig])).mono ?_
  rintro e w1 ⟨rfl, hw1⟩
  rw [hw1]
  clear hw1
  obtain ⟨w2, hw2⟩ : ∃ w2, w2 = w0.alloc (.cells #[.slice A cs.length c] 25) := ⟨_, rfl⟩
  rw [← hw2]
  have hF2 : Fr (fun _ => False) w0 w2 := by rw [hw2]; exact fr_one w0 _
  have s0b : w2.cell? ⟨w.heap.size, 0, none⟩ = some (.string ⟨text.toArray⟩) := (hF2.cell (World.block_lt_of_cell? _ _ s0) (fun q => q)).trans s0
  have s1b : w2.cell? ⟨w.heap.size, 1, none⟩ = some (.int .i64 way) := (hF2.cell (World.block_lt_of_cell? _ _ s1) (fun q => q)).trans s1
  have s2b : w2.cell? ⟨w.heap.size, 2, none⟩ = some (.int .u16 (space : Int)) := (hF2.cell (World.block_lt_of_cell? _ _ s2) (fun q => q)).trans s2
  have HF2 := Lib.hid (HF0.out.trans hF2)
  have HRS2 := Lib.hid (Reads.of_block St.cells_len (heap_alloc_new w2 (.cells #[.string ⟨text.toArray⟩, .int .i64 way, .int .u16 (space : Int)] 24)) rfl : Reads St.cells 3 (w2.alloc (.cells #[.string ⟨text.toArray⟩, .int .i64 way, .int .u16 (space : Int)] 24)) (some ⟨w2.heap.size, 0, none⟩) [⟨text, way, space⟩])
  clear hw2 hF2 s0 s1 s2
  go_wp2_with fail
  have hbeg := sp_begin [⟨text, way, space⟩] 0 (some ⟨w2.heap.size, 0, none⟩) 1 (w2.alloc (.cells #[.string ⟨text.toArray⟩, .int .i64 way, .int .u16 (space : Int)] 24)) HRS2.out (by simp) (by omega)
  have HBEG := Lib.hid hbeg
  clear hbeg
  refine HBEG.out.mono ?_
  rintro e w3 ⟨v1, v2, rfl, o1, o2, F3⟩
  have o1 : Own 81 4 w3 (w2.alloc (.cells #[.string ⟨text.toArray⟩, .int .i64 way, .int .u16 (space : Int)] 24)).heap.size v1 1 (sbs [b0 ⟨text, way, space⟩]) := o1
  have o2 : Own 9 1 w3 (w2.alloc (.cells #[.string ⟨text.toArray⟩, .int .i64 way, .int .u16 (space : Int)] 24)).heap.size v2 0 (strs []) := o2
  obtain ⟨A1, c1, rfl⟩ := o1.value
  obtain ⟨A2, c2, rfl⟩ := o2.value
  have hyv : YV w3 A1 1 c1 A2 0 c2 (yd1 (b0 ⟨text, way, space⟩)) := YV.of_copy (y := yd1 (b0 ⟨text, way, space⟩)) o1 o2
  have F23 := (fr_one w2 (.cells #[.string ⟨text.toArray⟩, .int .i64 way, .int .u16 (space : Int)] 24)).trans F3
  have HF3 := Lib.hid (HF2.out.trans F23)
  have HRS3 := Lib.hid (HRS2.out.fr0 F3)
  have HYV := Lib.hid hyv
  have s0c : w3.cell? ⟨w.heap.size, 0, none⟩ = some (.string ⟨text.toArray⟩) := keep1 F23 s0b
  have s0l : ∀ o : Obj, (w3.alloc o).cell? ⟨w.heap.size, 0, none⟩ = some (.string ⟨text.toArray⟩) := fun o => alloc_cell s0c
  have s1c : w3.cell? ⟨w.heap.size, 1, none⟩ = some (.int .i64 way) := keep1 F23 s1b
  have s1l : ∀ o : Obj, (w3.alloc o).cell? ⟨w.heap.size, 1, none⟩ = some (.int .i64 way) := fun o => alloc_cell s1c
  have s2c : w3.cell? ⟨w.heap.size, 2, none⟩ = some (.int .u16 (space : Int)) := keep1 F23 s2b
  have s2l : ∀ o : Obj, (w3.alloc o).cell? ⟨w.heap.size, 2, none⟩ = some (.int .u16 (space : Int)) := fun o => alloc_cell s2c
  have hz23 : w2.heap.size + 1 ≤ w3.heap.size := by have := F3.size; rw [World.size_alloc] at this; exact this
  clear o1 o2 F3 F23 hyv s0b s1b s2b HBEG
  go_wp2_with fail
  have hone := one_earlier InvB stepB ⟨text, way, space⟩ (fun c => decide (c.op < 28 ∧ c.writes ∨ c.isRead)) t_earlier cs A c (w3.alloc (.cells #[.slice A1 1 c1, .slice A2 0 c2] 59)) (HC.out.fr0 (HF3.out.alloc _)) (by omega) (keep_inv earlier_first HOK.out ⟨text, way, space⟩ (by simp only; omega))
  have HONE := Lib.hid hone
  clear hone
  refine HONE.out.mono ?_
  rintro e w5 ⟨vl, rfl, hown, F5⟩
  obtain ⟨hplay, hws, hll⟩ := calm_play (keep := (fun c => decide (c.op < 28 ∧ c.writes ∨ c.isRead))) earlier_first HOK.out ⟨text, way, space⟩ (by simp only; omega)
  have hwr := earlier_wr ⟨text, way, space⟩ cs
  generalize hL : calmF (Yd.begin [⟨text, way, space⟩] 0) (keepF (fun c => decide (c.op < 28 ∧ c.writes ∨ c.isRead)) cs) = L at *
  obtain ⟨AL, qL, rfl⟩ := hown.value
  have F35 := (fr_one w3 (.cells #[.slice A1 1 c1, .slice A2 0 c2] 59)).trans F5
  have HF5 := Lib.hid (HF3.out.trans F35)
  have HRS5 := Lib.hid (HRS3.out.fr0 F35)
  have HRD5 := Lib.hid (show Reads Cl.cells 9 w5 AL L from Own.readsAt Cl.cells_len (by decide) (by have k := hown; exact k))
  obtain ⟨H, hH⟩ : ∃ H, H = w3.heap.size := ⟨_, rfl⟩
  obtain ⟨base, hbase⟩ : ∃ base, base = w5.heap.size := ⟨_, rfl⟩
  have hlh : ∀ r o, AL = some ⟨r, o, none⟩ → ¬ (r = H) := fun r o q k => by
    obtain ⟨A', c', e, _, _, hb⟩ := Own.reads (cells := Cl.cells) Cl.cells_len (by decide) hown
    injection e with e1 e2 e3
    subst e1
    have := (hb r o q).2
    rw [World.size_alloc] at this
    omega
  have HLH := Lib.hid hlh
  obtain ⟨full, hfull⟩ : ∃ full, full = scrF (yd1 (b0 ⟨text, way, space⟩)) L := ⟨_, rfl⟩
  have hb3 := heap_alloc_new w3 (.cells #[.slice A1 1 c1, .slice A2 0 c2] 59)
  have hsz5 := F5.size
  rw [World.size_alloc] at hsz5
  have hz3 := HF3.out.size
  have hei : EI w w5 w5 base H full L (.slice none 0 0) (.slice none 0 0) (.slice none 0 0) (b0 ⟨text, way, space⟩) A1 c1 A2 c2 [] := by
    refine ⟨by rw [hfull]; rfl, b0_good _, ?_, ?_, HYV.out.fr F35, Own.nil _ _ _ _, Own.nil _ _ _ _, Own.nil _ _ _ _, (by intro x e; cases e), (by intro x e; cases e), (by intro x e; cases e), fun r o s q => ⟨?_, (by intro e; cases e), (by intro e; cases e), (by intro e; cases e)⟩, by omega, by omega, HF5.out, hbase, Fr.refl _ _⟩
    · have := HOK.out.sz
      show text.length + wsum L + 16 ≤ _
      omega
    · rw [hH]
      exact F5.blk hb3 (fun q => q)
    · have := HYV.out.lt1 (by simp [yd1]) r o s q
      omega
  have HEI := Lib.hid hei
  have HWR := Lib.hid hwr
  have HPLAY := Lib.hid hplay
  have HWS := Lib.hid hws
  have HFULL := Lib.hid hfull
  have HBASE := Lib.hid hbase
  have hll' : L.length ≤ 4096 := by omega
  have HHH := Lib.hid hH
  rw [← hH]
  clear hlh hH hbase hfull hb3 hsz5 hei hwr hplay hws hll hL hown F5 F35 s0c s1c s2c s0l s1l s2l HONE
  go_wp2_with fail
  go_loopw [7, 8, 9, 35] (fun v7 v8 v9 v35 wr => ∃ (k : Nat) (b : SB) (A1 : Option Addr) (c1 : Nat) (A2 : Option Addr) (c2 : Nat) (s : List Cl), k ≤ L.length ∧ v35 = .int .i64 (k : Int) ∧ s.length ≤ k ∧ EI w w5 wr base H full (L.drop k) v7 v8 v9 b A1 c1 A2 c2 s) (fun _ _ _ v35 _ => L.length - (intOf v35).toNat)
  case atStart => exact ⟨0, b0 ⟨text, way, space⟩, A1, c1, A2, c2, [], Nat.zero_le _, rfl, Nat.le_refl _, HEI.out⟩
  case round =>
    obtain ⟨k, b, A1, c1, A2, c2, s, hk, rfl, hsk, hM⟩ := hrel
    have HM := Lib.hid hM
    obtain ⟨A7, q7, rfl⟩ := hM.o7.value
    obtain ⟨A8, q8, rfl⟩ := hM.o8.value
    obtain ⟨A9, q9, rfl⟩ := hM.o9.value
    by_cases hlt : k < L.length
    · obtain ⟨d, hd⟩ : ∃ d, L[k]? = some d := ⟨_, List.getElem?_eq_getElem hlt⟩
      have hdrop : L.drop k = d :: L.drop (k + 1) := by
        obtain ⟨hl, e⟩ := List.getElem?_eq_some_iff.1 hd
        rw [List.drop_eq_getElem_cons hl, e]
      rw [hdrop] at hM
      have HM := Lib.hid hM
      have hdw := HWR.out d (List.mem_of_getElem? hd)
      have hsz := ((HPLAY.out.ok d (List.mem_of_getElem? hd)).size)
      obtain ⟨b', tt, hdo⟩ := wr_do hdw b
      have hst := yd1_step b d (wr_first hdw) hM.good
      obtain ⟨b'', e1, hg', hl'⟩ := hst
      rw [hdo] at e1
      have e2 : b' = b'' := by
        have := congrArg Yd.bufs e1
        simpa [yd1] using this
      subst e2
      have hlen := hM.len
      rw [wsum_cons] at hlen
      have hcall := fun w' (hf : Fr (fun _ => False) wr w') => sp_Do b d A1 c1 A2 c2 w' (hM.yv.fr hf) (wr_first hdw) hM.good (by omega) hsz
      rw [hdo] at hcall
      unfold YPost at hcall
      have hyb := hM.yb
      have y0c : wr.cell? ⟨H, 0, none⟩ = some (.slice A1 1 c1) := by rw [cell_of_row wr _ 0 _ _ _ hyb]; rfl
      have y1c : wr.cell? ⟨H, 1, none⟩ = some (.slice A2 0 c2) := by rw [cell_of_row wr _ 1 _ _ _ hyb]; rfl
      have y0l : ∀ o : Obj, (wr.alloc o).cell? ⟨H, 0, none⟩ = some (.slice A1 1 c1) := fun o => alloc_cell y0c
      have y1l : ∀ o : Obj, (wr.alloc o).cell? ⟨H, 1, none⟩ = some (.slice A2 0 c2) := fun o => alloc_cell y1c
      have hHl : H < wr.heap.size := lt_of_blk hyb
      obtain ⟨r, o, e1, hc⟩ := HRD5.out.at' k d hd
      subst e1
      have hq : ∀ j u, (Cl.cells d)[j]? = some u → wr.cell? ⟨r, o + k * 9 + j, none⟩ = some u := fun j u hu => (hM.frb.cell (World.block_lt_of_cell? _ _ (hc j u hu)) (fun q => HLH.out r o rfl q)).trans (hc j u hu)
      obtain ⟨dd, hdd⟩ : ∃ dd, dd = d := ⟨_, rfl⟩
      obtain ⟨t0, ht0⟩ : ∃ t0, t0 = tt := ⟨_, rfl⟩
      have hM' : EI w w5 wr base H full (dd :: L.drop (k + 1)) (.slice A7 s.length q7) (.slice A8 (wrL s).length q8) (.slice A9 (rdL s).length q9) b A1 c1 A2 c2 s := by rw [hdd]; exact hM
      have hdo' : (yd1 b).do dd = (yd1 b', t0, true) := by rw [hdd, ht0]; exact hdo
      have hl2 : b'.text.length ≤ b.text.length + dd.text.length + 4 := by rw [hdd]; exact hl'
      obtain ⟨br, hbr⟩ : ∃ br, br = decide dd.isRead := ⟨_, rfl⟩
      obtain ⟨bf, hbf⟩ : ∃ bf, bf = decide (fullF dd t0) := ⟨_, rfl⟩
      have hrr : ∀ w', Calls Tryz.prog 16 #[d.val] w' fun e w'' => e = .returned (.bool br) ∧ Fr (fun _ => False) w' w'' := fun w' => by rw [hbr, hdd]; exact t_reads d w'
      have hff : ∀ w', Calls Tryz.prog 31 #[d.val, tt.val] w' fun e w'' => e = .returned (.bool bf) ∧ Fr (fun _ => False) w' w'' := fun w' => by rw [hbf, hdd, ht0]; exact full_any d tt w' hsz
      obtain ⟨op, ca, cb, csize, cn, csign, cchar, ctext, ccuts, cad, ccap⟩ := d
      obtain ⟨tn, ttext, tchar, tsaid⟩ := tt
      have c0 := hq 0 _ rfl
      have c1 := hq 1 _ rfl
      have c2 := hq 2 _ rfl
      have c3 := hq 3 _ rfl
      have c4 := hq 4 _ rfl
      have c5 := hq 5 _ rfl
      have c6 := hq 6 _ rfl
      have c7 := hq 7 _ rfl
      have c8 := hq 8 _ rfl
      simp only [Nat.add_zero] at c0
      have hki : (k : Int) < (L.length : Int) := by omega
      have hk0 : (0 : Int) ≤ (k : Int) := by omega
      have hm0 : ¬ (H = wr.heap.size) := by omega
      have hm1 : ¬ (wr.heap.size = H) := by omega
      simp only [Cl.val, Cl.cells, Td.val, Td.cells] at hcall hrr hff
      have HCALL := Lib.hid hcall
      have HR := Lib.hid hrr
      have HFF := Lib.hid hff
      have HMM := Lib.hid hM'
      have HDO := Lib.hid hdo'
      have HL2 := Lib.hid hl2
      have HGG := Lib.hid hg'
      have HBR := Lib.hid hbr
      have HBF := Lib.hid hbf
      have HDD := Lib.hid hdd
      have HYB := Lib.hid hyb
      clear hcall hrr hff hM' hdo' hl2 hg' hl' hbr hbf hdd ht0 hyb hM HM hdw hsz hdo hlen hd hc hq hdrop y0c y1c
      go_wp2_with fail
      refine (HCALL.out _ ((Fr.refl _ wr).alloc _)).mono ?_
      rintro e wc ⟨B1, m1, k1, B2, m2, k2, rfl, hyv', F3, hf1, hf2⟩
      obtain rfl : m1 = 1 := hyv'.l1
      obtain rfl : m2 = 0 := hyv'.l2
      have hb10 := F3.blk (heap_alloc_new wr (.cells #[.int .i64 op, .int .i64 ca, .int .i64 cb, .int .u16 (csize : Int), .int .i64 cn, .int .u8 (csign.toNat : Int), .int .i32 cchar, .string ⟨ctext.toArray⟩, .slice cad ccuts.length ccap] 36)) (fun q => q)
      have hFw := ((Fr.refl (fun _ => False) wr).alloc (.cells #[.int .i64 op, .int .i64 ca, .int .i64 cb, .int .u16 (csize : Int), .int .i64 cn, .int .u8 (csign.toNat : Int), .int .i32 cchar, .string ⟨ctext.toArray⟩, .slice cad ccuts.length ccap] 36)).trans F3
      rw [World.size_alloc] at hf1
      have HB1 := Lib.hid (show ∀ r o s, B1 = some ⟨r, o, s⟩ → wr.heap.size ≤ r ∨ A1 = some ⟨r, o, s⟩ from fun r o s q => (hf1 r o s q).imp (fun k => by omega) id)
      have HYV2 := Lib.hid hyv'
      have HFW := Lib.hid hFw
      have HB10 := Lib.hid hb10
      obtain ⟨e0, e1, e2, e3, e4, e5, e6, e7, e8⟩ := row9 hb10
      have e0l : ∀ o o' : Obj, ((wc.alloc o).alloc o').cell? ⟨wr.heap.size, 0, none⟩ = some (.int .i64 op) := fun o o' => alloc_cell (alloc_cell e0)
      have e1l : ∀ o o' : Obj, ((wc.alloc o).alloc o').cell? ⟨wr.heap.size, 1, none⟩ = some (.int .i64 ca) := fun o o' => alloc_cell (alloc_cell e1)
      have e2l : ∀ o o' : Obj, ((wc.alloc o).alloc o').cell? ⟨wr.heap.size, 2, none⟩ = some (.int .i64 cb) := fun o o' => alloc_cell (alloc_cell e2)
      have e3l : ∀ o o' : Obj, ((wc.alloc o).alloc o').cell? ⟨wr.heap.size, 3, none⟩ = some (.int .u16 (csize : Int)) := fun o o' => alloc_cell (alloc_cell e3)
      have e4l : ∀ o o' : Obj, ((wc.alloc o).alloc o').cell? ⟨wr.heap.size, 4, none⟩ = some (.int .i64 cn) := fun o o' => alloc_cell (alloc_cell e4)
      have e5l : ∀ o o' : Obj, ((wc.alloc o).alloc o').cell? ⟨wr.heap.size, 5, none⟩ = some (.int .u8 (csign.toNat : Int)) := fun o o' => alloc_cell (alloc_cell e5)
      have e6l : ∀ o o' : Obj, ((wc.alloc o).alloc o').cell? ⟨wr.heap.size, 6, none⟩ = some (.int .i32 cchar) := fun o o' => alloc_cell (alloc_cell e6)
      have e7l : ∀ o o' : Obj, ((wc.alloc o).alloc o').cell? ⟨wr.heap.size, 7, none⟩ = some (.string ⟨ctext.toArray⟩) := fun o o' => alloc_cell (alloc_cell e7)
      have e8l : ∀ o o' : Obj, ((wc.alloc o).alloc o').cell? ⟨wr.heap.size, 8, none⟩ = some (.slice cad ccuts.length ccap) := fun o o' => alloc_cell (alloc_cell e8)
      clear hyv' F3 hf1 hf2 hb10 hFw y0l y1l c0 c1 c2 c3 c4 c5 c6 c7 c8 HCALL
      go_wp2_with fail
      obtain ⟨wb, hwb⟩ : ∃ wb, wb = (wc.alloc (.cells #[.slice B1 1 k1, .slice B2 0 k2] 59)).alloc (.cells #[.int .i64 tn, .string ⟨ttext.toArray⟩, .int .i32 tchar, .int .i64 tsaid] 39) := ⟨_, rfl⟩
      have Fcb : Fr (fun _ => False) wc wb := by rw [hwb]; exact ((Fr.refl (fun _ => False) wc).alloc _).alloc _
      obtain ⟨kb0, kb1⟩ := two_blocks wc (.cells #[.slice B1 1 k1, .slice B2 0 k2] 59) (.cells #[.int .i64 tn, .string ⟨ttext.toArray⟩, .int .i32 tchar, .int .i64 tsaid] 39)
      rw [← hwb] at kb0 kb1
      rw [← hwb]
      clear hwb e0 e0l e1 e1l e2 e2l e3 e3l e4 e4l e5 e5l e6 e6l e7 e7l e8 e8l
      refine (HR.out wb).mono ?_
      rintro e wd ⟨rfl, F6⟩
      have HKB0 := Lib.hid (F6.blk kb0 (fun q => q))
      have HKB1 := Lib.hid (F6.blk kb1 (fun q => q))
      have HFcd := Lib.hid (Fcb.trans F6)
      clear kb0 kb1 Fcb F6
      have HFd := Lib.hid (HFW.out.trans HFcd.out)
      have HCBd := Lib.hid (HFcd.out.blk HB10.out (fun q => q))
      have HYBd := Lib.hid (HFd.out.blk HYB.out (fun q => q))
      cases br with
      | false =>
        obtain ⟨d0, d1, d2, d3, d4, d5, d6, d7, d8⟩ := row9 HCBd.out
        have g0 : wd.cell? ⟨wc.heap.size, 0, none⟩ = some (.slice B1 1 k1) := by rw [cell_of_row wd _ 0 _ _ _ HKB0.out]; rfl
        have g1 : wd.cell? ⟨wc.heap.size, 1, none⟩ = some (.slice B2 0 k2) := by rw [cell_of_row wd _ 1 _ _ _ HKB0.out]; rfl
        have h0 : wd.cell? ⟨H, 0, none⟩ = some (.slice A1 1 c1) := by rw [cell_of_row wd _ 0 _ _ _ HYBd.out]; rfl
        have h1 : wd.cell? ⟨H, 1, none⟩ = some (.slice A2 0 c2) := by rw [cell_of_row wd _ 1 _ _ _ HYBd.out]; rfl
        have z0 := frozen_row HYBd.out 0
        have z1 := frozen_row HYBd.out 1
        have J := just2 wd H (.slice B1 1 k1) (.slice B2 0 k2)
        have HEJ := Lib.hid (EJ.of HMM.out HDO.out (fun q => (of_decide_eq_false HBR.out.symm) q.1) HGG.out HL2.out HFd.out (HYV2.out.fr HFcd.out) HB1.out)
        have hzW : ((wd.setCell ⟨H, 0, none⟩ (.slice B1 1 k1)).setCell ⟨H, 1, none⟩ (.slice B2 0 k2)).heap.size = wd.heap.size := by simp
        have hrb : Reads Cl.cells 9 (((wd.setCell ⟨H, 0, none⟩ (.slice B1 1 k1)).setCell ⟨H, 1, none⟩ (.slice B2 0 k2)).alloc (.cells #[.int .i64 op, .int .i64 ca, .int .i64 cb, .int .u16 (csize : Int), .int .i64 cn, .int .u8 (csign.toNat : Int), .int .i32 cchar, .string ⟨ctext.toArray⟩, .slice cad ccuts.length ccap] 36)) (some ⟨wd.heap.size, 0, none⟩) [⟨op, ca, cb, csize, cn, csign, cchar, ctext, ccuts, cad, ccap⟩] := by
          have q := Reads.of_block Cl.cells_len (heap_alloc_new ((wd.setCell ⟨H, 0, none⟩ (.slice B1 1 k1)).setCell ⟨H, 1, none⟩ (.slice B2 0 k2)) (.cells #[.int .i64 op, .int .i64 ca, .int .i64 cb, .int .u16 (csize : Int), .int .i64 cn, .int .u8 (csign.toNat : Int), .int .i32 cchar, .string ⟨ctext.toArray⟩, .slice cad ccuts.length ccap] 36)) (xs := [⟨op, ca, cb, csize, cn, csign, cchar, ctext, ccuts, cad, ccap⟩]) rfl
          rw [hzW] at q
          exact q
        have HRB := Lib.hid hrb
        have hbW : (((wd.setCell ⟨H, 0, none⟩ (.slice B1 1 k1)).setCell ⟨H, 1, none⟩ (.slice B2 0 k2)).alloc (.cells #[.int .i64 op, .int .i64 ca, .int .i64 cb, .int .u16 (csize : Int), .int .i64 cn, .int .u8 (csign.toNat : Int), .int .i32 cchar, .string ⟨ctext.toArray⟩, .slice cad ccuts.length ccap] 36)).heap[wr.heap.size]? = some (.cells #[.int .i64 op, .int .i64 ca, .int .i64 cb, .int .u16 (csize : Int), .int .i64 cn, .int .u8 (csign.toNat : Int), .int .i32 cchar, .string ⟨ctext.toArray⟩, .slice cad ccuts.length ccap] 36) := (fr_one ((wd.setCell ⟨H, 0, none⟩ (.slice B1 1 k1)).setCell ⟨H, 1, none⟩ (.slice B2 0 k2)) (.cells #[.int .i64 op, .int .i64 ca, .int .i64 cb, .int .u16 (csize : Int), .int .i64 cn, .int .u8 (csign.toNat : Int), .int .i32 cchar, .string ⟨ctext.toArray⟩, .slice cad ccuts.length ccap] 36)).blk (J.blk HCBd.out (fun q => hm1 q)) (fun q => q)
        have HBW := Lib.hid hbW
        have HZW := Lib.hid hzW
        clear hrb hbW hzW J
        go_wp2_with (refine wpList_copy elem_call Cl.cells_len cl_one rfl (.tmp 55) (.tmp 57) rfl base _ s.length (cls s) (some ⟨wd.heap.size, 0, none⟩) 1 [⟨op, ca, cb, csize, cn, csign, cchar, ctext, ccuts, cad, ccap⟩] (by rfl) (by rfl) (HEJ.out.o7.fr (fr_one ((wd.setCell ⟨H, 0, none⟩ (.slice B1 1 k1)).setCell ⟨H, 1, none⟩ (.slice B2 0 k2)) (.cells #[.int .i64 op, .int .i64 ca, .int .i64 cb, .int .u16 (csize : Int), .int .i64 cn, .int .u8 (csign.toNat : Int), .int .i32 cchar, .string ⟨ctext.toArray⟩, .slice cad ccuts.length ccap] 36)) (fun _ _ q => q)) HRB.out (fun q => by cases q) (by simp only [List.length_cons, List.length_nil]; omega) (by have := HEJ.out.hb; have := HEJ.out.frb.size; rw [World.size_alloc]; omega) ?_)
        intro v7' w7 hown7 hfr7 hat7
        have hown7' : OwnC w7 base v7' (s ++ [dd]) := by
          unfold OwnC
          rw [List.length_append, cls_append, HDD.out]
          exact hown7
        have ha7 : v7'.ownBlock = (Value.slice A7 s.length q7).ownBlock ∨ v7'.ownBlock = some (((wd.setCell ⟨H, 0, none⟩ (.slice B1 1 k1)).setCell ⟨H, 1, none⟩ (.slice B2 0 k2)).heap.size + 1) := by
          rcases hat7 with k | k
          · exact .inl k
          · exact .inr (by simpa using k)
        have hbx := hfr7.blk HBW.out (fun q => by have := HMM.out.o7.blk_lt q; omega)
        obtain ⟨f0, f1, f2, f3, f4, f5, f6, f7, f8⟩ := row9 hbx
        have HO7 := Lib.hid hown7'
        have HFR7 := Lib.hid hfr7
        have HA7 := Lib.hid ha7
        have HBX := Lib.hid hbx
        obtain ⟨A7', q7', rfl⟩ := hown7'.value
        clear hown7 hown7' hfr7 hat7 ha7 hbx d0 d1 d2 d3 d4 d5 d6 d7 d8 g0 g1 h0 h1 z0 z1
        go_wp2_with fail
        refine (HR.out w7).mono ?_
        rintro e w8 ⟨rfl, F8⟩
        have hbx := F8.blk HBX.out (fun q => q)
        obtain ⟨y0, y1, y2, y3, y4, y5, y6, y7, y8⟩ := row9 hbx
        have hox : OwnC w8 base (.slice A8 (wrL s).length q8) (wrL s) := (((HEJ.out.o8.fr (fr_one ((wd.setCell ⟨H, 0, none⟩ (.slice B1 1 k1)).setCell ⟨H, 1, none⟩ (.slice B2 0 k2)) (.cells #[.int .i64 op, .int .i64 ca, .int .i64 cb, .int .u16 (csize : Int), .int .i64 cn, .int .u8 (csign.toNat : Int), .int .i32 cchar, .string ⟨ctext.toArray⟩, .slice cad ccuts.length ccap] 36)) (fun _ _ q => q)).fr HFR7.out (fun x hx q => HEJ.out.d78 x q hx)).fr F8 (fun _ _ q => q))
        have HOX := Lib.hid hox
        have HF8 := Lib.hid F8
        have hz8 : base ≤ w8.heap.size := by
          have h1 := HEJ.out.hb
          have h2 := HEJ.out.frb.size
          have h3 := HFR7.out.size
          have h4 := F8.size
          rw [World.size_alloc] at h3
          omega
        have hls : (wrL s).length ≤ s.length := by have := parts_len s; omega
        clear F8 hbx hox f0 f1 f2 f3 f4 f5 f6 f7 f8
        go_wp2_with (refine wpList_copy elem_call Cl.cells_len cl_one rfl (.tmp 65) (.tmp 67) rfl base _ (wrL s).length (cls (wrL s)) (some ⟨w8.heap.size, 0, none⟩) 1 [⟨op, ca, cb, csize, cn, csign, cchar, ctext, ccuts, cad, ccap⟩] (by rfl) (by rfl) (HOX.out.fr (fr_one w8 (.cells #[.int .i64 op, .int .i64 ca, .int .i64 cb, .int .u16 (csize : Int), .int .i64 cn, .int .u8 (csign.toNat : Int), .int .i32 cchar, .string ⟨ctext.toArray⟩, .slice cad ccuts.length ccap] 36)) (fun _ _ q => q)) (Reads.of_block Cl.cells_len (heap_alloc_new w8 (.cells #[.int .i64 op, .int .i64 ca, .int .i64 cb, .int .u16 (csize : Int), .int .i64 cn, .int .u8 (csign.toNat : Int), .int .i32 cchar, .string ⟨ctext.toArray⟩, .slice cad ccuts.length ccap] 36)) rfl) (fun q => by cases q) (by simp only [List.length_cons, List.length_nil]; omega) (by rw [World.size_alloc]; omega) ?_)
        intro vx w9 hown9 hfr9 hat9
        have hown9' : OwnC w9 base vx (wrL s ++ [dd]) := by
          unfold OwnC
          rw [List.length_append, cls_append, HDD.out]
          exact hown9
        have ha9 : vx.ownBlock = (Value.slice A8 (wrL s).length q8).ownBlock ∨ vx.ownBlock = some (w8.heap.size + 1) := by
          rcases hat9 with k | k
          · exact .inl k
          · exact .inr (by simpa using k)
        have HNX := Lib.hid (EJ.next_w HEJ.out (of_decide_eq_false HBR.out.symm) HO7.out HFR7.out HA7.out HF8.out hown9' hfr9 ha9)
        obtain ⟨Ax, qx, rfl⟩ := hown9'.value
        clear hown9 hown9' hfr9 hat9 ha9 y0 y1 y2 y3 y4 y5 y6 y7 y8
        go_wp2_with fail
        go_roundw
        case rel => exact ⟨k + 1, b', B1, k1, B2, k2, s ++ [dd], by omega, by go_num, by simp; omega, by have q := HNX.out; rw [show (s ++ [dd]).length = s.length + 1 by simp] at q; exact q⟩
        case measure => simp [intOf]; omega
      | true =>
        obtain ⟨d0, d1, d2, d3, d4, d5, d6, d7, d8⟩ := row9 HCBd.out
        obtain ⟨u0, u1, u2, u3⟩ := rowT HKB1.out
        go_wp2_with fail
        refine (HFF.out wd).mono ?_
        rintro e we ⟨rfl, F7⟩
        have HFe := Lib.hid (HFd.out.trans F7)
        cases bf with
        | false =>
          clear F7 d0 d1 d2 d3 d4 d5 d6 d7 d8 u0 u1 u2 u3
          go_wp2_with fail
          go_roundw
          case rel => exact ⟨k + 1, b, A1, c1, A2, c2, s, by omega, by go_num, by omega, EI.skip HMM.out HDO.out (of_decide_eq_true HBR.out.symm) (of_decide_eq_false HBF.out.symm) HFe.out⟩
          case measure => simp [intOf]; omega
        | true =>
          have HFce := Lib.hid (HFcd.out.trans F7)
          have HCBe := Lib.hid (F7.blk HCBd.out (fun q => q))
          have HYBe := Lib.hid (F7.blk HYBd.out (fun q => q))
          have HKBe := Lib.hid (F7.blk HKB0.out (fun q => q))
          clear F7 d0 d1 d2 d3 d4 d5 d6 d7 d8 u0 u1 u2 u3
          obtain ⟨d0, d1, d2, d3, d4, d5, d6, d7, d8⟩ := row9 HCBe.out
          have g0 : we.cell? ⟨wc.heap.size, 0, none⟩ = some (.slice B1 1 k1) := by rw [cell_of_row we _ 0 _ _ _ HKBe.out]; rfl
          have g1 : we.cell? ⟨wc.heap.size, 1, none⟩ = some (.slice B2 0 k2) := by rw [cell_of_row we _ 1 _ _ _ HKBe.out]; rfl
          have h0 : we.cell? ⟨H, 0, none⟩ = some (.slice A1 1 c1) := by rw [cell_of_row we _ 0 _ _ _ HYBe.out]; rfl
          have h1 : we.cell? ⟨H, 1, none⟩ = some (.slice A2 0 c2) := by rw [cell_of_row we _ 1 _ _ _ HYBe.out]; rfl
          have z0 := frozen_row HYBe.out 0
          have z1 := frozen_row HYBe.out 1
          have J := just2 we H (.slice B1 1 k1) (.slice B2 0 k2)
          have HEJ := Lib.hid (EJ.of HMM.out HDO.out (fun q => q.2 (of_decide_eq_true HBF.out.symm)) HGG.out HL2.out HFe.out (HYV2.out.fr HFce.out) HB1.out)
          have hzW : ((we.setCell ⟨H, 0, none⟩ (.slice B1 1 k1)).setCell ⟨H, 1, none⟩ (.slice B2 0 k2)).heap.size = we.heap.size := by simp
          have hrb : Reads Cl.cells 9 (((we.setCell ⟨H, 0, none⟩ (.slice B1 1 k1)).setCell ⟨H, 1, none⟩ (.slice B2 0 k2)).alloc (.cells #[.int .i64 op, .int .i64 ca, .int .i64 cb, .int .u16 (csize : Int), .int .i64 cn, .int .u8 (csign.toNat : Int), .int .i32 cchar, .string ⟨ctext.toArray⟩, .slice cad ccuts.length ccap] 36)) (some ⟨we.heap.size, 0, none⟩) [⟨op, ca, cb, csize, cn, csign, cchar, ctext, ccuts, cad, ccap⟩] := by
            have q := Reads.of_block Cl.cells_len (heap_alloc_new ((we.setCell ⟨H, 0, none⟩ (.slice B1 1 k1)).setCell ⟨H, 1, none⟩ (.slice B2 0 k2)) (.cells #[.int .i64 op, .int .i64 ca, .int .i64 cb, .int .u16 (csize : Int), .int .i64 cn, .int .u8 (csign.toNat : Int), .int .i32 cchar, .string ⟨ctext.toArray⟩, .slice cad ccuts.length ccap] 36)) (xs := [⟨op, ca, cb, csize, cn, csign, cchar, ctext, ccuts, cad, ccap⟩]) rfl
            rw [hzW] at q
            exact q
          have HRB := Lib.hid hrb
          have hbW : (((we.setCell ⟨H, 0, none⟩ (.slice B1 1 k1)).setCell ⟨H, 1, none⟩ (.slice B2 0 k2)).alloc (.cells #[.int .i64 op, .int .i64 ca, .int .i64 cb, .int .u16 (csize : Int), .int .i64 cn, .int .u8 (csign.toNat : Int), .int .i32 cchar, .string ⟨ctext.toArray⟩, .slice cad ccuts.length ccap] 36)).heap[wr.heap.size]? = some (.cells #[.int .i64 op, .int .i64 ca, .int .i64 cb, .int .u16 (csize : Int), .int .i64 cn, .int .u8 (csign.toNat : Int), .int .i32 cchar, .string ⟨ctext.toArray⟩, .slice cad ccuts.length ccap] 36) := (fr_one ((we.setCell ⟨H, 0, none⟩ (.slice B1 1 k1)).setCell ⟨H, 1, none⟩ (.slice B2 0 k2)) (.cells #[.int .i64 op, .int .i64 ca, .int .i64 cb, .int .u16 (csize : Int), .int .i64 cn, .int .u8 (csign.toNat : Int), .int .i32 cchar, .string ⟨ctext.toArray⟩, .slice cad ccuts.length ccap] 36)).blk (J.blk HCBe.out (fun q => hm1 q)) (fun q => q)
          have HBW := Lib.hid hbW
          have HZW := Lib.hid hzW
          clear hrb hbW hzW J
          go_wp2_with (refine wpList_copy elem_call Cl.cells_len cl_one rfl (.tmp 55) (.tmp 57) rfl base _ s.length (cls s) (some ⟨we.heap.size, 0, none⟩) 1 [⟨op, ca, cb, csize, cn, csign, cchar, ctext, ccuts, cad, ccap⟩] (by rfl) (by rfl) (HEJ.out.o7.fr (fr_one ((we.setCell ⟨H, 0, none⟩ (.slice B1 1 k1)).setCell ⟨H, 1, none⟩ (.slice B2 0 k2)) (.cells #[.int .i64 op, .int .i64 ca, .int .i64 cb, .int .u16 (csize : Int), .int .i64 cn, .int .u8 (csign.toNat : Int), .int .i32 cchar, .string ⟨ctext.toArray⟩, .slice cad ccuts.length ccap] 36)) (fun _ _ q => q)) HRB.out (fun q => by cases q) (by simp only [List.length_cons, List.length_nil]; omega) (by have := HEJ.out.hb; have := HEJ.out.frb.size; rw [World.size_alloc]; omega) ?_)
          intro v7' w7 hown7 hfr7 hat7
          have hown7' : OwnC w7 base v7' (s ++ [dd]) := by
            unfold OwnC
            rw [List.length_append, cls_append, HDD.out]
            exact hown7
          have ha7 : v7'.ownBlock = (Value.slice A7 s.length q7).ownBlock ∨ v7'.ownBlock = some (((we.setCell ⟨H, 0, none⟩ (.slice B1 1 k1)).setCell ⟨H, 1, none⟩ (.slice B2 0 k2)).heap.size + 1) := by
            rcases hat7 with k | k
            · exact .inl k
            · exact .inr (by simpa using k)
          have hbx := hfr7.blk HBW.out (fun q => by have := HMM.out.o7.blk_lt q; omega)
          obtain ⟨f0, f1, f2, f3, f4, f5, f6, f7, f8⟩ := row9 hbx
          have HO7 := Lib.hid hown7'
          have HFR7 := Lib.hid hfr7
          have HA7 := Lib.hid ha7
          have HBX := Lib.hid hbx
          obtain ⟨A7', q7', rfl⟩ := hown7'.value
          clear hown7 hown7' hfr7 hat7 ha7 hbx d0 d1 d2 d3 d4 d5 d6 d7 d8 g0 g1 h0 h1 z0 z1
          go_wp2_with fail
          refine (HR.out w7).mono ?_
          rintro e w8 ⟨rfl, F8⟩
          have hbx := F8.blk HBX.out (fun q => q)
          obtain ⟨y0, y1, y2, y3, y4, y5, y6, y7, y8⟩ := row9 hbx
          have hox : OwnC w8 base (.slice A9 (rdL s).length q9) (rdL s) := (((HEJ.out.o9.fr (fr_one ((we.setCell ⟨H, 0, none⟩ (.slice B1 1 k1)).setCell ⟨H, 1, none⟩ (.slice B2 0 k2)) (.cells #[.int .i64 op, .int .i64 ca, .int .i64 cb, .int .u16 (csize : Int), .int .i64 cn, .int .u8 (csign.toNat : Int), .int .i32 cchar, .string ⟨ctext.toArray⟩, .slice cad ccuts.length ccap] 36)) (fun _ _ q => q)).fr HFR7.out (fun x hx q => HEJ.out.d79 x q hx)).fr F8 (fun _ _ q => q))
          have HOX := Lib.hid hox
          have HF8 := Lib.hid F8
          have hz8 : base ≤ w8.heap.size := by
            have h1 := HEJ.out.hb
            have h2 := HEJ.out.frb.size
            have h3 := HFR7.out.size
            have h4 := F8.size
            rw [World.size_alloc] at h3
            omega
          have hls : (rdL s).length ≤ s.length := by have := parts_len s; omega
          clear F8 hbx hox f0 f1 f2 f3 f4 f5 f6 f7 f8
          go_wp2_with (refine wpList_copy elem_call Cl.cells_len cl_one rfl (.tmp 61) (.tmp 63) rfl base _ (rdL s).length (cls (rdL s)) (some ⟨w8.heap.size, 0, none⟩) 1 [⟨op, ca, cb, csize, cn, csign, cchar, ctext, ccuts, cad, ccap⟩] (by rfl) (by rfl) (HOX.out.fr (fr_one w8 (.cells #[.int .i64 op, .int .i64 ca, .int .i64 cb, .int .u16 (csize : Int), .int .i64 cn, .int .u8 (csign.toNat : Int), .int .i32 cchar, .string ⟨ctext.toArray⟩, .slice cad ccuts.length ccap] 36)) (fun _ _ q => q)) (Reads.of_block Cl.cells_len (heap_alloc_new w8 (.cells #[.int .i64 op, .int .i64 ca, .int .i64 cb, .int .u16 (csize : Int), .int .i64 cn, .int .u8 (csign.toNat : Int), .int .i32 cchar, .string ⟨ctext.toArray⟩, .slice cad ccuts.length ccap] 36)) rfl) (fun q => by cases q) (by simp only [List.length_cons, List.length_nil]; omega) (by rw [World.size_alloc]; omega) ?_)
          intro vx w9 hown9 hfr9 hat9
          have hown9' : OwnC w9 base vx (rdL s ++ [dd]) := by
            unfold OwnC
            rw [List.length_append, cls_append, HDD.out]
            exact hown9
          have ha9 : vx.ownBlock = (Value.slice A9 (rdL s).length q9).ownBlock ∨ vx.ownBlock = some (w8.heap.size + 1) := by
            rcases hat9 with k | k
            · exact .inl k
            · exact .inr (by simpa using k)
          have HNX := Lib.hid (EJ.next_r HEJ.out (of_decide_eq_true HBR.out.symm) HO7.out HFR7.out HA7.out HF8.out hown9' hfr9 ha9)
          obtain ⟨Ax, qx, rfl⟩ := hown9'.value
          clear hown9 hown9' hfr9 hat9 ha9 y0 y1 y2 y3 y4 y5 y6 y7 y8
          go_wp2_with fail
          go_roundw
          case rel => exact ⟨k + 1, b', B1, k1, B2, k2, s ++ [dd], by omega, by go_num, by simp; omega, by have q := HNX.out; rw [show (s ++ [dd]).length = s.length + 1 by simp] at q; exact q⟩
          case measure => simp [intOf]; omega
    · have hkk : k = L.length := by omega
      subst hkk
      have heq := hM.eq
      rw [List.drop_length] at heq hM
      have hse : full = s := by simpa [scrF] using heq
      have hfs := HFULL.out
      rw [hse] at hfs
      obtain ⟨m1, m2, hp1, hp2⟩ := erl_law (b0 ⟨text, way, space⟩) L HWR.out s (wrL s) (rdL s) hfs rfl rfl
      have hmem : ∀ x ∈ s, x ∈ L := fun x hx => scr_mem L _ x (hfs ▸ hx)
      have hws1 : wsum s ≤ wsum L := by rw [hfs]; exact scr_wsum L _
      have hls1 : s.length ≤ L.length := by rw [hfs]; exact scr_len L _
      have hcs := HOK.out.sz
      have hws := HWS.out
      have hws2 : wsum (wrL s ++ rdL s) = wsum s := by rw [wsum_append]; exact parts_wsum s
      obtain ⟨S2, hS2⟩ : ∃ S2, S2 = wrL s ++ rdL s := ⟨_, rfl⟩
      have hl2 : S2.length = s.length := by rw [hS2, List.length_append]; exact parts_len s
      rw [← hS2] at m2 hp1 hp2 hws2
      have P1 : Play1 w ⟨text, way, space⟩ s := ⟨m1, fun x hx => wr_first (HWR.out x (hmem x hx)), fun x hx => HPLAY.out.ok x (hmem x hx), by simp only; omega, by omega⟩
      have P2 : Play1 w ⟨text, way, space⟩ S2 := ⟨m2, fun x hx => wr_first (HWR.out x (hmem x (parts_mem (hS2 ▸ hx)))), fun x hx => HPLAY.out.ok x (hmem x (parts_mem (hS2 ▸ hx))), by simp only; omega, by omega⟩
      have hHn : ¬ (w2.heap.size = H) := by have := HHH.out; omega
      have HRSr := Lib.hid (HRS5.out.fr hM.frb (fun r o q k => by
        injection q with q
        injection q with q1 q2
        omega))
      have hrd : Reads Cl.cells 9 wr A7 s := Own.readsAt Cl.cells_len (by decide) (by have k := hM.o7; exact k)
      have hrun := run1_any ⟨text, way, space⟩ s (some ⟨w2.heap.size, 0, none⟩) A7 1 q7 ea eu wr HRSr.out ⟨by simp only; omega, hsp⟩ hrd (P1.fr hM.fr) ((HG.out.fr0 (Nat.le_refl _) hM.fr).up hM.fr.size)
      have HRUN := Lib.hid hrun
      have HO7 := Lib.hid hM.o7
      have HO8 := Lib.hid hM.o8
      have HO9 := Lib.hid hM.o9
      have HFr := Lib.hid hM.fr
      have HP2 := Lib.hid P2
      have HPK := Lib.hid hp1
      have HPT := Lib.hid hp2
      have HS2 := Lib.hid hS2
      have HL2 := Lib.hid hl2
      have hbase : w.heap.size ≤ base := by have := hM.hH; have := hM.hw; omega
      clear heq hse hfs m1 m2 hp1 hp2 hmem hws1 hcs hws hws2 hS2 hl2 P1 P2 hrd hrun hM HM
      go_wp2_with fail
      refine HRUN.out.mono ?_
      rintro e w6 ⟨A10, c10, B10, d10, D10, n10, k10, fin, rfl, ht10, hl10, hr10, hs10, F10, hc10, hn10, hm10⟩
      have HF6 := Lib.hid (HFr.out.trans F10)
      have ho8 := HO8.out.fr F10 (fun _ _ q => q)
      have ho9 := HO9.out.fr F10 (fun _ _ q => q)
      have hcat := concat_calls w6.heap.size 2 [⟨A8, wrL s, q8⟩, ⟨A9, rdL s, q9⟩] (w6.alloc (.cells #[.slice A8 (wrL s).length q8, .slice A9 (rdL s).length q9] 25)) (fun i x hx => by
        match i, hx with
        | 0, hx =>
          simp only [List.getElem?_cons_zero, Option.some.injEq] at hx
          subst hx
          rw [cell_of_row _ _ 0 _ _ _ (heap_alloc_new w6 _)]
          rfl
        | 1, hx =>
          simp only [List.getElem?_cons_succ, List.getElem?_cons_zero, Option.some.injEq] at hx
          subst hx
          rw [cell_of_row _ _ 1 _ _ _ (heap_alloc_new w6 _)]
          rfl
        | i + 2, hx => simp at hx) (fun x hx => by
        simp only [List.mem_cons, List.not_mem_nil, or_false] at hx
        rcases hx with rfl | rfl
        · exact slOk_of (ho8.fr (fr_one w6 _) (fun _ _ q => q))
        · exact slOk_of (ho9.fr (fr_one w6 _) (fun _ _ q => q))) (by have := parts_len s; simp only [flatC, List.flatMap_cons, List.flatMap_nil, List.append_nil, List.length_append]; omega) (by simp)
      have hfl : flatC [⟨A8, wrL s, q8⟩, ⟨A9, rdL s, q9⟩] = S2 := by rw [HS2.out]; simp [flatC]
      rw [hfl] at hcat
      have HCAT := Lib.hid hcat
      have HTX := Lib.hid ht10
      have HLN := Lib.hid hl10
      have HT6 := Lib.hid hr10
      have HB6 := Lib.hid hs10
      have HRS6 := Lib.hid (HRSr.out.fr0 F10)
      have HO76 := Lib.hid (HO7.out.fr F10 (fun _ _ q => q))
      clear HRUN ht10 hl10 hr10 hs10 F10 hc10 hn10 hm10 ho8 ho9 hcat hfl
      go_wp2_with fail
      refine HCAT.out.mono ?_
      rintro e w7 ⟨v, rfl, hown, F7⟩
      obtain ⟨A12, q12, rfl⟩ := hown.value
      have F67 := (fr_one w6 (.cells #[.slice A8 (wrL s).length q8, .slice A9 (rdL s).length q9] 25)).trans F7
      have HF7 := Lib.hid (HF6.out.trans F67)
      have hrd : Reads Cl.cells 9 w7 A12 S2 := Own.readsAt Cl.cells_len (by decide) (by have k := hown; exact k)
      have hrun := run1_any ⟨text, way, space⟩ S2 (some ⟨w2.heap.size, 0, none⟩) A12 1 q12 ea eu w7 (HRS6.out.fr0 F67) ⟨by simp only; omega, hsp⟩ hrd (HP2.out.fr HF7.out) ((HG.out.fr0 (Nat.le_refl _) HF7.out).up HF7.out.size)
      have HRUN := Lib.hid hrun
      have HT7 := Lib.hid (HT6.out.fr0 F67)
      have HB7 := Lib.hid (HB6.out.fr0 F67)
      have HO77 := Lib.hid (HO76.out.fr F67 (fun _ _ q => q))
      clear hown F7 F67 hrd hrun HCAT
      go_wp2_with fail
      refine HRUN.out.mono ?_
      rintro e w8 ⟨A11, c11, B11, d11, D11, n11, k11, fin2, rfl, ht11, hl11, hr11, hs11, F11, hc11, hn11, hm11⟩
      rw [HPT.out, HTX.out] at ht11
      have hfin : fin2 = fin := by injection ht11 with q _; exact q.symm
      subst hfin
      rw [HL2.out] at hc11 ⊢
      have hli : ((s.length : Int) != (s.length : Int)) = false := by simp
      obtain ⟨ts, hts⟩ : ∃ ts, ts = (runF (yd1 (b0 ⟨text, way, space⟩)) s).1 := ⟨_, rfl⟩
      have hlts : ts.length = s.length := by rw [hts]; exact HLN.out
      have HPK2 := HPK.out
      rw [← hts] at HPK2
      have HT8 := Lib.hid (by rw [hts]; exact HT7.out.fr0 F11 : Reads Td.cells 4 w8 A10 ts)
      have HB8 := Lib.hid (HB7.out.fr0 F11)
      have HC8 := Lib.hid (show Reads Cl.cells 9 w8 A7 s from Own.readsAt Cl.cells_len (by decide) (by have k := HO77.out.fr F11 (fun _ _ q => q); exact k))
      have HR11 := Lib.hid hr11
      have HS11 := Lib.hid hs11
      have HF8 := Lib.hid (HF7.out.trans F11)
      have HPK := Lib.hid HPK2
      have hl11' : (runF (yd1 (b0 ⟨text, way, space⟩)) S2).1.length = s.length := hl11.trans HL2.out
      have HL11 := Lib.hid hl11'
      clear HRUN ht11 hl11 hr11 hs11 F11 hn11 hm11 hts HPK2 hl11' HO76 HO77 HT6 HT7 HB6 HB7 HRS6
      go_wp2_with fail
      go_loopw [21, 101] (fun v21 v101 wr => ∃ k : Nat, k ≤ s.length ∧ v101 = .int .i64 (k : Int) ∧ Own 39 4 wr w8.heap.size v21 (pickR (s.take k) (ts.take k)).length (tds (pickR (s.take k) (ts.take k))) ∧ Fr (fun _ => False) w8 wr) (fun _ v101 _ => s.length - (intOf v101).toNat)
      case atStart => exact ⟨0, Nat.zero_le _, rfl, Own.nil _ _ _ _, Fr.refl _ _⟩
      case round =>
        obtain ⟨k, hk, rfl, hO, hF⟩ := hrel
        obtain ⟨A21, q21, rfl⟩ := hO.value
        have HO := Lib.hid hO
        have HF := Lib.hid hF
        by_cases hlt : k < s.length
        · obtain ⟨d, hd⟩ : ∃ d, s[k]? = some d := ⟨_, List.getElem?_eq_getElem hlt⟩
          obtain ⟨tt, ht⟩ : ∃ tt, ts[k]? = some tt := ⟨_, List.getElem?_eq_getElem (by omega)⟩
          obtain ⟨r, o, e1, hc⟩ := HC8.out.at' k d hd
          obtain ⟨r2, o2, e2, hc2⟩ := HT8.out.at' k tt ht
          subst e1 e2
          have hq : ∀ j u, (Cl.cells d)[j]? = some u → wr.cell? ⟨r, o + k * 9 + j, none⟩ = some u := fun j u hu => keep1 hF (hc j u hu)
          have hq2 : ∀ j u, (Td.cells tt)[j]? = some u → wr.cell? ⟨r2, o2 + k * 4 + j, none⟩ = some u := fun j u hu => keep1 hF (hc2 j u hu)
          have hpk := pickR_succ hlts.symm hd ht
          obtain ⟨br, hbr⟩ : ∃ br, br = decide d.isRead := ⟨_, rfl⟩
          have hrr : ∀ w', Calls Tryz.prog 16 #[d.val] w' fun e w'' => e = .returned (.bool br) ∧ Fr (fun _ => False) w' w'' := fun w' => by rw [hbr]; exact t_reads d w'
          have hpk2 : pickR (s.take (k + 1)) (ts.take (k + 1)) = pickR (s.take k) (ts.take k) ++ if br = true then [tt] else [] := by rw [hpk, hbr]; by_cases q : d.isRead <;> simp [q]
          obtain ⟨P, hP⟩ : ∃ P, P = pickR (s.take k) (ts.take k) := ⟨_, rfl⟩
          rw [← hP] at hpk2 hO ⊢
          have hPl : P.length ≤ s.length := by rw [hP]; have := pickR_len (s.take k) (ts.take k); simp only [List.length_take] at this; omega
          have HO := Lib.hid hO
          obtain ⟨op, ca, cb, csize, cn, csign, cchar, ctext, ccuts, cad, ccap⟩ := d
          obtain ⟨tn, ttext, tchar, tsaid⟩ := tt
          have c0 := hq 0 _ rfl
          have c1 := hq 1 _ rfl
          have c2 := hq 2 _ rfl
          have c3 := hq 3 _ rfl
          have c4 := hq 4 _ rfl
          have c5 := hq 5 _ rfl
          have c6 := hq 6 _ rfl
          have c7 := hq 7 _ rfl
          have c8 := hq 8 _ rfl
          simp only [Nat.add_zero] at c0
          have u0 := hq2 0 _ rfl
          have u1 := hq2 1 _ rfl
          have u2 := hq2 2 _ rfl
          have u3 := hq2 3 _ rfl
          simp only [Nat.add_zero] at u0
          have hki : (k : Int) < (s.length : Int) := by omega
          have hk0 : (0 : Int) ≤ (k : Int) := by omega
          simp only [Cl.val, Cl.cells] at hrr
          have HR := Lib.hid hrr
          have HPK2 := Lib.hid hpk2
          clear hrr hpk hpk2 hbr hP hd ht hc hc2 hq hq2 hO hF
          go_wp2_with fail
          refine (HR.out _).mono ?_
          rintro e w9 ⟨rfl, F9⟩
          have F99 := ((Fr.refl (fun _ => False) wr).alloc (.cells #[.int .i64 op, .int .i64 ca, .int .i64 cb, .int .u16 (csize : Int), .int .i64 cn, .int .u8 (csign.toNat : Int), .int .i32 cchar, .string ⟨ctext.toArray⟩, .slice cad ccuts.length ccap] 36)).trans F9
          have x0 := keep1 F99 u0
          have x1 := keep1 F99 u1
          have x2 := keep1 F99 u2
          have x3 := keep1 F99 u3
          have HF9 := Lib.hid (HF.out.trans F99)
          have HO9b := Lib.hid (HO.out.fr F99 (fun _ _ q => q))
          clear F9 F99 c0 c1 c2 c3 c4 c5 c6 c7 c8 u0 u1 u2 u3
          cases br with
          | false =>
            have hpk := HPK2.out
            rw [if_neg (by decide), List.append_nil] at hpk
            have HPK3 := Lib.hid hpk
            clear hpk
            go_wp2_with fail
            go_roundw
            case rel => exact ⟨k + 1, by omega, by go_num, by rw [HPK3.out]; exact HO9b.out, HF9.out⟩
            case measure => simp [intOf]; omega
          | true =>
            have hpk := HPK2.out
            rw [if_pos rfl] at hpk
            have HPK3 := Lib.hid hpk
            clear hpk
            go_wp2_with (refine wpList_copy elem_told Td.cells_len td_one rfl (.tmp 108) (.tmp 113) rfl w8.heap.size _ P.length (tds P) (some ⟨w9.heap.size, 0, none⟩) 1 [⟨tn, ttext, tchar, tsaid⟩] (by rfl) (by rfl) (HO9b.out.fr (fr_one w9 _) (fun _ _ q => q)) (Reads.of_block Td.cells_len (heap_alloc_new w9 _) rfl) (fun q => by cases q) (by simp only [List.length_cons, List.length_nil]; omega) (by have := HF9.out.size; rw [World.size_alloc]; omega) ?_)
            intro v' w10 hown hfr hat
            have hown' : Own 39 4 w10 w8.heap.size v' (pickR (s.take (k + 1)) (ts.take (k + 1))).length (tds (pickR (s.take (k + 1)) (ts.take (k + 1)))) := by
              rw [HPK3.out, List.length_append]
              unfold tds
              rw [List.flatMap_append]
              exact hown
            have HOW := Lib.hid hown'
            have HFW := Lib.hid ((HF9.out.alloc _).trans' hfr (fun x hx q => by have := HO9b.out.blk_ge q; omega))
            clear hown hown' hfr hat x0 x1 x2 x3
            go_wp2_with fail
            go_roundw
            case rel => exact ⟨k + 1, by omega, by go_num, HOW.out, HFW.out⟩
            case measure => simp [intOf]; omega
        · have hkk : k = s.length := by omega
          subst hkk
          have hpt : pickR (s.take s.length) (ts.take s.length) = pickR s ts := by rw [List.take_length, ← hlts, List.take_length]
          rw [hpt] at hO ⊢
          obtain ⟨P, hP⟩ : ∃ P, P = pickR s ts := ⟨_, rfl⟩
          have hpk := HPK.out
          rw [← hP] at hpk hO ⊢
          have hpl := parts_len s
          obtain ⟨A', hsl, hrdr⟩ := slice_told_from A11 s.length c11 (wrL s).length (by omega) hc11
          have hlP : P.length = s.length - (wrL s).length := by rw [← hpk, List.length_drop, HL11.out]
          rw [← hlP] at hsl
          have hrA : Reads Td.cells 4 wr A' P := by
            have q := hrdr (w' := wr) (xs := (runF (yd1 (b0 ⟨text, way, space⟩)) S2).1.take (wrL s).length) (ys := (runF (yd1 (b0 ⟨text, way, space⟩)) S2).1.drop (wrL s).length) (by rw [List.length_take, HL11.out]; omega) (by rw [List.length_drop, HL11.out]) (by rw [List.take_append_drop]; exact HR11.out.fr0 hF)
            rw [hpk] at q
            exact q
          have hE1 := equal_told P A21 A' q21 (c11 - (wrL s).length) wr (Own.readsAt Td.cells_len (by decide) hO) hrA (by omega)
          have HE1 := Lib.hid hE1
          have HE2 := Lib.hid (show ∀ w', Fr (fun _ => False) wr w' → Calls Tryz.prog 24 #[.slice B10 1 d10, .slice B11 1 d11] w' fun e w'' => e = .returned (.bool true) ∧ Fr (fun _ => False) w' w'' from fun w' F => equal_strs [fin2] B10 B11 d10 d11 w' ((HB8.out.fr0 hF).fr0 F) ((HS11.out.fr0 hF).fr0 F) (by simp))
          have HFE := Lib.hid (HF8.out.trans hF)
          clear hpt hP hpk hpl hrdr hlP hrA hE1 hO hF
          go_wp2_with fail
          refine HE1.out.mono ?_
          rintro e w10 ⟨rfl, F10⟩
          have HF10 := Lib.hid F10
          clear F10
          go_wp2_with fail
          refine (HE2.out _ HF10.out).mono ?_
          rintro e w11 ⟨rfl, F11⟩
          have HF11 := Lib.hid ((HFE.out.trans HF10.out).trans F11)
          clear F11
          go_wp2_with fail
          go_ret
          exact ⟨rfl, HF11.out⟩
theorem writesEarlier_any (s : St) (cs : List Cl) (A : Option Addr) (c : Nat) (ea eu : Addr) (w : World) (hC : Reads Cl.cells 9 w A cs) (hok : CallsOk w cs) (hs : s.text.length ≤ 1048576) (hsp : s.space ≤ 65535) (hG : Gl w.heap.size ea eu w) :
    Calls Tryz.prog 8 #[.agg s.cells.toArray, .slice A cs.length c] w (LawPost w) := by
  obtain ⟨text, way, space⟩ := s
  exact writesEarlier_walk text way space cs A c ea eu w hC hok hs hsp hG
end Go.Proofs.YtbodbajgpgaoeaaGreatDoor
