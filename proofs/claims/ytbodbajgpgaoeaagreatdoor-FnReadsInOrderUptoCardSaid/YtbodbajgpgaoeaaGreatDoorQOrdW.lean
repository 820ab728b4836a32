/- The walk of laws.FnReadsInOrder. -/
import Derived.Test.YtbodbajgpgaoeaaGreatDoorQOrdQ
namespace Go.Proofs.YtbodbajgpgaoeaaGreatDoor
open Go Go.RowKit

set_option maxHeartbeats 12800000 in
set_option maxRecDepth 100000 in
theorem readsInOrder_walk (text : List UInt8) (way : Int) (space : Nat) (cs : List Cl) (A : Option Addr) (c : Nat) (ea eu : Addr) (w : World) (hC : Reads Cl.cells 9 w A cs) (hok : CallsOk w cs)
    (hs : text.length ≤ 1048576) (hsp : space ≤ 65535) (hG : Gl w.heap.size ea eu w) :
    Calls Tryz.prog 3 #[.agg #[.string ⟨text.toArray⟩, .int .i64 way, .int .u16 (space : Int)], .slice A cs.length c] w (LawPost w) := by
  have HC := Lib.hid hC
  have HOK := Lib.hid hok
  have HG := Lib.hid hG
  have hfew := hok.few
  clear hC hok hG
  obtain ⟨w0, hw0⟩ : ∃ w0, w0 = w.alloc (.cells #[.string ⟨text.toArray⟩, .int .i64 way, .int .u16 (space : Int)] 24) := ⟨_, rfl⟩
  have k0 := heap_alloc_new w (.cells #[.string ⟨text.toArray⟩, .int .i64 way, .int .u16 (space : Int)] 24)
  rw [← hw0] at k0
  have hF0 : Fr (fun _ => False) w w0 := by rw [hw0]; exact fr_one w _
  have hsz0 : w0.heap.size = w.heap.size + 1 := by rw [hw0]; simp only [World.size_alloc]
  have HSZ0 := Lib.hid hsz0
  have HF0 := Lib.hid hF0
  have HW0 := Lib.hid hw0
  have HK0 := Lib.hid k0
  have s0 : w0.cell? ⟨w.heap.size, 0, none⟩ = some (.string ⟨text.toArray⟩) := by rw [cell_of_row w0 _ 0 _ _ _ k0]; rfl
  have s1 : w0.cell? ⟨w.heap.size, 1, none⟩ = some (.int .i64 way) := by rw [cell_of_row w0 _ 1 _ _ _ k0]; rfl
  have s2 : w0.cell? ⟨w.heap.size, 2, none⟩ = some (.int .u16 (space : Int)) := by rw [cell_of_row w0 _ 2 _ _ _ k0]; rfl
  clear hw0 hF0 k0
  have hlong : ∀ bb, bb = decide (4096 < cs.length) → Calls Tryz.prog 9 #[.slice (some ⟨w.heap.size + 1, 0, none⟩) 1 1] (w0.alloc (.cells #[.slice A cs.length c] 25)) fun e w' => e = .returned (.bool bb) ∧ w' = w0.alloc (.cells #[.slice A cs.length c] 25) := by
    intro bb hbb
    rw [hbb]
    have hcell : (w0.alloc (.cells #[.slice A cs.length c] 25)).cell? ⟨w.heap.size + 1, 0, none⟩ = some (.slice A cs.length c) := by rw [← hsz0, cell_of_row _ _ 0 _ _ _ (heap_alloc_new w0 _)]; rfl
    exact long_1 (w.heap.size + 1) A cs.length c _ hcell (by omega)
  have HLONG := Lib.hid hlong
  clear hlong hsz0
  by_cases hbig : 4096 < cs.length
  · go_enter Tryz.func3, Tryz.ntmps3
    go_wp2_with fail
    rw [← HW0.out]
    refine (HLONG.out true (by simp [hbig])).mono ?_
    rintro e w1 ⟨rfl, hw1⟩
    rw [hw1]
    clear hw1
    go_wp2_with fail
    go_ret
    exact ⟨rfl, HF0.out.alloc _⟩
  go_enter Tryz.func3, Tryz.ntmps3
  go_wp2_with fail
  rw [← HW0.out]
  refine (HLONG.out false (by simp [hbig])).mono ?_
  rintro e w1 ⟨rfl, hw1⟩
  rw [hw1]
  clear hw1
  obtain ⟨w2, hw2⟩ : ∃ w2, w2 = w0.alloc (.cells #[.slice A cs.length c] 25) := ⟨_, rfl⟩
  rw [← hw2]
  have hF2 : Fr (fun _ => False) w0 w2 := by rw [hw2]; exact fr_one w0 _
  have s0b : w2.cell? ⟨w.heap.size, 0, none⟩ = some (.string ⟨text.toArray⟩) := (hF2.cell (World.block_lt_of_cell? _ _ s0) (fun q => q)).trans s0
  have s1b : w2.cell? ⟨w.heap.size, 1, none⟩ = some (.int .i64 way) := (hF2.cell (World.block_lt_of_cell? _ _ s1) (fun q => q)).trans s1
  have s2b : w2.cell? ⟨w.heap.size, 2, none⟩ = some (.int .u16 (space : Int)) := (hF2.cell (World.block_lt_of_cell? _ _ s2) (fun q => q)).trans s2
  have HF2 := Lib.hid (HF0.out.trans hF2)
  clear hw2 hF2 s0 s1 s2
  go_wp2_with fail
  have hone := one_streams InvB stepB ⟨text, way, space⟩ (fun c => decide c.streams) t_streams cs A c w2 (HC.out.fr0 HF2.out) (by omega) (keep_inv streams_first HOK.out ⟨text, way, space⟩ (by simp only; omega))
  have HONE := Lib.hid hone
  clear hone
  refine HONE.out.mono ?_
  rintro e w3 ⟨vl, rfl, hown, F3⟩
  obtain ⟨hplay, hws, hll⟩ := calm_play (keep := fun c => decide c.streams) streams_first HOK.out ⟨text, way, space⟩ (by simp only; omega)
  have hall := streams_all ⟨text, way, space⟩ cs
  generalize hL : calmF (Yd.begin [⟨text, way, space⟩] 0) (keepF (fun c => decide c.streams) cs) = L at *
  obtain ⟨A1, q1, rfl⟩ := hown.value
  have s0c : w3.cell? ⟨w.heap.size, 0, none⟩ = some (.string ⟨text.toArray⟩) := (F3.cell (World.block_lt_of_cell? _ _ s0b) (fun q => q)).trans s0b
  have s1c : w3.cell? ⟨w.heap.size, 1, none⟩ = some (.int .i64 way) := (F3.cell (World.block_lt_of_cell? _ _ s1b) (fun q => q)).trans s1b
  have s2c : w3.cell? ⟨w.heap.size, 2, none⟩ = some (.int .u16 (space : Int)) := (F3.cell (World.block_lt_of_cell? _ _ s2b) (fun q => q)).trans s2b
  have HF3 := Lib.hid (HF2.out.trans F3)
  have hrd : Reads Cl.cells 9 w3 A1 L := Own.readsAt Cl.cells_len (by decide) (by have k := hown; exact k)
  have HRD := Lib.hid hrd
  have HPLAY := Lib.hid (hplay.fr (HF3.out.alloc (.cells #[.string ⟨text.toArray⟩, .int .i64 way, .int .u16 (space : Int)] 24)))
  have HALL := Lib.hid hall
  have HLL := Lib.hid hll
  have HWS := Lib.hid hws
  have hz3 := HF3.out.size
  have hG3 : Gl (w3.alloc (.cells #[.string ⟨text.toArray⟩, .int .i64 way, .int .u16 (space : Int)] 24)).heap.size ea eu (w3.alloc (.cells #[.string ⟨text.toArray⟩, .int .i64 way, .int .u16 (space : Int)] 24)) := (HG.out.fr0 (Nat.le_refl _) (HF3.out.alloc _)).up (by rw [World.size_alloc]; omega)
  have hrun := run1_any ⟨text, way, space⟩ L (some ⟨w3.heap.size, 0, none⟩) A1 1 q1 ea eu (w3.alloc (.cells #[.string ⟨text.toArray⟩, .int .i64 way, .int .u16 (space : Int)] 24)) (Reads.of_block St.cells_len (heap_alloc_new w3 (.cells #[.string ⟨text.toArray⟩, .int .i64 way, .int .u16 (space : Int)] 24)) rfl) ⟨by simp only; omega, hsp⟩ (HRD.out.fr0 (fr_one w3 _)) HPLAY.out hG3
  have HRUN := Lib.hid hrun
  have hll' : L.length ≤ 4096 := by omega
  clear hrun hrd hown hplay hws hall hL hG3 hll s0b s1b s2b
  go_wp2_with fail
  refine HRUN.out.mono ?_
  rintro e w4 ⟨A4, c4, B4, d4, D4, n4, k4, fin, rfl, ht4, hl4, hr4, hs4, F4, hc4, hn4, hm4⟩
  have F34 := (fr_one w3 (.cells #[.string ⟨text.toArray⟩, .int .i64 way, .int .u16 (space : Int)] 24)).trans F4
  have HF4 := Lib.hid (HF3.out.trans F34)
  have HRD4 := Lib.hid (HRD.out.fr0 F34)
  have s0d : w4.cell? ⟨w.heap.size, 0, none⟩ = some (.string ⟨text.toArray⟩) := (F34.cell (World.block_lt_of_cell? _ _ s0c) (fun q => q)).trans s0c
  have s1d : w4.cell? ⟨w.heap.size, 1, none⟩ = some (.int .i64 way) := (F34.cell (World.block_lt_of_cell? _ _ s1c) (fun q => q)).trans s1c
  have s2d : w4.cell? ⟨w.heap.size, 2, none⟩ = some (.int .u16 (space : Int)) := (F34.cell (World.block_lt_of_cell? _ _ s2c) (fun q => q)).trans s2c
  obtain ⟨fin', hf1, hgo⟩ := ord_law (text ++ allF L) L (b0 ⟨text, way, space⟩) text 0 0 ord_begin HALL.out HPLAY.out.mild rfl
  have hfin : fin' = fin := by rw [ht4] at hf1; injection hf1 with h1; exact h1.symm
  subst hfin
  have h8 := char8 L (b0 ⟨text, way, space⟩) (fun x hx => (HPLAY.out.first x hx).one) HPLAY.out.mild
  generalize hts : (runF (yd1 (b0 ⟨text, way, space⟩)) L).1 = ts at *
  have hlall := allF_len L
  have hws' := HWS.out
  have hsz := HOK.out.sz
  have HGO := Lib.hid hgo
  have H8 := Lib.hid h8
  have HTS := Lib.hid hr4
  have HS4 := Lib.hid hs4
  have hl4' : ts.length = L.length := hl4
  clear HRUN ht4 hl4 hr4 hs4 hc4 hn4 hm4 F4 F34 hf1 hgo h8 hts s0c s1c s2c
  go_wp2_with fail
  go_loopw [8, 45] (fun v8 v45 wr => ∃ k : Nat, k ≤ L.length ∧ v45 = .int .i64 (k : Int) ∧ v8 = .string ⟨(text ++ allF (L.take k)).toArray⟩ ∧ Fr (fun _ => False) w4 wr) (fun _ v45 _ => L.length - (intOf v45).toNat)
  case atStart => exact ⟨0, Nat.zero_le _, rfl, by simp [allF], Fr.refl _ _⟩
  case round =>
    obtain ⟨k, hk, rfl, rfl, hF⟩ := hrel
    have HF := Lib.hid hF
    obtain ⟨al, hal⟩ : ∃ al, al = text ++ allF (L.take k) := ⟨_, rfl⟩
    rw [← hal]
    have HAL := Lib.hid hal
    have hlal : al.length ≤ 562949953421312 := by rw [hal, List.length_append]; have := allF_take L k; omega
    clear hal
    by_cases hlt : k < L.length
    · obtain ⟨d, hd⟩ : ∃ d, L[k]? = some d := ⟨_, List.getElem?_eq_getElem hlt⟩
      have hsucc := allF_succ hd
      have hlw := wrF_len hd
      obtain ⟨r, o, e1, hc⟩ := HRD4.out.at' k d hd
      subst e1
      have hq : ∀ j u, (Cl.cells d)[j]? = some u → wr.cell? ⟨r, o + k * 9 + j, none⟩ = some u := fun j u hu => (hF.cell (World.block_lt_of_cell? _ _ (hc j u hu)) (fun q => q)).trans (hc j u hu)
      have hkk := t_writes d
      have htx := textOf_any d
      obtain ⟨dn, hdn⟩ : ∃ dn, dn = d := ⟨_, rfl⟩
      have HDN := Lib.hid hdn
      clear hdn
      obtain ⟨op, ca, cb, csize, cn, csign, cchar, ctext, ccuts, cad, ccap⟩ := d
      have c0 := hq 0 _ rfl
      have c1 := hq 1 _ rfl
      have c2 := hq 2 _ rfl
      have c3 := hq 3 _ rfl
      have c4 := hq 4 _ rfl
      have c5 := hq 5 _ rfl
      have c6 := hq 6 _ rfl
      have c7 := hq 7 _ rfl
      have c8 := hq 8 _ rfl
      simp only [Nat.add_zero] at c0
      have hki : (k : Int) < (L.length : Int) := by omega
      have hk0 : (0 : Int) ≤ (k : Int) := by omega
      simp only [Cl.val, Cl.cells] at hkk htx
      rw [← HDN.out] at hsucc hlw
      rw [show decide (Cl.writes ⟨op, ca, cb, csize, cn, csign, cchar, ctext, ccuts, cad, ccap⟩) = decide dn.writes by rw [HDN.out]] at hkk
      have htx' : ∀ w, Calls Tryz.prog 14 #[.agg #[.int .i64 op, .int .i64 ca, .int .i64 cb, .int .u16 (csize : Int), .int .i64 cn, .int .u8 (csign.toNat : Int), .int .i32 cchar, .string ⟨ctext.toArray⟩, .slice cad ccuts.length ccap]] w fun e w' => e = .returned (.string ⟨(textF dn).toArray⟩) ∧ Fr (fun _ => False) w w' := fun w => by rw [HDN.out]; exact htx w
      obtain ⟨bw, hbw⟩ : ∃ bw, bw = decide dn.writes := ⟨_, rfl⟩
      rw [← hbw] at hkk
      have HBW := Lib.hid hbw
      have HKK := Lib.hid hkk
      have HTX := Lib.hid htx'
      have HSU := Lib.hid hsucc
      have HLW := Lib.hid hlw
      clear hkk htx htx' hsucc hlw hbw hd hc hq hF
      go_wp2_with fail
      refine (HKK.out _).mono ?_
      rintro e w5 ⟨rfl, F5⟩
      have hb9 := F5.blk (heap_alloc_new wr (.cells #[.int .i64 op, .int .i64 ca, .int .i64 cb, .int .u16 (csize : Int), .int .i64 cn, .int .u8 (csign.toNat : Int), .int .i32 cchar, .string ⟨ctext.toArray⟩, .slice cad ccuts.length ccap] 36)) (fun q => q)
      have HF5 := Lib.hid ((HF.out.alloc (.cells #[.int .i64 op, .int .i64 ca, .int .i64 cb, .int .u16 (csize : Int), .int .i64 cn, .int .u8 (csign.toNat : Int), .int .i32 cchar, .string ⟨ctext.toArray⟩, .slice cad ccuts.length ccap] 36)).trans F5)
      have HB9 := Lib.hid hb9
      clear F5 hb9 c0 c1 c2 c3 c4 c5 c6 c7 c8
      cases bw with
      | false =>
        go_wp2_with fail
        go_roundw
        case rel => exact ⟨k + 1, by omega, by go_num, by rw [HSU.out, wrF, if_neg (of_decide_eq_false HBW.out.symm), List.append_nil, ← HAL.out], HF5.out⟩
        case measure => simp [intOf]; omega
      | true =>
        have d0 : w5.cell? ⟨wr.heap.size, 0, none⟩ = some (.int .i64 op) := by rw [cell_of_row w5 _ 0 _ _ _ HB9.out]; rfl
        have d1 : w5.cell? ⟨wr.heap.size, 1, none⟩ = some (.int .i64 ca) := by rw [cell_of_row w5 _ 1 _ _ _ HB9.out]; rfl
        have d2 : w5.cell? ⟨wr.heap.size, 2, none⟩ = some (.int .i64 cb) := by rw [cell_of_row w5 _ 2 _ _ _ HB9.out]; rfl
        have d3 : w5.cell? ⟨wr.heap.size, 3, none⟩ = some (.int .u16 (csize : Int)) := by rw [cell_of_row w5 _ 3 _ _ _ HB9.out]; rfl
        have d4 : w5.cell? ⟨wr.heap.size, 4, none⟩ = some (.int .i64 cn) := by rw [cell_of_row w5 _ 4 _ _ _ HB9.out]; rfl
        have d5 : w5.cell? ⟨wr.heap.size, 5, none⟩ = some (.int .u8 (csign.toNat : Int)) := by rw [cell_of_row w5 _ 5 _ _ _ HB9.out]; rfl
        have d6 : w5.cell? ⟨wr.heap.size, 6, none⟩ = some (.int .i32 cchar) := by rw [cell_of_row w5 _ 6 _ _ _ HB9.out]; rfl
        have d7 : w5.cell? ⟨wr.heap.size, 7, none⟩ = some (.string ⟨ctext.toArray⟩) := by rw [cell_of_row w5 _ 7 _ _ _ HB9.out]; rfl
        have d8 : w5.cell? ⟨wr.heap.size, 8, none⟩ = some (.slice cad ccuts.length ccap) := by rw [cell_of_row w5 _ 8 _ _ _ HB9.out]; rfl
        have hwr : wrF dn = textF dn := by rw [wrF, if_pos (of_decide_eq_true HBW.out.symm)]
        have hlw := HLW.out
        rw [hwr] at hlw
        have HWR := Lib.hid hwr
        clear hwr
        go_wp2_with fail
        refine (HTX.out _).mono ?_
        rintro e w6 ⟨rfl, F6⟩
        have HF6 := Lib.hid (HF5.out.trans F6)
        obtain ⟨tx, htx2⟩ : ∃ tx, tx = textF dn := ⟨_, rfl⟩
        rw [← htx2] at hlw ⊢
        have HTX2 := Lib.hid htx2
        have hnn : ¬ (9223372036854775807 < al.length + tx.length) := by omega
        have hap := bytes_appL al tx
        clear F6 htx2 d0 d1 d2 d3 d4 d5 d6 d7 d8
        go_wp2_with fail
        go_roundw
        case rel => exact ⟨k + 1, by omega, by go_num, by rw [HSU.out, HWR.out, ← HTX2.out, ← List.append_assoc, ← HAL.out], HF6.out⟩
        case measure => simp [intOf]; omega
    · have hkk : k = L.length := by omega
      subst hkk
      have hal2 : al = text ++ allF L := by rw [HAL.out, List.take_length]
      have hgo2 := HGO.out
      rw [← hal2] at hgo2
      have HGO2 := Lib.hid hgo2
      have HRD5 := Lib.hid (HRD4.out.fr0 hF)
      have HTS5 := Lib.hid (HTS.out.fr0 hF)
      have HS5 := Lib.hid (HS4.out.fr0 hF)
      have HF5 := Lib.hid (HF4.out.trans hF)
      clear hal2 hgo2 hF HAL HGO HRD4 HTS HS4
      go_wp2_with fail
      rename World => wz
      go_loopw [11, 12, 58] (fun v11 v12 v58 wr => ∃ k at' size : Nat, k ≤ L.length ∧ v58 = .int .i64 (k : Int) ∧ v11 = .int .i64 (at' : Int) ∧ v12 = .int .i64 (size : Int) ∧ OrdGo al fin' (L.drop k) (ts.drop k) at' size ∧ Fr (fun _ => False) wz wr) (fun _ _ v58 _ => L.length - (intOf v58).toNat)
      case atStart => exact ⟨0, 0, 0, Nat.zero_le _, rfl, rfl, rfl, HGO2.out, Fr.refl _ _⟩
      case round =>
        obtain ⟨k, at', size, hk, rfl, rfl, rfl, hgo, hF⟩ := hrel
        have HF := Lib.hid hF
        by_cases hlt : k < L.length
        · obtain ⟨d, hd⟩ : ∃ d, L[k]? = some d := ⟨_, List.getElem?_eq_getElem hlt⟩
          obtain ⟨tu, ht, hokt, hal, hsz4, hnx⟩ := ord_next hd hgo
          have hstr := (HALL.out d (List.mem_of_getElem? hd)).2
          have h8 := fun q => H8.out k d tu hd ht q
          obtain ⟨r, o, e1, hc⟩ := HRD5.out.at' k d hd
          subst e1
          have hq : ∀ j u, (Cl.cells d)[j]? = some u → wr.cell? ⟨r, o + k * 9 + j, none⟩ = some u := fun j u hu => (hF.cell (World.block_lt_of_cell? _ _ (hc j u hu)) (fun q => q)).trans (hc j u hu)
          obtain ⟨r2, o2, e2, hc2⟩ := HTS5.out.at' k tu ht
          subst e2
          have hq2 : ∀ j u, (Td.cells tu)[j]? = some u → wr.cell? ⟨r2, o2 + k * 4 + j, none⟩ = some u := fun j u hu => (hF.cell (World.block_lt_of_cell? _ _ (hc2 j u hu)) (fun q => q)).trans (hc2 j u hu)
          obtain ⟨dd, hdd⟩ : ∃ dd, dd = d := ⟨_, rfl⟩
          rw [← hdd] at hokt hnx hstr h8
          obtain ⟨tt, htt⟩ : ∃ tt, tt = tu := ⟨_, rfl⟩
          rw [← htt] at hokt hnx h8
          obtain ⟨op, ca, cb, csize, cn, csign, cchar, ctext, ccuts, cad, ccap⟩ := d
          obtain ⟨tn, ttext, tchar, tsaid⟩ := tu
          have hop : dd.op = op := by rw [hdd]
          have HDD := Lib.hid hdd
          have HTT := Lib.hid htt
          have HOKT := Lib.hid hokt
          have HNX := Lib.hid hnx
          have c0 := hq 0 _ rfl
          have c1 := hq 1 _ rfl
          have c2 := hq 2 _ rfl
          have c3 := hq 3 _ rfl
          have c4 := hq 4 _ rfl
          have c5 := hq 5 _ rfl
          have c6 := hq 6 _ rfl
          have c7 := hq 7 _ rfl
          have c8 := hq 8 _ rfl
          simp only [Nat.add_zero] at c0
          have t0 := hq2 0 _ rfl
          have t1 := hq2 1 _ rfl
          have t2 := hq2 2 _ rfl
          have t3 := hq2 3 _ rfl
          simp only [Nat.add_zero] at t0
          have t0l : ∀ o : Obj, (wr.alloc o).cell? ⟨r2, o2 + k * 4, none⟩ = some (.int .i64 tn) := fun o => alloc_cell t0
          have t1l : ∀ o : Obj, (wr.alloc o).cell? ⟨r2, o2 + k * 4 + 1, none⟩ = some (.string ⟨ttext.toArray⟩) := fun o => alloc_cell t1
          have t2l : ∀ o : Obj, (wr.alloc o).cell? ⟨r2, o2 + k * 4 + 2, none⟩ = some (.int .i32 tchar) := fun o => alloc_cell t2
          have t3l : ∀ o : Obj, (wr.alloc o).cell? ⟨r2, o2 + k * 4 + 3, none⟩ = some (.int .i64 tsaid) := fun o => alloc_cell t3
          have hki : (k : Int) < (L.length : Int) := by omega
          have hki2 : (k : Int) < (ts.length : Int) := by omega
          have hk0 : (0 : Int) ≤ (k : Int) := by omega
          unfold Cl.streams Cl.writes Cl.isRead Cl.isBack at hstr
          rw [hop] at hstr h8
          clear hd ht hc hc2 hq hq2 hgo hF hnx hokt hdd htt
          have hcl : (op = 8 ∧ tsaid = 0) ∨ (op = 8 ∧ ¬ tsaid = 0) ∨ op = 11 ∨ (op = 12 ∧ tsaid = 0) ∨ (op = 12 ∧ ¬ tsaid = 0) ∨ (op = 13 ∧ tsaid = 0) ∨ (op = 13 ∧ ¬ tsaid = 0) ∨ op = 26 ∨ (6 ≤ op ∧ op ≤ 11 ∧ ¬ op = 8 ∧ ¬ op = 11) ∨ (¬ (6 ≤ op ∧ op ≤ 13) ∧ ¬ op = 26) := by omega
          rcases hcl with hcl | hcl | hcl | hcl | hcl | hcl | hcl | hcl | hcl | hcl
          · obtain ⟨rfl, rfl⟩ := hcl
            obtain ⟨x, rfl⟩ : ∃ x : UInt8, tchar = (x.toNat : Int) := by
              have q := h8 rfl
              rw [HTT.out] at q
              simp only at q
              obtain ⟨z, rfl⟩ := Int.eq_ofNat_of_zero_le q.1
              exact ⟨UInt8.ofNat z, by rw [UInt8.toNat_ofNat']; omega⟩
            have hr := t_reads ⟨8, ca, cb, csize, cn, csign, cchar, ctext, ccuts, cad, ccap⟩
            simp only [Cl.val, Cl.cells] at hr
            rw [show decide (Cl.isRead ⟨8, ca, cb, csize, cn, csign, cchar, ctext, ccuts, cad, ccap⟩) = true by exact decide_eq_true (by unfold Cl.isRead; simp only; omega)] at hr
            have HR := Lib.hid hr
            obtain ⟨kb0, kb1⟩ := two_blocks wr (.cells #[.int .i64 8, .int .i64 ca, .int .i64 cb, .int .u16 (csize : Int), .int .i64 cn, .int .u8 (csign.toNat : Int), .int .i32 cchar, .string ⟨ctext.toArray⟩, .slice cad ccuts.length ccap] 36) (.cells #[.int .i64 tn, .string ⟨ttext.toArray⟩, .int .i32 (x.toNat : Int), .int .i64 0] 39)
            have HKB := Lib.hid kb0
            have HFW := Lib.hid ((((Fr.refl (fun _ => False) wr).alloc (.cells #[.int .i64 8, .int .i64 ca, .int .i64 cb, .int .u16 (csize : Int), .int .i64 cn, .int .u8 (csign.toNat : Int), .int .i32 cchar, .string ⟨ctext.toArray⟩, .slice cad ccuts.length ccap] 36)).alloc (.cells #[.int .i64 tn, .string ⟨ttext.toArray⟩, .int .i32 (x.toNat : Int), .int .i64 0] 39)))
            clear hr kb0 kb1
            obtain ⟨D, hD⟩ : ∃ D, D = [x] := ⟨_, rfl⟩
            have hcv0 := conv_sign ((wr.alloc (.cells #[.int .i64 8, .int .i64 ca, .int .i64 cb, .int .u16 (csize : Int), .int .i64 cn, .int .u8 (csign.toNat : Int), .int .i32 cchar, .string ⟨ctext.toArray⟩, .slice cad ccuts.length ccap] 36)).alloc (.cells #[.int .i64 tn, .string ⟨ttext.toArray⟩, .int .i32 (x.toNat : Int), .int .i64 0] 39)) x
            have hcvd0 := conv_signd ((wr.alloc (.cells #[.int .i64 8, .int .i64 ca, .int .i64 cb, .int .u16 (csize : Int), .int .i64 cn, .int .u8 (csign.toNat : Int), .int .i32 cchar, .string ⟨ctext.toArray⟩, .slice cad ccuts.length ccap] 36)).alloc (.cells #[.int .i64 tn, .string ⟨ttext.toArray⟩, .int .i32 (x.toNat : Int), .int .i64 0] 39)) x
            simp only [World.size_alloc] at hcv0 hcvd0
            rw [← hD] at hcv0 hcvd0
            have hwx : IntKind.u8.wrap (x.toNat : Int) = (x.toNat : Int) := by have := x.toNat_lt; simp [IntKind.wrap, IntKind.bits, IntKind.signed]; omega
            have htl : tells dd := by rw [HDD.out]; unfold tells Cl.isRead; simp only; omega
            have hdat : dataF al at' dd tt = D := by rw [HDD.out, HTT.out, hD]; simp [dataF]
            have hle := HOKT.out.le htl
            have heq := HOKT.out.eq htl
            rw [hdat] at hle heq
            obtain ⟨e', he'⟩ : ∃ e', e' = at' + D.length := ⟨_, rfl⟩
            have hadd : IntKind.i64.wrap ((at' : Int) + (D.length : Int)) = (e' : Int) := by rw [IntWalk.i64_in _ (by omega)]; omega
            have hle' : ¬ ((al.length : Int) < (e' : Int)) := by omega
            have hat0 : ¬ ((at' : Int) < 0) := by omega
            have hsl := fun w' => told_slice (all := al) (D := D) hle heq he' w'
            have hn : nextF al at' size dd tt = e' := by rw [nextF, if_pos htl, hdat, he']
            have HN := Lib.hid hn
            have HE := Lib.hid he'
            have HDAT := Lib.hid hdat
            clear hdat hle heq he' hn
            have hnsz : sizeF size dd tt = size := by rw [HDD.out]; simp [sizeF]
            have HNSZ := Lib.hid hnsz
            have HD := Lib.hid hD
            have HFW2 := Lib.hid (HFW.out.alloc (.cells #[.int .u8 (x.toNat : Int)] 5))
            have HKB2 := Lib.hid ((fr_one _ (.cells #[.int .u8 (x.toNat : Int)] 5)).blk HKB.out (fun q => q))
            clear hnsz htl hD h8
            go_wp2_with fail
            refine (HR.out _).mono ?_
            rintro e w6 ⟨rfl, F6⟩
            have HF6 := Lib.hid ((HF.out.trans HFW2.out).trans F6)
            have hb6 := F6.blk HKB2.out (fun q => q)
            have d0 : w6.cell? ⟨wr.heap.size, 0, none⟩ = some (.int .i64 8) := by rw [cell_of_row w6 _ 0 _ _ _ hb6]; rfl
            clear F6 hb6
            go_wp2_with fail
            go_roundw
            case rel =>
              have hnx := HNX.out
              rw [show nextF al at' size dd tt = e' by exact HN.out, show sizeF size dd tt = size by exact HNSZ.out] at hnx
              exact ⟨k + 1, e', size, by omega, by go_num, rfl, rfl, hnx, HF6.out⟩
            case measure => simp [intOf]; omega
          · obtain ⟨rfl, hs⟩ := hcl
            have hr := t_reads ⟨8, ca, cb, csize, cn, csign, cchar, ctext, ccuts, cad, ccap⟩
            simp only [Cl.val, Cl.cells] at hr
            rw [show decide (Cl.isRead ⟨8, ca, cb, csize, cn, csign, cchar, ctext, ccuts, cad, ccap⟩) = true by exact decide_eq_true (by unfold Cl.isRead; simp only; omega)] at hr
            have HR := Lib.hid hr
            obtain ⟨kb0, kb1⟩ := two_blocks wr (.cells #[.int .i64 8, .int .i64 ca, .int .i64 cb, .int .u16 (csize : Int), .int .i64 cn, .int .u8 (csign.toNat : Int), .int .i32 cchar, .string ⟨ctext.toArray⟩, .slice cad ccuts.length ccap] 36) (.cells #[.int .i64 tn, .string ⟨ttext.toArray⟩, .int .i32 tchar, .int .i64 tsaid] 39)
            have HKB := Lib.hid kb0
            have HFW := Lib.hid ((((Fr.refl (fun _ => False) wr).alloc (.cells #[.int .i64 8, .int .i64 ca, .int .i64 cb, .int .u16 (csize : Int), .int .i64 cn, .int .u8 (csign.toNat : Int), .int .i32 cchar, .string ⟨ctext.toArray⟩, .slice cad ccuts.length ccap] 36)).alloc (.cells #[.int .i64 tn, .string ⟨ttext.toArray⟩, .int .i32 tchar, .int .i64 tsaid] 39)))
            clear hr kb0 kb1
            have htl : tells dd := by rw [HDD.out]; unfold tells Cl.isRead; simp only; omega
            have hdat : dataF al at' dd tt = ttext := by rw [HDD.out, HTT.out]; simp [dataF, hs]
            have hle := HOKT.out.le htl
            have heq := HOKT.out.eq htl
            rw [hdat] at hle heq
            obtain ⟨e', he'⟩ : ∃ e', e' = at' + ttext.length := ⟨_, rfl⟩
            have hadd : IntKind.i64.wrap ((at' : Int) + (ttext.length : Int)) = (e' : Int) := by rw [IntWalk.i64_in _ (by omega)]; omega
            have hle' : ¬ ((al.length : Int) < (e' : Int)) := by omega
            have hat0 : ¬ ((at' : Int) < 0) := by omega
            have hsl := fun w' => told_slice (all := al) (D := ttext) hle heq he' w'
            have hn : nextF al at' size dd tt = e' := by rw [nextF, if_pos htl, hdat, he']
            have HN := Lib.hid hn
            have HE := Lib.hid he'
            have HDAT := Lib.hid hdat
            clear hdat hle heq he' hn
            have hnsz : sizeF size dd tt = size := by rw [HDD.out]; simp [sizeF]
            have HNSZ := Lib.hid hnsz
            clear hnsz htl
            go_wp2_with fail
            refine (HR.out _).mono ?_
            rintro e w6 ⟨rfl, F6⟩
            have HF6 := Lib.hid ((HF.out.trans HFW.out).trans F6)
            have hb6 := F6.blk HKB.out (fun q => q)
            have d0 : w6.cell? ⟨wr.heap.size, 0, none⟩ = some (.int .i64 8) := by rw [cell_of_row w6 _ 0 _ _ _ hb6]; rfl
            clear F6 hb6
            go_wp2_with fail
            go_roundw
            case rel =>
              have hnx := HNX.out
              rw [show nextF al at' size dd tt = e' by exact HN.out, show sizeF size dd tt = size by exact HNSZ.out] at hnx
              exact ⟨k + 1, e', size, by omega, by go_num, rfl, rfl, hnx, HF6.out⟩
            case measure => simp [intOf]; omega
          · obtain rfl := hcl
            obtain ⟨m, rfl⟩ : ∃ m : Nat, tn = (m : Int) := by
              have q := (HOKT.out.n0 (by rw [HDD.out])).1
              rw [HTT.out] at q
              exact Int.eq_ofNat_of_zero_le q
            have htl : tells dd := by rw [HDD.out]; unfold tells Cl.isRead; simp only; omega
            have hnsz : sizeF size dd tt = m := by rw [HDD.out, HTT.out]; simp [sizeF]
            have HNSZ := Lib.hid hnsz
            clear hnsz
            have hr := t_reads ⟨11, ca, cb, csize, cn, csign, cchar, ctext, ccuts, cad, ccap⟩
            simp only [Cl.val, Cl.cells] at hr
            rw [show decide (Cl.isRead ⟨11, ca, cb, csize, cn, csign, cchar, ctext, ccuts, cad, ccap⟩) = true by exact decide_eq_true (by unfold Cl.isRead; simp only; omega)] at hr
            have HR := Lib.hid hr
            obtain ⟨kb0, kb1⟩ := two_blocks wr (.cells #[.int .i64 11, .int .i64 ca, .int .i64 cb, .int .u16 (csize : Int), .int .i64 cn, .int .u8 (csign.toNat : Int), .int .i32 cchar, .string ⟨ctext.toArray⟩, .slice cad ccuts.length ccap] 36) (.cells #[.int .i64 (m : Int), .string ⟨ttext.toArray⟩, .int .i32 tchar, .int .i64 tsaid] 39)
            have HKB := Lib.hid kb0
            have HFW := Lib.hid ((((Fr.refl (fun _ => False) wr).alloc (.cells #[.int .i64 11, .int .i64 ca, .int .i64 cb, .int .u16 (csize : Int), .int .i64 cn, .int .u8 (csign.toNat : Int), .int .i32 cchar, .string ⟨ctext.toArray⟩, .slice cad ccuts.length ccap] 36)).alloc (.cells #[.int .i64 (m : Int), .string ⟨ttext.toArray⟩, .int .i32 tchar, .int .i64 tsaid] 39)))
            clear hr kb0 kb1
            have HKT := Lib.hid (two_blocks wr (.cells #[.int .i64 11, .int .i64 ca, .int .i64 cb, .int .u16 (csize : Int), .int .i64 cn, .int .u8 (csign.toNat : Int), .int .i32 cchar, .string ⟨ctext.toArray⟩, .slice cad ccuts.length ccap] 36) (.cells #[.int .i64 (m : Int), .string ⟨ttext.toArray⟩, .int .i32 tchar, .int .i64 tsaid] 39)).2
            go_wp2_with fail
            refine (encode_any tchar _).mono ?_
            rintro e w5 ⟨rfl, F5⟩
            have HF5 := Lib.hid (HFW.out.trans F5)
            have hkb2 := F5.blk HKB.out (fun q => q)
            have HKB2 := Lib.hid hkb2
            have hkt2 := F5.blk HKT.out (fun q => q)
            have d0 : w5.cell? ⟨wr.heap.size, 0, none⟩ = some (.int .i64 11) := by rw [cell_of_row w5 _ 0 _ _ _ hkb2]; rfl
            have d1 : w5.cell? ⟨wr.heap.size, 1, none⟩ = some (.int .i64 ca) := by rw [cell_of_row w5 _ 1 _ _ _ hkb2]; rfl
            have d2 : w5.cell? ⟨wr.heap.size, 2, none⟩ = some (.int .i64 cb) := by rw [cell_of_row w5 _ 2 _ _ _ hkb2]; rfl
            have d3 : w5.cell? ⟨wr.heap.size, 3, none⟩ = some (.int .u16 (csize : Int)) := by rw [cell_of_row w5 _ 3 _ _ _ hkb2]; rfl
            have d4 : w5.cell? ⟨wr.heap.size, 4, none⟩ = some (.int .i64 cn) := by rw [cell_of_row w5 _ 4 _ _ _ hkb2]; rfl
            have d5 : w5.cell? ⟨wr.heap.size, 5, none⟩ = some (.int .u8 (csign.toNat : Int)) := by rw [cell_of_row w5 _ 5 _ _ _ hkb2]; rfl
            have d6 : w5.cell? ⟨wr.heap.size, 6, none⟩ = some (.int .i32 cchar) := by rw [cell_of_row w5 _ 6 _ _ _ hkb2]; rfl
            have d7 : w5.cell? ⟨wr.heap.size, 7, none⟩ = some (.string ⟨ctext.toArray⟩) := by rw [cell_of_row w5 _ 7 _ _ _ hkb2]; rfl
            have d8 : w5.cell? ⟨wr.heap.size, 8, none⟩ = some (.slice cad ccuts.length ccap) := by rw [cell_of_row w5 _ 8 _ _ _ hkb2]; rfl
            have u0 : w5.cell? ⟨wr.heap.size + 1, 0, none⟩ = some (.int .i64 (m : Int)) := by rw [cell_of_row w5 _ 0 _ _ _ hkt2]; rfl
            have u1 : w5.cell? ⟨wr.heap.size + 1, 1, none⟩ = some (.string ⟨ttext.toArray⟩) := by rw [cell_of_row w5 _ 1 _ _ _ hkt2]; rfl
            have u2 : w5.cell? ⟨wr.heap.size + 1, 2, none⟩ = some (.int .i32 tchar) := by rw [cell_of_row w5 _ 2 _ _ _ hkt2]; rfl
            have u3 : w5.cell? ⟨wr.heap.size + 1, 3, none⟩ = some (.int .i64 tsaid) := by rw [cell_of_row w5 _ 3 _ _ _ hkt2]; rfl
            obtain ⟨E, hE⟩ : ∃ E, E = enc tchar := ⟨_, rfl⟩
            rw [← hE]
            clear F5 hkb2 hkt2 c0 c1 c2 c3 c4 c5 c6 c7 c8 t0 t1 t2 t3 t0l t1l t2l t3l
            by_cases hs : tsaid = 0
            · subst hs
              by_cases hch : tchar = 65533
              · by_cases hm : m = 1
                · subst hm
                  by_cases ha : at' < al.length
                  · have hch2 := hch
                    obtain ⟨b1, hb1⟩ : ∃ b1, b1 = at' + 1 := ⟨_, rfl⟩
                    have hadd1 : IntKind.i64.wrap ((at' : Int) + 1) = (b1 : Int) := by rw [IntWalk.i64_in _ (by omega)]; omega
                    have hge : (0 : Int) ≤ (at' : Int) := by omega
                    have hai : (at' : Int) < (al.length : Int) := by omega
                    obtain ⟨D, hD⟩ : ∃ D, D = (al.take b1).drop at' := ⟨_, rfl⟩
                    have hsl1 := fun w' => slice_str al at' b1 (by omega) (by omega) w'
                    rw [← hD] at hsl1
                    rw [hb1] at hD
                    have HB1 := Lib.hid hb1
                    clear hb1
                    have hdat : dataF al at' dd tt = D := by rw [HDD.out, HTT.out, hD, List.drop_take]; simp [dataF, hch, ha]
                    have hle := HOKT.out.le htl
                    have heq := HOKT.out.eq htl
                    rw [hdat] at hle heq
                    obtain ⟨e', he'⟩ : ∃ e', e' = at' + D.length := ⟨_, rfl⟩
                    have hadd : IntKind.i64.wrap ((at' : Int) + (D.length : Int)) = (e' : Int) := by rw [IntWalk.i64_in _ (by omega)]; omega
                    have hle' : ¬ ((al.length : Int) < (e' : Int)) := by omega
                    have hat0 : ¬ ((at' : Int) < 0) := by omega
                    have hsl := fun w' => told_slice (all := al) (D := D) hle heq he' w'
                    have hn : nextF al at' size dd tt = e' := by rw [nextF, if_pos htl, hdat, he']
                    have HN := Lib.hid hn
                    have HE := Lib.hid he'
                    have HDAT := Lib.hid hdat
                    clear hdat hle heq he' hn
                    clear htl h8 hD ha hch2
                    go_wp2_with fail
                    refine (HR.out _).mono ?_
                    rintro e w6 ⟨rfl, F6⟩
                    have HF6 := Lib.hid ((HF.out.trans HF5.out).trans F6)
                    have hb6 := F6.blk HKB2.out (fun q => q)
                    have d0 : w6.cell? ⟨wr.heap.size, 0, none⟩ = some (.int .i64 11) := by rw [cell_of_row w6 _ 0 _ _ _ hb6]; rfl
                    clear F6 hb6
                    go_wp2_with fail
                    go_roundw
                    case rel =>
                      have hnx := HNX.out
                      rw [show nextF al at' size dd tt = e' by exact HN.out, show sizeF size dd tt = 1 by exact HNSZ.out] at hnx
                      exact ⟨k + 1, e', 1, by omega, by go_num, rfl, rfl, hnx, HF6.out⟩
                    case measure => simp [intOf]; omega
                  · have hai : ¬ ((at' : Int) < (al.length : Int)) := by omega
                    have hge : (0 : Int) ≤ (at' : Int) := by omega
                    have hdat : dataF al at' dd tt = E := by rw [HDD.out, HTT.out, hE]; simp [dataF, ha]
                    have hle := HOKT.out.le htl
                    have heq := HOKT.out.eq htl
                    rw [hdat] at hle heq
                    obtain ⟨e', he'⟩ : ∃ e', e' = at' + E.length := ⟨_, rfl⟩
                    have hadd : IntKind.i64.wrap ((at' : Int) + (E.length : Int)) = (e' : Int) := by rw [IntWalk.i64_in _ (by omega)]; omega
                    have hle' : ¬ ((al.length : Int) < (e' : Int)) := by omega
                    have hat0 : ¬ ((at' : Int) < 0) := by omega
                    have hsl := fun w' => told_slice (all := al) (D := E) hle heq he' w'
                    have hn : nextF al at' size dd tt = e' := by rw [nextF, if_pos htl, hdat, he']
                    have HN := Lib.hid hn
                    have HE := Lib.hid he'
                    have HDAT := Lib.hid hdat
                    clear hdat hle heq he' hn
                    clear htl h8 ha hE
                    go_wp2_with fail
                    refine (HR.out _).mono ?_
                    rintro e w6 ⟨rfl, F6⟩
                    have HF6 := Lib.hid ((HF.out.trans HF5.out).trans F6)
                    have hb6 := F6.blk HKB2.out (fun q => q)
                    have d0 : w6.cell? ⟨wr.heap.size, 0, none⟩ = some (.int .i64 11) := by rw [cell_of_row w6 _ 0 _ _ _ hb6]; rfl
                    clear F6 hb6
                    go_wp2_with fail
                    go_roundw
                    case rel =>
                      have hnx := HNX.out
                      rw [show nextF al at' size dd tt = e' by exact HN.out, show sizeF size dd tt = 1 by exact HNSZ.out] at hnx
                      exact ⟨k + 1, e', 1, by omega, by go_num, rfl, rfl, hnx, HF6.out⟩
                    case measure => simp [intOf]; omega
                · have hmi : ¬ ((m : Int) = 1) := by omega
                  have hdat : dataF al at' dd tt = E := by rw [HDD.out, HTT.out, hE]; simp [dataF, hmi]
                  have hle := HOKT.out.le htl
                  have heq := HOKT.out.eq htl
                  rw [hdat] at hle heq
                  obtain ⟨e', he'⟩ : ∃ e', e' = at' + E.length := ⟨_, rfl⟩
                  have hadd : IntKind.i64.wrap ((at' : Int) + (E.length : Int)) = (e' : Int) := by rw [IntWalk.i64_in _ (by omega)]; omega
                  have hle' : ¬ ((al.length : Int) < (e' : Int)) := by omega
                  have hat0 : ¬ ((at' : Int) < 0) := by omega
                  have hsl := fun w' => told_slice (all := al) (D := E) hle heq he' w'
                  have hn : nextF al at' size dd tt = e' := by rw [nextF, if_pos htl, hdat, he']
                  have HN := Lib.hid hn
                  have HE := Lib.hid he'
                  have HDAT := Lib.hid hdat
                  clear hdat hle heq he' hn
                  clear htl h8 hE hm
                  go_wp2_with fail
                  refine (HR.out _).mono ?_
                  rintro e w6 ⟨rfl, F6⟩
                  have HF6 := Lib.hid ((HF.out.trans HF5.out).trans F6)
                  have hb6 := F6.blk HKB2.out (fun q => q)
                  have d0 : w6.cell? ⟨wr.heap.size, 0, none⟩ = some (.int .i64 11) := by rw [cell_of_row w6 _ 0 _ _ _ hb6]; rfl
                  clear F6 hb6
                  go_wp2_with fail
                  go_roundw
                  case rel =>
                    have hnx := HNX.out
                    rw [show nextF al at' size dd tt = e' by exact HN.out, show sizeF size dd tt = m by exact HNSZ.out] at hnx
                    exact ⟨k + 1, e', m, by omega, by go_num, rfl, rfl, hnx, HF6.out⟩
                  case measure => simp [intOf]; omega
              · have hch2 := hch
                have hdat : dataF al at' dd tt = E := by rw [HDD.out, HTT.out, hE]; simp [dataF, hch]
                have hle := HOKT.out.le htl
                have heq := HOKT.out.eq htl
                rw [hdat] at hle heq
                obtain ⟨e', he'⟩ : ∃ e', e' = at' + E.length := ⟨_, rfl⟩
                have hadd : IntKind.i64.wrap ((at' : Int) + (E.length : Int)) = (e' : Int) := by rw [IntWalk.i64_in _ (by omega)]; omega
                have hle' : ¬ ((al.length : Int) < (e' : Int)) := by omega
                have hat0 : ¬ ((at' : Int) < 0) := by omega
                have hsl := fun w' => told_slice (all := al) (D := E) hle heq he' w'
                have hn : nextF al at' size dd tt = e' := by rw [nextF, if_pos htl, hdat, he']
                have HN := Lib.hid hn
                have HE := Lib.hid he'
                have HDAT := Lib.hid hdat
                clear hdat hle heq he' hn
                clear htl h8 hE
                go_wp2_with fail
                refine (HR.out _).mono ?_
                rintro e w6 ⟨rfl, F6⟩
                have HF6 := Lib.hid ((HF.out.trans HF5.out).trans F6)
                have hb6 := F6.blk HKB2.out (fun q => q)
                have d0 : w6.cell? ⟨wr.heap.size, 0, none⟩ = some (.int .i64 11) := by rw [cell_of_row w6 _ 0 _ _ _ hb6]; rfl
                clear F6 hb6
                go_wp2_with fail
                go_roundw
                case rel =>
                  have hnx := HNX.out
                  rw [show nextF al at' size dd tt = e' by exact HN.out, show sizeF size dd tt = m by exact HNSZ.out] at hnx
                  exact ⟨k + 1, e', m, by omega, by go_num, rfl, rfl, hnx, HF6.out⟩
                case measure => simp [intOf]; omega
            · have hs2 := hs
              have hle := HOKT.out.le htl
              have hdat : dataF al at' dd tt = [] := by rw [HDD.out, HTT.out]; simp [dataF, hs]
              rw [hdat] at hle
              have hadd : IntKind.i64.wrap (at' : Int) = (at' : Int) := by rw [IntWalk.i64_in _ (by simp at hle; omega)]
              have hle' : ¬ ((al.length : Int) < (at' : Int)) := by simp at hle; omega
              have hat0 : ¬ ((at' : Int) < 0) := by omega
              have hsl := fun w' => told_slice (all := al) (D := []) (at' := at') (e' := at') hle rfl rfl w'
              have hn : nextF al at' size dd tt = at' := by rw [nextF, if_pos htl, hdat]; rfl
              have HN := Lib.hid hn
              clear hdat hle hn
              clear htl h8
              go_wp2_with fail
              refine (HR.out _).mono ?_
              rintro e w6 ⟨rfl, F6⟩
              have HF6 := Lib.hid ((HF.out.trans HF5.out).trans F6)
              have hb6 := F6.blk HKB2.out (fun q => q)
              have d0 : w6.cell? ⟨wr.heap.size, 0, none⟩ = some (.int .i64 11) := by rw [cell_of_row w6 _ 0 _ _ _ hb6]; rfl
              clear F6 hb6
              go_wp2_with fail
              go_roundw
              case rel =>
                have hnx := HNX.out
                rw [show nextF al at' size dd tt = at' by exact HN.out, show sizeF size dd tt = m by exact HNSZ.out] at hnx
                exact ⟨k + 1, at', m, by omega, by go_num, rfl, rfl, hnx, HF6.out⟩
              case measure => simp [intOf]; omega
          · obtain ⟨rfl, rfl⟩ := hcl
            have hb1 := HOKT.out.b1 (by rw [HDD.out]) (by rw [HTT.out])
            obtain ⟨a1, ha1⟩ : ∃ a1, a1 = at' - 1 := ⟨_, rfl⟩
            have hsub : IntKind.i64.wrap ((at' : Int) - 1) = (a1 : Int) := by rw [IntWalk.i64_in _ (by omega)]; omega
            have hr := t_reads ⟨12, ca, cb, csize, cn, csign, cchar, ctext, ccuts, cad, ccap⟩
            simp only [Cl.val, Cl.cells] at hr
            rw [show decide (Cl.isRead ⟨12, ca, cb, csize, cn, csign, cchar, ctext, ccuts, cad, ccap⟩) = false by exact decide_eq_false (by unfold Cl.isRead; simp only; omega)] at hr
            have HR := Lib.hid hr
            obtain ⟨kb0, kb1⟩ := two_blocks wr (.cells #[.int .i64 12, .int .i64 ca, .int .i64 cb, .int .u16 (csize : Int), .int .i64 cn, .int .u8 (csign.toNat : Int), .int .i32 cchar, .string ⟨ctext.toArray⟩, .slice cad ccuts.length ccap] 36) (.cells #[.int .i64 tn, .string ⟨ttext.toArray⟩, .int .i32 tchar, .int .i64 0] 39)
            have HKB := Lib.hid kb0
            have HFW := Lib.hid ((((Fr.refl (fun _ => False) wr).alloc (.cells #[.int .i64 12, .int .i64 ca, .int .i64 cb, .int .u16 (csize : Int), .int .i64 cn, .int .u8 (csign.toNat : Int), .int .i32 cchar, .string ⟨ctext.toArray⟩, .slice cad ccuts.length ccap] 36)).alloc (.cells #[.int .i64 tn, .string ⟨ttext.toArray⟩, .int .i32 tchar, .int .i64 0] 39)))
            clear hr kb0 kb1
            have hnt : ¬ tells dd := by rw [HDD.out]; unfold tells Cl.isRead; simp only; omega
            have hn : nextF al at' size dd tt = a1 := by rw [nextF, if_neg hnt, HDD.out, HTT.out]; simp [backF, ha1]
            have HN := Lib.hid hn
            have hnsz : sizeF size dd tt = size := by rw [HDD.out]; simp [sizeF]
            have HNSZ := Lib.hid hnsz
            clear hnsz hn hnt hb1 ha1
            go_wp2_with fail
            refine (HR.out _).mono ?_
            rintro e w6 ⟨rfl, F6⟩
            have HF6 := Lib.hid ((HF.out.trans HFW.out).trans F6)
            have hb6 := F6.blk HKB.out (fun q => q)
            have d0 : w6.cell? ⟨wr.heap.size, 0, none⟩ = some (.int .i64 12) := by rw [cell_of_row w6 _ 0 _ _ _ hb6]; rfl
            clear F6 hb6
            go_wp2_with fail
            go_roundw
            case rel =>
              have hnx := HNX.out
              rw [show nextF al at' size dd tt = a1 by exact HN.out, show sizeF size dd tt = size by exact HNSZ.out] at hnx
              exact ⟨k + 1, a1, size, by omega, by go_num, rfl, rfl, hnx, HF6.out⟩
            case measure => simp [intOf]; omega
          · obtain ⟨rfl, hs⟩ := hcl
            have hr := t_reads ⟨12, ca, cb, csize, cn, csign, cchar, ctext, ccuts, cad, ccap⟩
            simp only [Cl.val, Cl.cells] at hr
            rw [show decide (Cl.isRead ⟨12, ca, cb, csize, cn, csign, cchar, ctext, ccuts, cad, ccap⟩) = false by exact decide_eq_false (by unfold Cl.isRead; simp only; omega)] at hr
            have HR := Lib.hid hr
            obtain ⟨kb0, kb1⟩ := two_blocks wr (.cells #[.int .i64 12, .int .i64 ca, .int .i64 cb, .int .u16 (csize : Int), .int .i64 cn, .int .u8 (csign.toNat : Int), .int .i32 cchar, .string ⟨ctext.toArray⟩, .slice cad ccuts.length ccap] 36) (.cells #[.int .i64 tn, .string ⟨ttext.toArray⟩, .int .i32 tchar, .int .i64 tsaid] 39)
            have HKB := Lib.hid kb0
            have HFW := Lib.hid ((((Fr.refl (fun _ => False) wr).alloc (.cells #[.int .i64 12, .int .i64 ca, .int .i64 cb, .int .u16 (csize : Int), .int .i64 cn, .int .u8 (csign.toNat : Int), .int .i32 cchar, .string ⟨ctext.toArray⟩, .slice cad ccuts.length ccap] 36)).alloc (.cells #[.int .i64 tn, .string ⟨ttext.toArray⟩, .int .i32 tchar, .int .i64 tsaid] 39)))
            clear hr kb0 kb1
            have hnt : ¬ tells dd := by rw [HDD.out]; unfold tells Cl.isRead; simp only; omega
            have hn : nextF al at' size dd tt = at' := by rw [nextF, if_neg hnt, HDD.out, HTT.out]; simp [backF, hs]
            have HN := Lib.hid hn
            have hnsz : sizeF size dd tt = size := by rw [HDD.out]; simp [sizeF]
            have HNSZ := Lib.hid hnsz
            clear hnsz hn hnt
            go_wp2_with fail
            refine (HR.out _).mono ?_
            rintro e w6 ⟨rfl, F6⟩
            have HF6 := Lib.hid ((HF.out.trans HFW.out).trans F6)
            have hb6 := F6.blk HKB.out (fun q => q)
            have d0 : w6.cell? ⟨wr.heap.size, 0, none⟩ = some (.int .i64 12) := by rw [cell_of_row w6 _ 0 _ _ _ hb6]; rfl
            clear F6 hb6
            go_wp2_with fail
            go_roundw
            case rel =>
              have hnx := HNX.out
              rw [show nextF al at' size dd tt = at' by exact HN.out, show sizeF size dd tt = size by exact HNSZ.out] at hnx
              exact ⟨k + 1, at', size, by omega, by go_num, rfl, rfl, hnx, HF6.out⟩
            case measure => simp [intOf]; omega
          · obtain ⟨rfl, rfl⟩ := hcl
            have hb1 := HOKT.out.b2 (by rw [HDD.out]) (by rw [HTT.out])
            obtain ⟨a1, ha1⟩ : ∃ a1, a1 = at' - size := ⟨_, rfl⟩
            have hsub : IntKind.i64.wrap ((at' : Int) - (size : Int)) = (a1 : Int) := by rw [IntWalk.i64_in _ (by omega)]; omega
            have hr := t_reads ⟨13, ca, cb, csize, cn, csign, cchar, ctext, ccuts, cad, ccap⟩
            simp only [Cl.val, Cl.cells] at hr
            rw [show decide (Cl.isRead ⟨13, ca, cb, csize, cn, csign, cchar, ctext, ccuts, cad, ccap⟩) = false by exact decide_eq_false (by unfold Cl.isRead; simp only; omega)] at hr
            have HR := Lib.hid hr
            obtain ⟨kb0, kb1⟩ := two_blocks wr (.cells #[.int .i64 13, .int .i64 ca, .int .i64 cb, .int .u16 (csize : Int), .int .i64 cn, .int .u8 (csign.toNat : Int), .int .i32 cchar, .string ⟨ctext.toArray⟩, .slice cad ccuts.length ccap] 36) (.cells #[.int .i64 tn, .string ⟨ttext.toArray⟩, .int .i32 tchar, .int .i64 0] 39)
            have HKB := Lib.hid kb0
            have HFW := Lib.hid ((((Fr.refl (fun _ => False) wr).alloc (.cells #[.int .i64 13, .int .i64 ca, .int .i64 cb, .int .u16 (csize : Int), .int .i64 cn, .int .u8 (csign.toNat : Int), .int .i32 cchar, .string ⟨ctext.toArray⟩, .slice cad ccuts.length ccap] 36)).alloc (.cells #[.int .i64 tn, .string ⟨ttext.toArray⟩, .int .i32 tchar, .int .i64 0] 39)))
            clear hr kb0 kb1
            have hnt : ¬ tells dd := by rw [HDD.out]; unfold tells Cl.isRead; simp only; omega
            have hn : nextF al at' size dd tt = a1 := by rw [nextF, if_neg hnt, HDD.out, HTT.out]; simp [backF, ha1]
            have HN := Lib.hid hn
            have hnsz : sizeF size dd tt = size := by rw [HDD.out]; simp [sizeF]
            have HNSZ := Lib.hid hnsz
            clear hnsz hn hnt hb1 ha1
            go_wp2_with fail
            refine (HR.out _).mono ?_
            rintro e w6 ⟨rfl, F6⟩
            have HF6 := Lib.hid ((HF.out.trans HFW.out).trans F6)
            have hb6 := F6.blk HKB.out (fun q => q)
            have d0 : w6.cell? ⟨wr.heap.size, 0, none⟩ = some (.int .i64 13) := by rw [cell_of_row w6 _ 0 _ _ _ hb6]; rfl
            clear F6 hb6
            go_wp2_with fail
            go_roundw
            case rel =>
              have hnx := HNX.out
              rw [show nextF al at' size dd tt = a1 by exact HN.out, show sizeF size dd tt = size by exact HNSZ.out] at hnx
              exact ⟨k + 1, a1, size, by omega, by go_num, rfl, rfl, hnx, HF6.out⟩
            case measure => simp [intOf]; omega
          · obtain ⟨rfl, hs⟩ := hcl
            have hr := t_reads ⟨13, ca, cb, csize, cn, csign, cchar, ctext, ccuts, cad, ccap⟩
            simp only [Cl.val, Cl.cells] at hr
            rw [show decide (Cl.isRead ⟨13, ca, cb, csize, cn, csign, cchar, ctext, ccuts, cad, ccap⟩) = false by exact decide_eq_false (by unfold Cl.isRead; simp only; omega)] at hr
            have HR := Lib.hid hr
            obtain ⟨kb0, kb1⟩ := two_blocks wr (.cells #[.int .i64 13, .int .i64 ca, .int .i64 cb, .int .u16 (csize : Int), .int .i64 cn, .int .u8 (csign.toNat : Int), .int .i32 cchar, .string ⟨ctext.toArray⟩, .slice cad ccuts.length ccap] 36) (.cells #[.int .i64 tn, .string ⟨ttext.toArray⟩, .int .i32 tchar, .int .i64 tsaid] 39)
            have HKB := Lib.hid kb0
            have HFW := Lib.hid ((((Fr.refl (fun _ => False) wr).alloc (.cells #[.int .i64 13, .int .i64 ca, .int .i64 cb, .int .u16 (csize : Int), .int .i64 cn, .int .u8 (csign.toNat : Int), .int .i32 cchar, .string ⟨ctext.toArray⟩, .slice cad ccuts.length ccap] 36)).alloc (.cells #[.int .i64 tn, .string ⟨ttext.toArray⟩, .int .i32 tchar, .int .i64 tsaid] 39)))
            clear hr kb0 kb1
            have hnt : ¬ tells dd := by rw [HDD.out]; unfold tells Cl.isRead; simp only; omega
            have hn : nextF al at' size dd tt = at' := by rw [nextF, if_neg hnt, HDD.out, HTT.out]; simp [backF, hs]
            have HN := Lib.hid hn
            have hnsz : sizeF size dd tt = size := by rw [HDD.out]; simp [sizeF]
            have HNSZ := Lib.hid hnsz
            clear hnsz hn hnt
            go_wp2_with fail
            refine (HR.out _).mono ?_
            rintro e w6 ⟨rfl, F6⟩
            have HF6 := Lib.hid ((HF.out.trans HFW.out).trans F6)
            have hb6 := F6.blk HKB.out (fun q => q)
            have d0 : w6.cell? ⟨wr.heap.size, 0, none⟩ = some (.int .i64 13) := by rw [cell_of_row w6 _ 0 _ _ _ hb6]; rfl
            clear F6 hb6
            go_wp2_with fail
            go_roundw
            case rel =>
              have hnx := HNX.out
              rw [show nextF al at' size dd tt = at' by exact HN.out, show sizeF size dd tt = size by exact HNSZ.out] at hnx
              exact ⟨k + 1, at', size, by omega, by go_num, rfl, rfl, hnx, HF6.out⟩
            case measure => simp [intOf]; omega
          · obtain rfl := hcl
            have hr := t_reads ⟨26, ca, cb, csize, cn, csign, cchar, ctext, ccuts, cad, ccap⟩
            simp only [Cl.val, Cl.cells] at hr
            rw [show decide (Cl.isRead ⟨26, ca, cb, csize, cn, csign, cchar, ctext, ccuts, cad, ccap⟩) = false by exact decide_eq_false (by unfold Cl.isRead; simp only; omega)] at hr
            have HR := Lib.hid hr
            obtain ⟨kb0, kb1⟩ := two_blocks wr (.cells #[.int .i64 26, .int .i64 ca, .int .i64 cb, .int .u16 (csize : Int), .int .i64 cn, .int .u8 (csign.toNat : Int), .int .i32 cchar, .string ⟨ctext.toArray⟩, .slice cad ccuts.length ccap] 36) (.cells #[.int .i64 tn, .string ⟨ttext.toArray⟩, .int .i32 tchar, .int .i64 tsaid] 39)
            have HKB := Lib.hid kb0
            have HFW := Lib.hid ((((Fr.refl (fun _ => False) wr).alloc (.cells #[.int .i64 26, .int .i64 ca, .int .i64 cb, .int .u16 (csize : Int), .int .i64 cn, .int .u8 (csign.toNat : Int), .int .i32 cchar, .string ⟨ctext.toArray⟩, .slice cad ccuts.length ccap] 36)).alloc (.cells #[.int .i64 tn, .string ⟨ttext.toArray⟩, .int .i32 tchar, .int .i64 tsaid] 39)))
            clear hr kb0 kb1
            have htl : tells dd := by rw [HDD.out]; exact .inr rfl
            have hdat : dataF al at' dd tt = ttext := by rw [HDD.out, HTT.out]; simp [dataF]
            have hle := HOKT.out.le htl
            have heq := HOKT.out.eq htl
            rw [hdat] at hle heq
            obtain ⟨e', he'⟩ : ∃ e', e' = at' + ttext.length := ⟨_, rfl⟩
            have hadd : IntKind.i64.wrap ((at' : Int) + (ttext.length : Int)) = (e' : Int) := by rw [IntWalk.i64_in _ (by omega)]; omega
            have hle' : ¬ ((al.length : Int) < (e' : Int)) := by omega
            have hat0 : ¬ ((at' : Int) < 0) := by omega
            have hsl := fun w' => told_slice (all := al) (D := ttext) hle heq he' w'
            have hn : nextF al at' size dd tt = e' := by rw [nextF, if_pos htl, hdat, he']
            have HN := Lib.hid hn
            have HE := Lib.hid he'
            have HDAT := Lib.hid hdat
            clear hdat hle heq he' hn
            have hnsz : sizeF size dd tt = size := by rw [HDD.out]; simp [sizeF]
            have HNSZ := Lib.hid hnsz
            clear hnsz htl
            go_wp2_with fail
            refine (HR.out _).mono ?_
            rintro e w6 ⟨rfl, F6⟩
            have HF6 := Lib.hid ((HF.out.trans HFW.out).trans F6)
            have hb6 := F6.blk HKB.out (fun q => q)
            have d0 : w6.cell? ⟨wr.heap.size, 0, none⟩ = some (.int .i64 26) := by rw [cell_of_row w6 _ 0 _ _ _ hb6]; rfl
            clear F6 hb6
            go_wp2_with fail
            go_roundw
            case rel =>
              have hnx := HNX.out
              rw [show nextF al at' size dd tt = e' by exact HN.out, show sizeF size dd tt = size by exact HNSZ.out] at hnx
              exact ⟨k + 1, e', size, by omega, by go_num, rfl, rfl, hnx, HF6.out⟩
            case measure => simp [intOf]; omega
          · obtain ⟨h6, h11, hn8, hn11⟩ := hcl
            have hr := t_reads ⟨op, ca, cb, csize, cn, csign, cchar, ctext, ccuts, cad, ccap⟩
            simp only [Cl.val, Cl.cells] at hr
            rw [show decide (Cl.isRead ⟨op, ca, cb, csize, cn, csign, cchar, ctext, ccuts, cad, ccap⟩) = true by exact decide_eq_true (by unfold Cl.isRead; simp only; omega)] at hr
            have HR := Lib.hid hr
            obtain ⟨kb0, kb1⟩ := two_blocks wr (.cells #[.int .i64 op, .int .i64 ca, .int .i64 cb, .int .u16 (csize : Int), .int .i64 cn, .int .u8 (csign.toNat : Int), .int .i32 cchar, .string ⟨ctext.toArray⟩, .slice cad ccuts.length ccap] 36) (.cells #[.int .i64 tn, .string ⟨ttext.toArray⟩, .int .i32 tchar, .int .i64 tsaid] 39)
            have HKB := Lib.hid kb0
            have HFW := Lib.hid ((((Fr.refl (fun _ => False) wr).alloc (.cells #[.int .i64 op, .int .i64 ca, .int .i64 cb, .int .u16 (csize : Int), .int .i64 cn, .int .u8 (csign.toNat : Int), .int .i32 cchar, .string ⟨ctext.toArray⟩, .slice cad ccuts.length ccap] 36)).alloc (.cells #[.int .i64 tn, .string ⟨ttext.toArray⟩, .int .i32 tchar, .int .i64 tsaid] 39)))
            clear hr kb0 kb1
            have htl : tells dd := by rw [HDD.out]; unfold tells Cl.isRead; simp only; omega
            have hdat : dataF al at' dd tt = ttext := by rw [HDD.out, HTT.out]; simp [dataF, hn8, hn11]
            have hle := HOKT.out.le htl
            have heq := HOKT.out.eq htl
            rw [hdat] at hle heq
            obtain ⟨e', he'⟩ : ∃ e', e' = at' + ttext.length := ⟨_, rfl⟩
            have hadd : IntKind.i64.wrap ((at' : Int) + (ttext.length : Int)) = (e' : Int) := by rw [IntWalk.i64_in _ (by omega)]; omega
            have hle' : ¬ ((al.length : Int) < (e' : Int)) := by omega
            have hat0 : ¬ ((at' : Int) < 0) := by omega
            have hsl := fun w' => told_slice (all := al) (D := ttext) hle heq he' w'
            have hn : nextF al at' size dd tt = e' := by rw [nextF, if_pos htl, hdat, he']
            have HN := Lib.hid hn
            have HE := Lib.hid he'
            have HDAT := Lib.hid hdat
            clear hdat hle heq he' hn
            have hnsz : sizeF size dd tt = size := by rw [HDD.out]; simp [sizeF, hn11]
            have HNSZ := Lib.hid hnsz
            clear hnsz htl
            have hn12 : ¬ op = 12 := by omega
            have hn13 : ¬ op = 13 := by omega
            go_wp2_with fail
            refine (HR.out _).mono ?_
            rintro e w6 ⟨rfl, F6⟩
            have HF6 := Lib.hid ((HF.out.trans HFW.out).trans F6)
            have hb6 := F6.blk HKB.out (fun q => q)
            have d0 : w6.cell? ⟨wr.heap.size, 0, none⟩ = some (.int .i64 op) := by rw [cell_of_row w6 _ 0 _ _ _ hb6]; rfl
            clear F6 hb6
            go_wp2_with fail
            go_roundw
            case rel =>
              have hnx := HNX.out
              rw [show nextF al at' size dd tt = e' by exact HN.out, show sizeF size dd tt = size by exact HNSZ.out] at hnx
              exact ⟨k + 1, e', size, by omega, by go_num, rfl, rfl, hnx, HF6.out⟩
            case measure => simp [intOf]; omega
          · obtain ⟨hno, hn26⟩ := hcl
            have hn8 : ¬ op = 8 := by omega
            have hn11 : ¬ op = 11 := by omega
            have hn12 : ¬ op = 12 := by omega
            have hn13 : ¬ op = 13 := by omega
            have hr := t_reads ⟨op, ca, cb, csize, cn, csign, cchar, ctext, ccuts, cad, ccap⟩
            simp only [Cl.val, Cl.cells] at hr
            rw [show decide (Cl.isRead ⟨op, ca, cb, csize, cn, csign, cchar, ctext, ccuts, cad, ccap⟩) = false by exact decide_eq_false (by unfold Cl.isRead; simp only; omega)] at hr
            have HR := Lib.hid hr
            obtain ⟨kb0, kb1⟩ := two_blocks wr (.cells #[.int .i64 op, .int .i64 ca, .int .i64 cb, .int .u16 (csize : Int), .int .i64 cn, .int .u8 (csign.toNat : Int), .int .i32 cchar, .string ⟨ctext.toArray⟩, .slice cad ccuts.length ccap] 36) (.cells #[.int .i64 tn, .string ⟨ttext.toArray⟩, .int .i32 tchar, .int .i64 tsaid] 39)
            have HKB := Lib.hid kb0
            have HFW := Lib.hid ((((Fr.refl (fun _ => False) wr).alloc (.cells #[.int .i64 op, .int .i64 ca, .int .i64 cb, .int .u16 (csize : Int), .int .i64 cn, .int .u8 (csign.toNat : Int), .int .i32 cchar, .string ⟨ctext.toArray⟩, .slice cad ccuts.length ccap] 36)).alloc (.cells #[.int .i64 tn, .string ⟨ttext.toArray⟩, .int .i32 tchar, .int .i64 tsaid] 39)))
            clear hr kb0 kb1
            have hnt : ¬ tells dd := by rw [HDD.out]; unfold tells Cl.isRead; simp only; omega
            have hn : nextF al at' size dd tt = at' := by rw [nextF, if_neg hnt, HDD.out]; simp [backF, hn12, hn13]
            have HN := Lib.hid hn
            have hnsz : sizeF size dd tt = size := by rw [HDD.out]; simp [sizeF, *]
            have HNSZ := Lib.hid hnsz
            clear hnsz hn hnt
            go_wp2_with fail
            refine (HR.out _).mono ?_
            rintro e w6 ⟨rfl, F6⟩
            have HF6 := Lib.hid ((HF.out.trans HFW.out).trans F6)
            have hb6 := F6.blk HKB.out (fun q => q)
            have d0 : w6.cell? ⟨wr.heap.size, 0, none⟩ = some (.int .i64 op) := by rw [cell_of_row w6 _ 0 _ _ _ hb6]; rfl
            clear F6 hb6
            go_wp2_with fail
            go_roundw
            case rel =>
              have hnx := HNX.out
              rw [show nextF al at' size dd tt = at' by exact HN.out, show sizeF size dd tt = size by exact HNSZ.out] at hnx
              exact ⟨k + 1, at', size, by omega, by go_num, rfl, rfl, hnx, HF6.out⟩
            case measure => simp [intOf]; omega
        · have hkk : k = L.length := by omega
          subst hkk
          rw [List.drop_length] at hgo
          obtain ⟨hle, hfin⟩ := hgo
          obtain ⟨g, p, e1, hcb⟩ := HS5.out.at' 0 fin' rfl
          have hb := keep1 hF (hcb 0 _ rfl)
          simp only [strV, Nat.add_zero, Nat.zero_mul] at hb
          have hsl := fun w' => slice_str_from al at' hle w'
          rw [hfin] at hsl
          have hge : (0 : Int) ≤ (at' : Int) := by omega
          have hlei : (at' : Int) ≤ (al.length : Int) := by omega
          have hd1 : decide ((at' : Int) ≤ (al.length : Int)) = true := decide_eq_true hlei
          have hd2 : decide (at' ≤ al.length) = true := decide_eq_true hle
          have HFE := Lib.hid (HF5.out.trans hF)
          subst e1
          clear hfin hcb hF HF
          go_wp2_with fail
          go_quiet (fail)
          go_wp2_with fail
          go_ret
          exact ⟨rfl, HFE.out.drewN _⟩
theorem readsInOrder_any (s : St) (cs : List Cl) (A : Option Addr) (c : Nat) (ea eu : Addr) (w : World) (hC : Reads Cl.cells 9 w A cs) (hok : CallsOk w cs) (hs : s.text.length ≤ 1048576) (hsp : s.space ≤ 65535) (hG : Gl w.heap.size ea eu w) :
    Calls Tryz.prog 3 #[.agg s.cells.toArray, .slice A cs.length c] w (LawPost w) := by
  obtain ⟨text, way, space⟩ := s
  exact readsInOrder_walk text way space cs A c ea eu w hC hok hs hsp hG
end Go.Proofs.YtbodbajgpgaoeaaGreatDoor
