/- The walk of laws.FnTruncateForgets. -/
import Derived.Test.YtbodbajgpgaoeaaGreatDoorQTruQ
namespace Go.Proofs.YtbodbajgpgaoeaaGreatDoor
open Go Go.RowKit

set_option maxHeartbeats 12800000 in
set_option maxRecDepth 100000 in
theorem truncateForgets_walk (text : List UInt8) (way : Int) (space : Nat) (cs : List Cl) (A : Option Addr) (c : Nat) (nn : Nat) (ds : List Cl) (B : Option Addr) (d : Nat) (ea eu : Addr) (w : World) (hC : Reads Cl.cells 9 w A cs) (hok : CallsOk w cs) (hD : Reads Cl.cells 9 w B ds) (hok2 : CallsOk w ds)
    (hw1 : wsum cs ≤ 8388608) (hw2 : wsum ds ≤ 8388608) (hs : text.length ≤ 1048576) (hsp : space ≤ 65535) (hnn : nn ≤ 65535) (hG : Gl w.heap.size ea eu w) :
    Calls Tryz.prog 5 #[.agg #[.string ⟨text.toArray⟩, .int .i64 way, .int .u16 (space : Int)], .slice A cs.length c, .int .u16 (nn : Int), .slice B ds.length d] w (LawPost w) := by
  have HC := Lib.hid hC
  have HOK := Lib.hid hok
  have HD := Lib.hid hD
  have HOK2 := Lib.hid hok2
  have HG := Lib.hid hG
  have hfew := hok.few
  have hfew2 := hok2.few
  clear hC hok hD hok2 hG
  obtain ⟨w0, hw0⟩ : ∃ w0, w0 = w.alloc (.cells #[.string ⟨text.toArray⟩, .int .i64 way, .int .u16 (space : Int)] 24) := ⟨_, rfl⟩
  have k0 := heap_alloc_new w (.cells #[.string ⟨text.toArray⟩, .int .i64 way, .int .u16 (space : Int)] 24)
  rw [← hw0] at k0
  have hF0 : Fr (fun _ => False) w w0 := by rw [hw0]; exact fr_one w _
  have hsz0 : w0.heap.size = w.heap.size + 1 := by rw [hw0]; simp only [World.size_alloc]
  have HSZ0 := Lib.hid hsz0
  have HF0 := Lib.hid hF0
  have HW0 := Lib.hid hw0
  have s0 : w0.cell? ⟨w.heap.size, 0, none⟩ = some (.string ⟨text.toArray⟩) := by rw [cell_of_row w0 _ 0 _ _ _ k0]; rfl
  have s1 : w0.cell? ⟨w.heap.size, 1, none⟩ = some (.int .i64 way) := by rw [cell_of_row w0 _ 1 _ _ _ k0]; rfl
  have s2 : w0.cell? ⟨w.heap.size, 2, none⟩ = some (.int .u16 (space : Int)) := by rw [cell_of_row w0 _ 2 _ _ _ k0]; rfl
  clear hw0 hF0 k0
  have hlong : ∀ bb, bb = decide (4096 < cs.length + ds.length) → Calls Tryz.prog 9 #[.slice (some ⟨w.heap.size + 1, 0, none⟩) 2 2] (w0.alloc (.cells #[.slice A cs.length c, .slice B ds.length d] 25)) fun e w' => e = .returned (.bool bb) ∧ w' = w0.alloc (.cells #[.slice A cs.length c, .slice B ds.length d] 25) := by
    intro bb hbb
    rw [hbb]
    have hb := heap_alloc_new w0 (.cells #[.slice A cs.length c, .slice B ds.length d] 25)
    rw [hsz0] at hb
    exact long_2 (w.heap.size + 1) A cs.length c B ds.length d _ (by rw [cell_of_row _ _ 0 _ _ _ hb]; rfl) (by rw [cell_of_row _ _ 1 _ _ _ hb]; rfl) (by omega) (by omega)
  have HLONG := Lib.hid hlong
  clear hlong hsz0
  by_cases hbig : 4096 < cs.length + ds.length
  · go_enter Tryz.func5, Tryz.ntmps5
    go_wp2_with fail
    rw [← HW0.out]
    refine (HLONG.out true (by simp [hbig])).mono ?_
    rintro e w1 ⟨rfl, hw1⟩
    rw [hw1]
    clear hw1
    go_wp2_with fail
    go_ret
    exact ⟨rfl, HF0.out.alloc _⟩
  go_enter Tryz.func5, Tryz.ntmps5
  go_wp2_with fail
  rw [← HW0.out]
  refine (HLONG.out false (by simp [hbig])).mono ?_
  rintro e w1 ⟨rfl, hw1⟩
  rw [hw1]
  clear hw1
  obtain ⟨w2, hw2⟩ : ∃ w2, w2 = w0.alloc (.cells #[.slice A cs.length c, .slice B ds.length d] 25) := ⟨_, rfl⟩
  rw [← hw2]
  have hF2 : Fr (fun _ => False) w0 w2 := by rw [hw2]; exact fr_one w0 _
  have s0b := keep1 hF2 s0
  have s1b := keep1 hF2 s1
  have s2b := keep1 hF2 s2
  have HF2 := Lib.hid (HF0.out.trans hF2)
  have s0l : ∀ o : Obj, (w2.alloc o).cell? ⟨w.heap.size, 0, none⟩ = some (.string ⟨text.toArray⟩) := fun o => alloc_cell s0b
  have s1l : ∀ o : Obj, (w2.alloc o).cell? ⟨w.heap.size, 1, none⟩ = some (.int .i64 way) := fun o => alloc_cell s1b
  have s2l : ∀ o : Obj, (w2.alloc o).cell? ⟨w.heap.size, 2, none⟩ = some (.int .u16 (space : Int)) := fun o => alloc_cell s2b
  have HRS2 := Lib.hid (Reads.of_block St.cells_len (heap_alloc_new w2 (.cells #[.string ⟨text.toArray⟩, .int .i64 way, .int .u16 (space : Int)] 24)) rfl : Reads St.cells 3 (w2.alloc (.cells #[.string ⟨text.toArray⟩, .int .i64 way, .int .u16 (space : Int)] 24)) (some ⟨w2.heap.size, 0, none⟩) [⟨text, way, space⟩])
  clear hw2 hF2 s0 s1 s2
  go_wp2_with fail
  have hone := one_trunc InvB stepB ⟨text, way, space⟩ (fun c => decide (c.op < 23)) t_trunc cs A c (w2.alloc (.cells #[.string ⟨text.toArray⟩, .int .i64 way, .int .u16 (space : Int)] 24)) (HC.out.fr0 (HF2.out.alloc _)) (by omega) (keep_inv (fun c ha hk => ⟨ha, .inl (of_decide_eq_true hk)⟩) HOK.out ⟨text, way, space⟩ (by simp only; omega))
  have HONE := Lib.hid hone
  clear hone
  refine HONE.out.mono ?_
  rintro e w3 ⟨vl, rfl, hown, F3⟩
  obtain ⟨hplay, hws, hll⟩ := calm_play (keep := (fun c => decide (c.op < 23))) (fun c ha hk => ⟨ha, .inl (of_decide_eq_true hk)⟩) HOK.out ⟨text, way, space⟩ (by simp only; omega)
  generalize hL : calmF (Yd.begin [⟨text, way, space⟩] 0) (keepF (fun c => decide (c.op < 23)) cs) = L at *
  obtain ⟨A1, q1, rfl⟩ := hown.value
  have F23 := (fr_one w2 (.cells #[.string ⟨text.toArray⟩, .int .i64 way, .int .u16 (space : Int)] 24)).trans F3
  have HF3 := Lib.hid (HF2.out.trans F23)
  have HRS3 := Lib.hid (HRS2.out.fr0 F3)
  have HO3 := Lib.hid hown
  have HPLAY := Lib.hid hplay
  have HWS := Lib.hid hws
  have hll' : L.length ≤ 4096 := by omega
  have hrun := run1_any ⟨text, way, space⟩ L (some ⟨w2.heap.size, 0, none⟩) A1 1 q1 ea eu w3 HRS3.out ⟨by simp only; omega, hsp⟩ (Own.readsAt Cl.cells_len (by decide) (by have k := hown; exact k)) (HPLAY.out.fr HF3.out) ((HG.out.fr0 (Nat.le_refl _) HF3.out).up HF3.out.size)
  have HRUN := Lib.hid hrun
  clear hrun hown hplay hws hll hL F3 F23 HONE s0b s1b s2b s0l s1l s2l
  go_wp2_with fail
  refine HRUN.out.mono ?_
  rintro e w4 ⟨A4, c4, B4, d4, D4, n4, k4, fin, rfl, ht4, hl4, hr4, hs4, F4, hc4, hn4, hm4⟩
  have HF4 := Lib.hid (HF3.out.trans F4)
  have HRS4 := Lib.hid (HRS3.out.fr0 F4)
  have HO4 := Lib.hid (HO3.out.fr F4 (fun _ _ q => q))
  obtain ⟨g, p, e1, hcb⟩ := hs4.at' 0 fin rfl
  have hb4 := hcb 0 _ rfl
  simp only [strV, Nat.add_zero, Nat.zero_mul] at hb4
  obtain ⟨b, hbr, hbl⟩ := run_len L (b0 ⟨text, way, space⟩) (b0_good _) HPLAY.out.first HPLAY.out.mild
  have hfin : b.text = fin := by rw [hbr, yd1_texts] at ht4; injection ht4
  have hwsl := HWS.out
  have hfl : fin.length ≤ 1048576 + 8388608 := by
    rw [← hfin]
    have h2 : (b0 ⟨text, way, space⟩).text.length = text.length := rfl
    omega
  have HBR := Lib.hid hbr
  have HFIN := Lib.hid hfin
  have HTX := Lib.hid ht4
  have HLN := Lib.hid hl4
  have HT4 := Lib.hid hr4
  obtain ⟨f1, hf1⟩ : ∃ f1, f1 = fin.length + 1 := ⟨_, rfl⟩
  obtain ⟨k, hk⟩ : ∃ k, k = nn % f1 := ⟨_, rfl⟩
  have hkl : k ≤ fin.length := by have := Nat.mod_lt nn (show 0 < f1 by omega); omega
  have hwn : wrap64 (nn : Int) = (nn : Int) := IntWalk.wrap64_in _ (by omega)
  have hadd : IntKind.i64.wrap ((fin.length : Int) + 1) = (f1 : Int) := by rw [IntWalk.i64_in _ (by omega)]; omega
  have hnz : ¬ ((f1 : Int) = 0) := by omega
  have hrem : Int.tmod (nn : Int) (f1 : Int) = (k : Int) := by rw [hk]; exact (Int.ofNat_tmod nn f1).symm
  have hwk : IntKind.i64.wrap (k : Int) = (k : Int) := IntWalk.i64_in _ (by omega)
  have hsl := fun w' => slice_str_to fin k hkl w'
  subst e1
  clear HRUN ht4 hl4 hr4 hs4 F4 hc4 hn4 hm4 hcb hk hf1 hbr hbl hfin hwsl
  go_wp2_with fail
  have htk : (fin.take k).length ≤ 9437184 := by rw [List.length_take]; omega
  have hone2 := one_trunc InvB stepB ⟨fin.take k, 0, 0⟩ (fun c => decide (c.op < 23)) t_trunc ds B d (w4.alloc (.cells #[.string ⟨(fin.take k).toArray⟩, .int .i64 0, .int .u16 0] 24)) (HD.out.fr0 (HF4.out.alloc _)) (by omega) (keep_inv (fun c ha hk => ⟨ha, .inl (of_decide_eq_true hk)⟩) HOK2.out ⟨fin.take k, 0, 0⟩ (by simp only; omega))
  have HONE2 := Lib.hid hone2
  have HRC4 := Lib.hid (Reads.of_block St.cells_len (heap_alloc_new w4 (.cells #[.string ⟨(fin.take k).toArray⟩, .int .i64 0, .int .u16 0] 24)) rfl : Reads St.cells 3 (w4.alloc (.cells #[.string ⟨(fin.take k).toArray⟩, .int .i64 0, .int .u16 0] 24)) (some ⟨w4.heap.size, 0, none⟩) [⟨fin.take k, 0, 0⟩])
  clear hone2
  refine HONE2.out.mono ?_
  rintro e w5 ⟨vl2, rfl, hown2, F5⟩
  obtain ⟨hplay2, hws2, hll2⟩ := calm_play (keep := (fun c => decide (c.op < 23))) (fun c ha hk => ⟨ha, .inl (of_decide_eq_true hk)⟩) HOK2.out ⟨fin.take k, 0, 0⟩ (by simp only; omega)
  generalize hL2 : calmF (Yd.begin [⟨fin.take k, 0, 0⟩] 0) (keepF (fun c => decide (c.op < 23)) ds) = L2 at *
  obtain ⟨A2, q2, rfl⟩ := hown2.value
  have F45 := (fr_one w4 (.cells #[.string ⟨(fin.take k).toArray⟩, .int .i64 0, .int .u16 0] 24)).trans F5
  have HF5 := Lib.hid (HF4.out.trans F45)
  have HRS5 := Lib.hid (HRS4.out.fr0 F45)
  have HRC5 := Lib.hid (HRC4.out.fr0 F5)
  have HO5 := Lib.hid (HO4.out.fr F45 (fun _ _ q => q))
  obtain ⟨hI, hp3, hnb, hws3, hll3⟩ := plain_play hplay2
  have hsl2 := slOk_of hown2
  have hpl := plain_calls ⟨fin.take k, 0, 0⟩ (some ⟨w4.heap.size, 0, none⟩) 1 A2 q2 L2 w5 HRC5.out hsl2.r (by omega) hsl2.z hI
  generalize hL3 : calmF (Yd.begin [⟨fin.take k, 0, 0⟩] 0) (keepB L2) = L3 at *
  have HPL := Lib.hid hpl
  have HP3 := Lib.hid hp3
  have HNB := Lib.hid hnb
  have hlw3 : wsum L3 ≤ 8388608 := by omega
  have hll3' : L3.length ≤ 4096 := by omega
  clear hown2 hplay2 hws2 hll2 hL2 hL3 F45 F5 hI hp3 hnb hws3 hll3 hsl2 hpl HONE2 hb4 hsl
  go_wp2_with fail
  refine HPL.out.mono ?_
  rintro e w6 ⟨v3, rfl, hown3, F6⟩
  obtain ⟨A3, q3, rfl⟩ := hown3.value
  have HF6 := Lib.hid (HF5.out.trans F6)
  have HRS6 := Lib.hid (HRS5.out.fr0 F6)
  have HRC6 := Lib.hid (HRC5.out.fr0 F6)
  have HO16 := Lib.hid (HO5.out.fr F6 (fun _ _ q => q))
  have HO36 := Lib.hid hown3
  have hm1 : IntKind.i64.wrap ((L.length : Int) + 1) = ((L.length + 1 : Nat) : Int) := by rw [IntWalk.i64_in _ (by omega)]; omega
  obtain ⟨m, hm⟩ : ∃ m, m = L.length + 1 := ⟨_, rfl⟩
  rw [← hm] at hm1
  have HM := Lib.hid hm
  clear hown3 F6 hm HPL
  obtain ⟨kb0, kb1⟩ := two_blocks w6 (.cells #[.int .i64 15, .int .i64 0, .int .i64 0, .int .u16 0, .int .i64 (k : Int), .int .u8 0, .int .i32 0, .string ⟨#[]⟩, .slice none 0 0] 36) (.cells #[.slice A1 L.length q1, .slice (some ⟨w6.heap.size, 0, none⟩) 1 1, .slice A3 L3.length q3] 25)
  have F68 : Fr (fun _ => False) w6 ((w6.alloc (.cells #[.int .i64 15, .int .i64 0, .int .i64 0, .int .u16 0, .int .i64 (k : Int), .int .u8 0, .int .i32 0, .string ⟨#[]⟩, .slice none 0 0] 36)).alloc (.cells #[.slice A1 L.length q1, .slice (some ⟨w6.heap.size, 0, none⟩) 1 1, .slice A3 L3.length q3] 25)) := ((Fr.refl (fun _ => False) w6).alloc _).alloc _
  have hmid : SlOk ((w6.alloc (.cells #[.int .i64 15, .int .i64 0, .int .i64 0, .int .u16 0, .int .i64 (k : Int), .int .u8 0, .int .i32 0, .string ⟨#[]⟩, .slice none 0 0] 36)).alloc (.cells #[.slice A1 L.length q1, .slice (some ⟨w6.heap.size, 0, none⟩) 1 1, .slice A3 L3.length q3] 25)) ⟨some ⟨w6.heap.size, 0, none⟩, [trC k], 1⟩ := ⟨Reads.of_block Cl.cells_len kb0 rfl, fun q => by cases q⟩
  have hcat := concat_calls (w6.heap.size + 1) 3 [⟨A1, L, q1⟩, ⟨some ⟨w6.heap.size, 0, none⟩, [trC k], 1⟩, ⟨A3, L3, q3⟩] ((w6.alloc (.cells #[.int .i64 15, .int .i64 0, .int .i64 0, .int .u16 0, .int .i64 (k : Int), .int .u8 0, .int .i32 0, .string ⟨#[]⟩, .slice none 0 0] 36)).alloc (.cells #[.slice A1 L.length q1, .slice (some ⟨w6.heap.size, 0, none⟩) 1 1, .slice A3 L3.length q3] 25)) (fun i x hx => by
    match i, hx with
    | 0, hx =>
      simp only [List.getElem?_cons_zero, Option.some.injEq] at hx
      subst hx
      rw [cell_of_row _ _ 0 _ _ _ kb1]
      rfl
    | 1, hx =>
      simp only [List.getElem?_cons_succ, List.getElem?_cons_zero, Option.some.injEq] at hx
      subst hx
      rw [cell_of_row _ _ 1 _ _ _ kb1]
      rfl
    | 2, hx =>
      simp only [List.getElem?_cons_succ, List.getElem?_cons_zero, Option.some.injEq] at hx
      subst hx
      rw [cell_of_row _ _ 2 _ _ _ kb1]
      rfl
    | i + 3, hx => simp at hx) (fun x hx => by
    simp only [List.mem_cons, List.not_mem_nil, or_false] at hx
    rcases hx with rfl | rfl | rfl
    · exact slOk_of (HO16.out.fr F68 (fun _ _ q => q))
    · exact hmid
    · exact slOk_of (HO36.out.fr F68 (fun _ _ q => q))) (by simp only [flatC, List.flatMap_cons, List.flatMap_nil, List.append_nil, List.length_append, List.length_cons, List.length_nil]; omega) (by simp)
  obtain ⟨S, hS⟩ : ∃ S, S = L ++ [trC k] ++ L3 := ⟨_, rfl⟩
  have hfl2 : flatC [⟨A1, L, q1⟩, ⟨some ⟨w6.heap.size, 0, none⟩, [trC k], 1⟩, ⟨A3, L3, q3⟩] = S := by rw [hS]; simp only [flatC, List.flatMap_cons, List.flatMap_nil, List.append_nil, List.append_assoc]
  rw [hfl2] at hcat
  have hlS : S.length = L.length + 1 + L3.length := by rw [hS]; simp; omega
  have HCAT := Lib.hid hcat
  have HSS := Lib.hid hS
  have HLS := Lib.hid hlS
  have HRS8 := Lib.hid (HRS6.out.fr0 F68)
  have HRC8 := Lib.hid (HRC6.out.fr0 F68)
  have HO38 := Lib.hid (HO36.out.fr F68 (fun _ _ q => q))
  have HF8 := Lib.hid (HF6.out.trans F68)
  clear kb0 kb1 F68 hmid hcat hS hfl2 hlS
  go_wp2_with fail
  refine HCAT.out.mono ?_
  rintro e w7 ⟨v, rfl, hown, F7⟩
  obtain ⟨A12, q12, rfl⟩ := hown.value
  have HF7 := Lib.hid (HF8.out.trans F7)
  obtain ⟨P2, hr2, hx2⟩ := trunc_play (k := k) (HPLAY.out.fr HF7.out) HBR.out (by rw [HFIN.out]; exact hkl) (by rw [HFIN.out]; exact HP3.out.fr HF7.out) HNB.out (by have := HWS.out; simp only; omega) (by omega)
  rw [HFIN.out, ← HSS.out] at hr2 hx2
  rw [← HSS.out] at P2
  have hrd : Reads Cl.cells 9 w7 A12 S := Own.readsAt Cl.cells_len (by decide) (by have k := hown; exact k)
  have hrun := run1_any ⟨text, way, space⟩ S (some ⟨w2.heap.size, 0, none⟩) A12 1 q12 ea eu w7 (HRS8.out.fr0 F7) ⟨by simp only; omega, hsp⟩ hrd P2 ((HG.out.fr0 (Nat.le_refl _) HF7.out).up HF7.out.size)
  have HRUN := Lib.hid hrun
  have HRC7 := Lib.hid (HRC8.out.fr0 F7)
  have HO37 := Lib.hid (HO38.out.fr F7 (fun _ _ q => q))
  have HR2 := Lib.hid hr2
  have HX2 := Lib.hid hx2
  clear hown F7 hrd hrun P2 hr2 hx2 HCAT
  go_wp2_with fail
  refine HRUN.out.mono ?_
  rintro e w8 ⟨A10, c10, B10, d10, D10, n10, k10, fin1, rfl, ht10, hl10, hr10, hs10, F10, hc10, hn10, hm10⟩
  have HF10 := Lib.hid (HF7.out.trans F10)
  have hrd : Reads Cl.cells 9 w8 A3 L3 := Own.readsAt Cl.cells_len (by decide) (by have k := HO37.out.fr F10 (fun _ _ q => q); exact k)
  have hrun := run1_any ⟨fin.take k, 0, 0⟩ L3 (some ⟨w4.heap.size, 0, none⟩) A3 1 q3 ea eu w8 (HRC7.out.fr0 F10) ⟨by simp only; omega, by simp⟩ hrd (HP3.out.fr HF10.out) ((HG.out.fr0 (Nat.le_refl _) HF10.out).up HF10.out.size)
  have HRUN2 := Lib.hid hrun
  have HT10 := Lib.hid hr10
  have HS10 := Lib.hid hs10
  have HTX10 := Lib.hid ht10
  have HL10 := Lib.hid hl10
  have hc10' := hc10
  clear HRUN ht10 hl10 hr10 hs10 F10 hc10 hn10 hm10 hrd hrun
  go_wp2_with fail
  refine HRUN2.out.mono ?_
  rintro e w9 ⟨A11, c11, B11, d11, D11, n11, k11, fin2, rfl, ht11, hl11, hr11, hs11, F11, hc11, hn11, hm11⟩
  have hx := HX2.out
  rw [HTX10.out, ht11] at hx
  have hfe : fin1 = fin2 := by injection hx
  subst hfe
  obtain ⟨t3, ht3⟩ : ∃ t3, t3 = (runF (yd1 (b0 ⟨fin.take k, 0, 0⟩)) L3).1 := ⟨_, rfl⟩
  obtain ⟨t1, ht1⟩ : ∃ t1, t1 = (runF (yd1 (b0 ⟨text, way, space⟩)) L).1 := ⟨_, rfl⟩
  have hl1 : t1.length = L.length := by rw [ht1]; exact HLN.out
  have hl3 : t3.length = L3.length := by rw [ht3]; exact hl11
  have hT := HT10.out.fr0 F11
  rw [HR2.out, ← ht1, ← ht3] at hT
  rw [← ht3] at hr11
  have hlS := HLS.out
  have hmm := HM.out
  obtain ⟨r, o, e1, hca⟩ := hT.at' t1.length Td.zero (by rw [List.append_assoc, List.getElem?_append_right (Nat.le_refl _), Nat.sub_self]; rfl)
  have h0 : w9.cell? ⟨r, o + L.length * 4 + 3, none⟩ = some (.int .i64 0) := by rw [← hl1]; exact hca 3 _ rfl
  obtain ⟨A', hsl, hrdr⟩ := slice_told_from A10 S.length c10 m (by omega) hc10'
  have hSm : S.length - m = L3.length := by omega
  rw [hSm, e1] at hsl
  have hrA : Reads Td.cells 4 w9 A' t3 := hrdr (w' := w9) (xs := t1 ++ [Td.zero]) (ys := t3) (by rw [List.length_append]; simp only [List.length_cons, List.length_nil]; omega) (by omega) hT
  have hE1 := equal_told t3 A' A11 (c10 - m) c11 w9 hrA hr11 (by omega)
  rw [hl3] at hE1
  have HE1 := Lib.hid hE1
  have HE2 := Lib.hid (show ∀ w', Fr (fun _ => False) w9 w' → Calls Tryz.prog 24 #[.slice B10 1 d10, .slice B11 1 d11] w' fun e w'' => e = .returned (.bool true) ∧ Fr (fun _ => False) w' w'' from fun w' F => equal_strs [fin1] B10 B11 d10 d11 w' ((HS10.out.fr0 F11).fr0 F) (hs11.fr0 F) (by simp))
  have hw2 : IntKind.i64.wrap ((m : Int) + (L3.length : Int)) = (S.length : Int) := by rw [IntWalk.i64_in _ (by omega)]; omega
  have hwm : IntKind.i64.wrap ((m : Int) - 1) = (L.length : Int) := by rw [IntWalk.i64_in _ (by omega)]; omega
  have hb0 : (0 : Int) ≤ (L.length : Int) := by omega
  have hb1 : (L.length : Int) < (S.length : Int) := by omega
  have HF11 := Lib.hid (HF10.out.trans F11)
  subst e1
  clear HRUN2 hx ht11 hl11 hr11 hs11 F11 hc11 hn11 hm11 ht3 ht1 hl1 hl3 hT hlS hmm hca hrdr hSm hrA hE1
  go_wp2_with fail
  refine HE1.out.mono ?_
  rintro e w10 ⟨rfl, F12⟩
  have HF12 := Lib.hid F12
  clear F12 HE1 h0
  go_wp2_with fail
  refine (HE2.out _ HF12.out).mono ?_
  rintro e w11 ⟨rfl, F13⟩
  have HF13 := Lib.hid ((HF11.out.trans HF12.out).trans F13)
  clear F13
  go_wp2_with fail
  go_ret
  exact ⟨rfl, HF13.out⟩
theorem truncateForgets_any (s : St) (cs : List Cl) (A : Option Addr) (c : Nat) (nn : Nat) (ds : List Cl) (B : Option Addr) (d : Nat) (ea eu : Addr) (w : World) (hC : Reads Cl.cells 9 w A cs) (hok : CallsOk w cs) (hD : Reads Cl.cells 9 w B ds) (hok2 : CallsOk w ds) (hw1 : wsum cs ≤ 8388608) (hw2 : wsum ds ≤ 8388608) (hs : s.text.length ≤ 1048576) (hsp : s.space ≤ 65535) (hnn : nn ≤ 65535) (hG : Gl w.heap.size ea eu w) :
    Calls Tryz.prog 5 #[.agg s.cells.toArray, .slice A cs.length c, .int .u16 (nn : Int), .slice B ds.length d] w (LawPost w) := by
  obtain ⟨text, way, space⟩ := s
  exact truncateForgets_walk text way space cs A c nn ds B d ea eu w hC hok hD hok2 hw1 hw2 hs hsp hnn hG
end Go.Proofs.YtbodbajgpgaoeaaGreatDoor
