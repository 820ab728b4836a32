/- SpecL, SpecM. -/
import Derived.Test.YtbodbajgpgaoeaaGreatDoorQ20
namespace Go.Proofs.YtbodbajgpgaoeaaGreatDoor
open Go Go.RowKit

theorem Own.lower {E : TypeId} {size : Nat} {w : World} {base base' : Nat} {v : Value} {n : Nat} {xs : List Value} (h : Own E size w base v n xs) (hb : base' ≤ base) : Own E size w base' v n xs := by
  refine ⟨h.1, ?_⟩
  rcases h.2 with k | ⟨g, cap, cur, e, k1, k⟩
  · exact .inl k
  · exact .inr ⟨g, cap, cur, e, Nat.le_trans hb k1, k⟩
def Cl.at0 (c : Cl) : Cl := { c with a := 0 }
/-- The calls that are kept, all of the first buffer. -/
def keepF (keep : Cl → Bool) (l : List Cl) : List Cl := (l.map Cl.at0).filter keep
theorem keep_succ {keep : Cl → Bool} {cs : List Cl} {k : Nat} {d : Cl} (h : cs[k]? = some d) : keepF keep (cs.take (k + 1)) = keepF keep (cs.take k) ++ (if keep d.at0 = true then [d.at0] else []) := by
  obtain ⟨hl, e⟩ := List.getElem?_eq_some_iff.1 h
  rw [List.take_succ_eq_append_getElem hl, e]
  simp only [keepF, List.map_append, List.map_cons, List.map_nil, List.filter_append, List.filter_cons, List.filter_nil]
theorem keep_len (keep : Cl → Bool) (cs : List Cl) (k : Nat) : (keepF keep (cs.take k)).length ≤ k := by
  refine Nat.le_trans (List.length_filter_le _ _) ?_
  simp
  omega
/-- A test of calls, as the code has it. -/
def TestOk (fid : FuncId) (keep : Cl → Bool) : Prop := ∀ (c : Cl) (w : World), Calls Tryz.prog fid #[c.val] w fun e w' => e = .returned (.bool (keep c)) ∧ Fr (fun _ => False) w w'
set_option maxHeartbeats 1600000 in
set_option maxRecDepth 100000 in
theorem one_streams (Inv : Yd → List Cl → Prop) (hstep : StepOk Inv) (s : St) (keep : Cl → Bool) (hk : TestOk 11 keep) (cs : List Cl) (A' : Option Addr) (c' : Nat) (w : World) (hC : Reads Cl.cells 9 w A' cs) (hcl : cs.length ≤ 4294967296) (hI : Inv (Yd.begin [s] 0) (keepF keep cs)) :
    Calls Tryz.prog 10 #[.agg s.cells.toArray, .slice A' cs.length c', .func (.func 11) #[] #[]] w (CalmPost w (calmF (Yd.begin [s] 0) (keepF keep cs))) := by
  obtain ⟨text, way, space⟩ := s
  have HSTEP := Lib.hid hstep
  have HK := Lib.hid hk
  have HC := Lib.hid hC
  have HI := Lib.hid hI
  clear hstep hk hC hI
  simp only [St.cells]
  go_enter Tryz.func10, Tryz.ntmps10
  go_wp2_with fail
  have hb0 := heap_alloc_new w (.cells #[.string ⟨text.toArray⟩, .int .i64 way, .int .u16 (space : Int)] 24)
  have hF0 := (Fr.refl (fun _ => False) w).alloc (.cells #[.string ⟨text.toArray⟩, .int .i64 way, .int .u16 (space : Int)] 24)
  have HB0 := Lib.hid hb0
  have HF0 := Lib.hid hF0
  clear hb0 hF0
  go_loopw [7, 12] (fun v7 v12 wr => ∃ k : Nat, k ≤ cs.length ∧ v12 = .int .i64 (k : Int) ∧ OwnC wr w.heap.size v7 (keepF keep (cs.take k)) ∧ Fr (fun _ => False) w wr ∧ wr.heap[w.heap.size]? = some (.cells #[.string ⟨text.toArray⟩, .int .i64 way, .int .u16 (space : Int)] 24 (0, 0))) (fun _ v12 _ => cs.length - (intOf v12).toNat)
  case atStart => exact ⟨0, Nat.zero_le _, rfl, Own.nil _ _ _ _, HF0.out, HB0.out⟩
  case round =>
    obtain ⟨k, hk, rfl, hO, hF, hB⟩ := hrel
    obtain ⟨l, hl⟩ : ∃ l, l = keepF keep (cs.take k) := ⟨_, rfl⟩
    have hll : l.length ≤ k := by rw [hl]; exact keep_len keep cs k
    rw [← hl] at hO
    obtain ⟨A7, q7, rfl⟩ := hO.value
    have HL := Lib.hid hl
    have HO := Lib.hid hO
    have HF := Lib.hid hF
    have HB := Lib.hid hB
    by_cases hlt : k < cs.length
    · obtain ⟨d, hd⟩ : ∃ d, cs[k]? = some d := ⟨_, List.getElem?_eq_getElem hlt⟩
      obtain ⟨r, o, e1, hc⟩ := HC.out.at' k d hd
      subst e1
      have hsucc := keep_succ (keep := keep) hd
      rw [← hl] at hsucc
      have hq : ∀ j u, (Cl.cells d)[j]? = some u → wr.cell? ⟨r, o + k * 9 + j, none⟩ = some u := fun j u hu => (hF.cell (World.block_lt_of_cell? _ _ (hc j u hu)) (fun q => q)).trans (hc j u hu)
      have hkk := HK.out d.at0
      generalize hkp : keep d.at0 = kp at *
      obtain ⟨op, ca, cb, csize, cn, csign, cchar, ctext, ccuts, cad, ccap⟩ := d
      have c0 := hq 0 _ rfl
      have c1' := hq 1 _ rfl
      have c2' := hq 2 _ rfl
      have c3' := hq 3 _ rfl
      have c4 := hq 4 _ rfl
      have c5 := hq 5 _ rfl
      have c6 := hq 6 _ rfl
      have c7 := hq 7 _ rfl
      have c8 := hq 8 _ rfl
      simp only [Nat.add_zero] at c0
      have hki : (k : Int) < (cs.length : Int) := by omega
      have hk0 : (0 : Int) ≤ (k : Int) := by omega
      simp only [Cl.at0, Cl.val, Cl.cells] at hkk hsucc
      have HKK := Lib.hid hkk
      have HSU := Lib.hid hsucc
      clear hkk hsucc hd hc hq hO hF hB hl hkp
      go_wp2_with fail
      refine (HKK.out _).mono ?_
      rintro e w3 ⟨rfl, F3⟩
      have hb9 := F3.blk (heap_alloc_new wr (.cells #[.int .i64 op, .int .i64 0, .int .i64 cb, .int .u16 (csize : Int), .int .i64 cn, .int .u8 (csign.toNat : Int), .int .i32 cchar, .string ⟨ctext.toArray⟩, .slice cad ccuts.length ccap] 36)) (fun q => q)
      have hF3 := ((Fr.refl (fun _ => False) wr).alloc (.cells #[.int .i64 op, .int .i64 0, .int .i64 cb, .int .u16 (csize : Int), .int .i64 cn, .int .u8 (csign.toNat : Int), .int .i32 cchar, .string ⟨ctext.toArray⟩, .slice cad ccuts.length ccap] 36)).trans F3
      have HF3 := Lib.hid hF3
      have HFW := Lib.hid (HF.out.trans hF3)
      have HB3 := Lib.hid (hF3.blk HB.out (fun q => q))
      have HO3 := Lib.hid (HO.out.fr hF3 (fun _ _ q => q))
      clear F3 hF3 c0 c1' c2' c3' c4 c5 c6 c7 c8
      cases kp with
      | false =>
        have hsu := HSU.out
        rw [if_neg (by decide), List.append_nil] at hsu
        have HSU2 := Lib.hid hsu
        clear hsu hb9
        go_wp2_with fail
        go_roundw
        case rel => exact ⟨k + 1, by omega, by go_num, by rw [HSU2.out]; exact HO3.out, HFW.out, HB3.out⟩
        case measure => simp [intOf]; omega
      | true =>
        have hsu := HSU.out
        rw [if_pos rfl] at hsu
        have HSU2 := Lib.hid hsu
        have d0 : w3.cell? ⟨wr.heap.size, 0, none⟩ = some (.int .i64 op) := by rw [cell_of_row w3 _ 0 _ _ _ hb9]; rfl
        have d1 : w3.cell? ⟨wr.heap.size, 1, none⟩ = some (.int .i64 0) := by rw [cell_of_row w3 _ 1 _ _ _ hb9]; rfl
        have d2 : w3.cell? ⟨wr.heap.size, 2, none⟩ = some (.int .i64 cb) := by rw [cell_of_row w3 _ 2 _ _ _ hb9]; rfl
        have d3 : w3.cell? ⟨wr.heap.size, 3, none⟩ = some (.int .u16 (csize : Int)) := by rw [cell_of_row w3 _ 3 _ _ _ hb9]; rfl
        have d4 : w3.cell? ⟨wr.heap.size, 4, none⟩ = some (.int .i64 cn) := by rw [cell_of_row w3 _ 4 _ _ _ hb9]; rfl
        have d5 : w3.cell? ⟨wr.heap.size, 5, none⟩ = some (.int .u8 (csign.toNat : Int)) := by rw [cell_of_row w3 _ 5 _ _ _ hb9]; rfl
        have d6 : w3.cell? ⟨wr.heap.size, 6, none⟩ = some (.int .i32 cchar) := by rw [cell_of_row w3 _ 6 _ _ _ hb9]; rfl
        have d7 : w3.cell? ⟨wr.heap.size, 7, none⟩ = some (.string ⟨ctext.toArray⟩) := by rw [cell_of_row w3 _ 7 _ _ _ hb9]; rfl
        have d8 : w3.cell? ⟨wr.heap.size, 8, none⟩ = some (.slice cad ccuts.length ccap) := by rw [cell_of_row w3 _ 8 _ _ _ hb9]; rfl
        have hws : w.heap.size ≤ w3.heap.size := HFW.out.size
        clear hsu hb9
        go_wp2_with (refine wpList_app rfl elem_call (.tmp 20) (.tmp 22) rfl w.heap.size _ l.length _ (by rfl) (HO3.out.fr ((Fr.refl (fun _ => False) w3).alloc (.cells #[.int .i64 op, .int .i64 0, .int .i64 cb, .int .u16 (csize : Int), .int .i64 cn, .int .u8 (csign.toNat : Int), .int .i32 cchar, .string ⟨ctext.toArray⟩, .slice cad ccuts.length ccap] 36)) (fun _ _ q => q)) w3.heap.size (Cl.cells ⟨op, 0, cb, csize, cn, csign, cchar, ctext, ccuts, cad, ccap⟩) 36 (by rfl) (by exact heap_alloc_new w3 _) rfl (by simp [Cl.cells, Value.oneCell']) (by omega) (by simp; omega) ?_)
        intro gb cap w4 hown hfr hat hlt1
        have HOWN := Lib.hid hown
        have HFR := Lib.hid (HO3.out.grown HFW.out hfr)
        have HB4 := Lib.hid (hfr.blk (((Fr.refl (fun _ => False) w3).alloc _).blk HB3.out (fun q => q)) (fun q => HO3.out.ne_blk HB3.out (by decide) q rfl))
        clear hown hfr hat hlt1
        go_wp2_with fail
        go_roundw
        case rel =>
          refine ⟨k + 1, by omega, by go_num, ?_, HFR.out, HB4.out⟩
          rw [HSU2.out]
          unfold OwnC
          rw [cls_append, cls_one, List.length_append]
          exact HOWN.out
        case measure => simp [intOf]; omega
    · have hkk : k = cs.length := by omega
      subst hkk
      rw [List.take_length] at hl
      subst hl
      have s0 : wr.cell? ⟨w.heap.size, 0, none⟩ = some (.string ⟨text.toArray⟩) := by rw [cell_of_row wr _ 0 _ _ _ hB]; rfl
      have s1 : wr.cell? ⟨w.heap.size, 1, none⟩ = some (.int .i64 way) := by rw [cell_of_row wr _ 1 _ _ _ hB]; rfl
      have s2 : wr.cell? ⟨w.heap.size, 2, none⟩ = some (.int .u16 (space : Int)) := by rw [cell_of_row wr _ 2 _ _ _ hB]; rfl
      have hR : Reads St.cells 3 (wr.alloc (.cells #[.string ⟨text.toArray⟩, .int .i64 way, .int .u16 (space : Int)] 24)) (some ⟨wr.heap.size, 0, none⟩) [⟨text, way, space⟩] := Reads.of_block St.cells_len (heap_alloc_new wr _) rfl
      have hCr := (Own.readsAt Cl.cells_len (by decide) hO).fr0 ((Fr.refl (fun _ => False) wr).alloc (.cells #[.string ⟨text.toArray⟩, .int .i64 way, .int .u16 (space : Int)] 24))
      have hcalm := calm_any Inv HSTEP.out [⟨text, way, space⟩] 0 (some ⟨wr.heap.size, 0, none⟩) 1 (keepF keep cs) A7 q7 (wr.alloc (.cells #[.string ⟨text.toArray⟩, .int .i64 way, .int .u16 (space : Int)] 24)) hR (by simp) (by omega) hCr (by omega) HI.out
      have HCALM := Lib.hid hcalm
      clear hO hF hB hR hCr hcalm
      go_wp2_with fail
      refine HCALM.out.mono ?_
      rintro e w4 ⟨v, rfl, hv, F4⟩
      have hbase := F4.size
      obtain ⟨A4, q4, rfl⟩ := hv.value
      have HV := Lib.hid (hv.lower (base' := w.heap.size) (by rw [World.size_alloc]; have := HF.out.size; omega))
      have HFE := Lib.hid ((HF.out.alloc (.cells #[.string ⟨text.toArray⟩, .int .i64 way, .int .u16 (space : Int)] 24)).trans F4)
      clear hv F4
      go_wp2_with fail
      go_ret
      exact ⟨_, rfl, HV.out, HFE.out⟩
set_option maxHeartbeats 1600000 in
set_option maxRecDepth 100000 in
theorem one_trunc (Inv : Yd → List Cl → Prop) (hstep : StepOk Inv) (s : St) (keep : Cl → Bool) (hk : TestOk 20 keep) (cs : List Cl) (A' : Option Addr) (c' : Nat) (w : World) (hC : Reads Cl.cells 9 w A' cs) (hcl : cs.length ≤ 4294967296) (hI : Inv (Yd.begin [s] 0) (keepF keep cs)) :
    Calls Tryz.prog 10 #[.agg s.cells.toArray, .slice A' cs.length c', .func (.func 20) #[] #[]] w (CalmPost w (calmF (Yd.begin [s] 0) (keepF keep cs))) := by
  obtain ⟨text, way, space⟩ := s
  have HSTEP := Lib.hid hstep
  have HK := Lib.hid hk
  have HC := Lib.hid hC
  have HI := Lib.hid hI
  clear hstep hk hC hI
  simp only [St.cells]
  go_enter Tryz.func10, Tryz.ntmps10
  go_wp2_with fail
  have hb0 := heap_alloc_new w (.cells #[.string ⟨text.toArray⟩, .int .i64 way, .int .u16 (space : Int)] 24)
  have hF0 := (Fr.refl (fun _ => False) w).alloc (.cells #[.string ⟨text.toArray⟩, .int .i64 way, .int .u16 (space : Int)] 24)
  have HB0 := Lib.hid hb0
  have HF0 := Lib.hid hF0
  clear hb0 hF0
  go_loopw [7, 12] (fun v7 v12 wr => ∃ k : Nat, k ≤ cs.length ∧ v12 = .int .i64 (k : Int) ∧ OwnC wr w.heap.size v7 (keepF keep (cs.take k)) ∧ Fr (fun _ => False) w wr ∧ wr.heap[w.heap.size]? = some (.cells #[.string ⟨text.toArray⟩, .int .i64 way, .int .u16 (space : Int)] 24 (0, 0))) (fun _ v12 _ => cs.length - (intOf v12).toNat)
  case atStart => exact ⟨0, Nat.zero_le _, rfl, Own.nil _ _ _ _, HF0.out, HB0.out⟩
  case round =>
    obtain ⟨k, hk, rfl, hO, hF, hB⟩ := hrel
    obtain ⟨l, hl⟩ : ∃ l, l = keepF keep (cs.take k) := ⟨_, rfl⟩
    have hll : l.length ≤ k := by rw [hl]; exact keep_len keep cs k
    rw [← hl] at hO
    obtain ⟨A7, q7, rfl⟩ := hO.value
    have HL := Lib.hid hl
    have HO := Lib.hid hO
    have HF := Lib.hid hF
    have HB := Lib.hid hB
    by_cases hlt : k < cs.length
    · obtain ⟨d, hd⟩ : ∃ d, cs[k]? = some d := ⟨_, List.getElem?_eq_getElem hlt⟩
      obtain ⟨r, o, e1, hc⟩ := HC.out.at' k d hd
      subst e1
      have hsucc := keep_succ (keep := keep) hd
      rw [← hl] at hsucc
      have hq : ∀ j u, (Cl.cells d)[j]? = some u → wr.cell? ⟨r, o + k * 9 + j, none⟩ = some u := fun j u hu => (hF.cell (World.block_lt_of_cell? _ _ (hc j u hu)) (fun q => q)).trans (hc j u hu)
      have hkk := HK.out d.at0
      generalize hkp : keep d.at0 = kp at *
      obtain ⟨op, ca, cb, csize, cn, csign, cchar, ctext, ccuts, cad, ccap⟩ := d
      have c0 := hq 0 _ rfl
      have c1' := hq 1 _ rfl
      have c2' := hq 2 _ rfl
      have c3' := hq 3 _ rfl
      have c4 := hq 4 _ rfl
      have c5 := hq 5 _ rfl
      have c6 := hq 6 _ rfl
      have c7 := hq 7 _ rfl
      have c8 := hq 8 _ rfl
      simp only [Nat.add_zero] at c0
      have hki : (k : Int) < (cs.length : Int) := by omega
      have hk0 : (0 : Int) ≤ (k : Int) := by omega
      simp only [Cl.at0, Cl.val, Cl.cells] at hkk hsucc
      have HKK := Lib.hid hkk
      have HSU := Lib.hid hsucc
      clear hkk hsucc hd hc hq hO hF hB hl hkp
      go_wp2_with fail
      refine (HKK.out _).mono ?_
      rintro e w3 ⟨rfl, F3⟩
      have hb9 := F3.blk (heap_alloc_new wr (.cells #[.int .i64 op, .int .i64 0, .int .i64 cb, .int .u16 (csize : Int), .int .i64 cn, .int .u8 (csign.toNat : Int), .int .i32 cchar, .string ⟨ctext.toArray⟩, .slice cad ccuts.length ccap] 36)) (fun q => q)
      have hF3 := ((Fr.refl (fun _ => False) wr).alloc (.cells #[.int .i64 op, .int .i64 0, .int .i64 cb, .int .u16 (csize : Int), .int .i64 cn, .int .u8 (csign.toNat : Int), .int .i32 cchar, .string ⟨ctext.toArray⟩, .slice cad ccuts.length ccap] 36)).trans F3
      have HF3 := Lib.hid hF3
      have HFW := Lib.hid (HF.out.trans hF3)
      have HB3 := Lib.hid (hF3.blk HB.out (fun q => q))
      have HO3 := Lib.hid (HO.out.fr hF3 (fun _ _ q => q))
      clear F3 hF3 c0 c1' c2' c3' c4 c5 c6 c7 c8
      cases kp with
      | false =>
        have hsu := HSU.out
        rw [if_neg (by decide), List.append_nil] at hsu
        have HSU2 := Lib.hid hsu
        clear hsu hb9
        go_wp2_with fail
        go_roundw
        case rel => exact ⟨k + 1, by omega, by go_num, by rw [HSU2.out]; exact HO3.out, HFW.out, HB3.out⟩
        case measure => simp [intOf]; omega
      | true =>
        have hsu := HSU.out
        rw [if_pos rfl] at hsu
        have HSU2 := Lib.hid hsu
        have d0 : w3.cell? ⟨wr.heap.size, 0, none⟩ = some (.int .i64 op) := by rw [cell_of_row w3 _ 0 _ _ _ hb9]; rfl
        have d1 : w3.cell? ⟨wr.heap.size, 1, none⟩ = some (.int .i64 0) := by rw [cell_of_row w3 _ 1 _ _ _ hb9]; rfl
        have d2 : w3.cell? ⟨wr.heap.size, 2, none⟩ = some (.int .i64 cb) := by rw [cell_of_row w3 _ 2 _ _ _ hb9]; rfl
        have d3 : w3.cell? ⟨wr.heap.size, 3, none⟩ = some (.int .u16 (csize : Int)) := by rw [cell_of_row w3 _ 3 _ _ _ hb9]; rfl
        have d4 : w3.cell? ⟨wr.heap.size, 4, none⟩ = some (.int .i64 cn) := by rw [cell_of_row w3 _ 4 _ _ _ hb9]; rfl
        have d5 : w3.cell? ⟨wr.heap.size, 5, none⟩ = some (.int .u8 (csign.toNat : Int)) := by rw [cell_of_row w3 _ 5 _ _ _ hb9]; rfl
        have d6 : w3.cell? ⟨wr.heap.size, 6, none⟩ = some (.int .i32 cchar) := by rw [cell_of_row w3 _ 6 _ _ _ hb9]; rfl
        have d7 : w3.cell? ⟨wr.heap.size, 7, none⟩ = some (.string ⟨ctext.toArray⟩) := by rw [cell_of_row w3 _ 7 _ _ _ hb9]; rfl
        have d8 : w3.cell? ⟨wr.heap.size, 8, none⟩ = some (.slice cad ccuts.length ccap) := by rw [cell_of_row w3 _ 8 _ _ _ hb9]; rfl
        have hws : w.heap.size ≤ w3.heap.size := HFW.out.size
        clear hsu hb9
        go_wp2_with (refine wpList_app rfl elem_call (.tmp 20) (.tmp 22) rfl w.heap.size _ l.length _ (by rfl) (HO3.out.fr ((Fr.refl (fun _ => False) w3).alloc (.cells #[.int .i64 op, .int .i64 0, .int .i64 cb, .int .u16 (csize : Int), .int .i64 cn, .int .u8 (csign.toNat : Int), .int .i32 cchar, .string ⟨ctext.toArray⟩, .slice cad ccuts.length ccap] 36)) (fun _ _ q => q)) w3.heap.size (Cl.cells ⟨op, 0, cb, csize, cn, csign, cchar, ctext, ccuts, cad, ccap⟩) 36 (by rfl) (by exact heap_alloc_new w3 _) rfl (by simp [Cl.cells, Value.oneCell']) (by omega) (by simp; omega) ?_)
        intro gb cap w4 hown hfr hat hlt1
        have HOWN := Lib.hid hown
        have HFR := Lib.hid (HO3.out.grown HFW.out hfr)
        have HB4 := Lib.hid (hfr.blk (((Fr.refl (fun _ => False) w3).alloc _).blk HB3.out (fun q => q)) (fun q => HO3.out.ne_blk HB3.out (by decide) q rfl))
        clear hown hfr hat hlt1
        go_wp2_with fail
        go_roundw
        case rel =>
          refine ⟨k + 1, by omega, by go_num, ?_, HFR.out, HB4.out⟩
          rw [HSU2.out]
          unfold OwnC
          rw [cls_append, cls_one, List.length_append]
          exact HOWN.out
        case measure => simp [intOf]; omega
    · have hkk : k = cs.length := by omega
      subst hkk
      rw [List.take_length] at hl
      subst hl
      have s0 : wr.cell? ⟨w.heap.size, 0, none⟩ = some (.string ⟨text.toArray⟩) := by rw [cell_of_row wr _ 0 _ _ _ hB]; rfl
      have s1 : wr.cell? ⟨w.heap.size, 1, none⟩ = some (.int .i64 way) := by rw [cell_of_row wr _ 1 _ _ _ hB]; rfl
      have s2 : wr.cell? ⟨w.heap.size, 2, none⟩ = some (.int .u16 (space : Int)) := by rw [cell_of_row wr _ 2 _ _ _ hB]; rfl
      have hR : Reads St.cells 3 (wr.alloc (.cells #[.string ⟨text.toArray⟩, .int .i64 way, .int .u16 (space : Int)] 24)) (some ⟨wr.heap.size, 0, none⟩) [⟨text, way, space⟩] := Reads.of_block St.cells_len (heap_alloc_new wr _) rfl
      have hCr := (Own.readsAt Cl.cells_len (by decide) hO).fr0 ((Fr.refl (fun _ => False) wr).alloc (.cells #[.string ⟨text.toArray⟩, .int .i64 way, .int .u16 (space : Int)] 24))
      have hcalm := calm_any Inv HSTEP.out [⟨text, way, space⟩] 0 (some ⟨wr.heap.size, 0, none⟩) 1 (keepF keep cs) A7 q7 (wr.alloc (.cells #[.string ⟨text.toArray⟩, .int .i64 way, .int .u16 (space : Int)] 24)) hR (by simp) (by omega) hCr (by omega) HI.out
      have HCALM := Lib.hid hcalm
      clear hO hF hB hR hCr hcalm
      go_wp2_with fail
      refine HCALM.out.mono ?_
      rintro e w4 ⟨v, rfl, hv, F4⟩
      have hbase := F4.size
      obtain ⟨A4, q4, rfl⟩ := hv.value
      have HV := Lib.hid (hv.lower (base' := w.heap.size) (by rw [World.size_alloc]; have := HF.out.size; omega))
      have HFE := Lib.hid ((HF.out.alloc (.cells #[.string ⟨text.toArray⟩, .int .i64 way, .int .u16 (space : Int)] 24)).trans F4)
      clear hv F4
      go_wp2_with fail
      go_ret
      exact ⟨_, rfl, HV.out, HFE.out⟩
set_option maxHeartbeats 1600000 in
set_option maxRecDepth 100000 in
theorem one_unread (Inv : Yd → List Cl → Prop) (hstep : StepOk Inv) (s : St) (keep : Cl → Bool) (hk : TestOk 25 keep) (cs : List Cl) (A' : Option Addr) (c' : Nat) (w : World) (hC : Reads Cl.cells 9 w A' cs) (hcl : cs.length ≤ 4294967296) (hI : Inv (Yd.begin [s] 0) (keepF keep cs)) :
    Calls Tryz.prog 10 #[.agg s.cells.toArray, .slice A' cs.length c', .func (.func 25) #[] #[]] w (CalmPost w (calmF (Yd.begin [s] 0) (keepF keep cs))) := by
  obtain ⟨text, way, space⟩ := s
  have HSTEP := Lib.hid hstep
  have HK := Lib.hid hk
  have HC := Lib.hid hC
  have HI := Lib.hid hI
  clear hstep hk hC hI
  simp only [St.cells]
  go_enter Tryz.func10, Tryz.ntmps10
  go_wp2_with fail
  have hb0 := heap_alloc_new w (.cells #[.string ⟨text.toArray⟩, .int .i64 way, .int .u16 (space : Int)] 24)
  have hF0 := (Fr.refl (fun _ => False) w).alloc (.cells #[.string ⟨text.toArray⟩, .int .i64 way, .int .u16 (space : Int)] 24)
  have HB0 := Lib.hid hb0
  have HF0 := Lib.hid hF0
  clear hb0 hF0
  go_loopw [7, 12] (fun v7 v12 wr => ∃ k : Nat, k ≤ cs.length ∧ v12 = .int .i64 (k : Int) ∧ OwnC wr w.heap.size v7 (keepF keep (cs.take k)) ∧ Fr (fun _ => False) w wr ∧ wr.heap[w.heap.size]? = some (.cells #[.string ⟨text.toArray⟩, .int .i64 way, .int .u16 (space : Int)] 24 (0, 0))) (fun _ v12 _ => cs.length - (intOf v12).toNat)
  case atStart => exact ⟨0, Nat.zero_le _, rfl, Own.nil _ _ _ _, HF0.out, HB0.out⟩
  case round =>
    obtain ⟨k, hk, rfl, hO, hF, hB⟩ := hrel
    obtain ⟨l, hl⟩ : ∃ l, l = keepF keep (cs.take k) := ⟨_, rfl⟩
    have hll : l.length ≤ k := by rw [hl]; exact keep_len keep cs k
    rw [← hl] at hO
    obtain ⟨A7, q7, rfl⟩ := hO.value
    have HL := Lib.hid hl
    have HO := Lib.hid hO
    have HF := Lib.hid hF
    have HB := Lib.hid hB
    by_cases hlt : k < cs.length
    · obtain ⟨d, hd⟩ : ∃ d, cs[k]? = some d := ⟨_, List.getElem?_eq_getElem hlt⟩
      obtain ⟨r, o, e1, hc⟩ := HC.out.at' k d hd
      subst e1
      have hsucc := keep_succ (keep := keep) hd
      rw [← hl] at hsucc
      have hq : ∀ j u, (Cl.cells d)[j]? = some u → wr.cell? ⟨r, o + k * 9 + j, none⟩ = some u := fun j u hu => (hF.cell (World.block_lt_of_cell? _ _ (hc j u hu)) (fun q => q)).trans (hc j u hu)
      have hkk := HK.out d.at0
      generalize hkp : keep d.at0 = kp at *
      obtain ⟨op, ca, cb, csize, cn, csign, cchar, ctext, ccuts, cad, ccap⟩ := d
      have c0 := hq 0 _ rfl
      have c1' := hq 1 _ rfl
      have c2' := hq 2 _ rfl
      have c3' := hq 3 _ rfl
      have c4 := hq 4 _ rfl
      have c5 := hq 5 _ rfl
      have c6 := hq 6 _ rfl
      have c7 := hq 7 _ rfl
      have c8 := hq 8 _ rfl
      simp only [Nat.add_zero] at c0
      have hki : (k : Int) < (cs.length : Int) := by omega
      have hk0 : (0 : Int) ≤ (k : Int) := by omega
      simp only [Cl.at0, Cl.val, Cl.cells] at hkk hsucc
      have HKK := Lib.hid hkk
      have HSU := Lib.hid hsucc
      clear hkk hsucc hd hc hq hO hF hB hl hkp
      go_wp2_with fail
      refine (HKK.out _).mono ?_
      rintro e w3 ⟨rfl, F3⟩
      have hb9 := F3.blk (heap_alloc_new wr (.cells #[.int .i64 op, .int .i64 0, .int .i64 cb, .int .u16 (csize : Int), .int .i64 cn, .int .u8 (csign.toNat : Int), .int .i32 cchar, .string ⟨ctext.toArray⟩, .slice cad ccuts.length ccap] 36)) (fun q => q)
      have hF3 := ((Fr.refl (fun _ => False) wr).alloc (.cells #[.int .i64 op, .int .i64 0, .int .i64 cb, .int .u16 (csize : Int), .int .i64 cn, .int .u8 (csign.toNat : Int), .int .i32 cchar, .string ⟨ctext.toArray⟩, .slice cad ccuts.length ccap] 36)).trans F3
      have HF3 := Lib.hid hF3
      have HFW := Lib.hid (HF.out.trans hF3)
      have HB3 := Lib.hid (hF3.blk HB.out (fun q => q))
      have HO3 := Lib.hid (HO.out.fr hF3 (fun _ _ q => q))
      clear F3 hF3 c0 c1' c2' c3' c4 c5 c6 c7 c8
      cases kp with
      | false =>
        have hsu := HSU.out
        rw [if_neg (by decide), List.append_nil] at hsu
        have HSU2 := Lib.hid hsu
        clear hsu hb9
        go_wp2_with fail
        go_roundw
        case rel => exact ⟨k + 1, by omega, by go_num, by rw [HSU2.out]; exact HO3.out, HFW.out, HB3.out⟩
        case measure => simp [intOf]; omega
      | true =>
        have hsu := HSU.out
        rw [if_pos rfl] at hsu
        have HSU2 := Lib.hid hsu
        have d0 : w3.cell? ⟨wr.heap.size, 0, none⟩ = some (.int .i64 op) := by rw [cell_of_row w3 _ 0 _ _ _ hb9]; rfl
        have d1 : w3.cell? ⟨wr.heap.size, 1, none⟩ = some (.int .i64 0) := by rw [cell_of_row w3 _ 1 _ _ _ hb9]; rfl
        have d2 : w3.cell? ⟨wr.heap.size, 2, none⟩ = some (.int .i64 cb) := by rw [cell_of_row w3 _ 2 _ _ _ hb9]; rfl
        have d3 : w3.cell? ⟨wr.heap.size, 3, none⟩ = some (.int .u16 (csize : Int)) := by rw [cell_of_row w3 _ 3 _ _ _ hb9]; rfl
        have d4 : w3.cell? ⟨wr.heap.size, 4, none⟩ = some (.int .i64 cn) := by rw [cell_of_row w3 _ 4 _ _ _ hb9]; rfl
        have d5 : w3.cell? ⟨wr.heap.size, 5, none⟩ = some (.int .u8 (csign.toNat : Int)) := by rw [cell_of_row w3 _ 5 _ _ _ hb9]; rfl
        have d6 : w3.cell? ⟨wr.heap.size, 6, none⟩ = some (.int .i32 cchar) := by rw [cell_of_row w3 _ 6 _ _ _ hb9]; rfl
        have d7 : w3.cell? ⟨wr.heap.size, 7, none⟩ = some (.string ⟨ctext.toArray⟩) := by rw [cell_of_row w3 _ 7 _ _ _ hb9]; rfl
        have d8 : w3.cell? ⟨wr.heap.size, 8, none⟩ = some (.slice cad ccuts.length ccap) := by rw [cell_of_row w3 _ 8 _ _ _ hb9]; rfl
        have hws : w.heap.size ≤ w3.heap.size := HFW.out.size
        clear hsu hb9
        go_wp2_with (refine wpList_app rfl elem_call (.tmp 20) (.tmp 22) rfl w.heap.size _ l.length _ (by rfl) (HO3.out.fr ((Fr.refl (fun _ => False) w3).alloc (.cells #[.int .i64 op, .int .i64 0, .int .i64 cb, .int .u16 (csize : Int), .int .i64 cn, .int .u8 (csign.toNat : Int), .int .i32 cchar, .string ⟨ctext.toArray⟩, .slice cad ccuts.length ccap] 36)) (fun _ _ q => q)) w3.heap.size (Cl.cells ⟨op, 0, cb, csize, cn, csign, cchar, ctext, ccuts, cad, ccap⟩) 36 (by rfl) (by exact heap_alloc_new w3 _) rfl (by simp [Cl.cells, Value.oneCell']) (by omega) (by simp; omega) ?_)
        intro gb cap w4 hown hfr hat hlt1
        have HOWN := Lib.hid hown
        have HFR := Lib.hid (HO3.out.grown HFW.out hfr)
        have HB4 := Lib.hid (hfr.blk (((Fr.refl (fun _ => False) w3).alloc _).blk HB3.out (fun q => q)) (fun q => HO3.out.ne_blk HB3.out (by decide) q rfl))
        clear hown hfr hat hlt1
        go_wp2_with fail
        go_roundw
        case rel =>
          refine ⟨k + 1, by omega, by go_num, ?_, HFR.out, HB4.out⟩
          rw [HSU2.out]
          unfold OwnC
          rw [cls_append, cls_one, List.length_append]
          exact HOWN.out
        case measure => simp [intOf]; omega
    · have hkk : k = cs.length := by omega
      subst hkk
      rw [List.take_length] at hl
      subst hl
      have s0 : wr.cell? ⟨w.heap.size, 0, none⟩ = some (.string ⟨text.toArray⟩) := by rw [cell_of_row wr _ 0 _ _ _ hB]; rfl
      have s1 : wr.cell? ⟨w.heap.size, 1, none⟩ = some (.int .i64 way) := by rw [cell_of_row wr _ 1 _ _ _ hB]; rfl
      have s2 : wr.cell? ⟨w.heap.size, 2, none⟩ = some (.int .u16 (space : Int)) := by rw [cell_of_row wr _ 2 _ _ _ hB]; rfl
      have hR : Reads St.cells 3 (wr.alloc (.cells #[.string ⟨text.toArray⟩, .int .i64 way, .int .u16 (space : Int)] 24)) (some ⟨wr.heap.size, 0, none⟩) [⟨text, way, space⟩] := Reads.of_block St.cells_len (heap_alloc_new wr _) rfl
      have hCr := (Own.readsAt Cl.cells_len (by decide) hO).fr0 ((Fr.refl (fun _ => False) wr).alloc (.cells #[.string ⟨text.toArray⟩, .int .i64 way, .int .u16 (space : Int)] 24))
      have hcalm := calm_any Inv HSTEP.out [⟨text, way, space⟩] 0 (some ⟨wr.heap.size, 0, none⟩) 1 (keepF keep cs) A7 q7 (wr.alloc (.cells #[.string ⟨text.toArray⟩, .int .i64 way, .int .u16 (space : Int)] 24)) hR (by simp) (by omega) hCr (by omega) HI.out
      have HCALM := Lib.hid hcalm
      clear hO hF hB hR hCr hcalm
      go_wp2_with fail
      refine HCALM.out.mono ?_
      rintro e w4 ⟨v, rfl, hv, F4⟩
      have hbase := F4.size
      obtain ⟨A4, q4, rfl⟩ := hv.value
      have HV := Lib.hid (hv.lower (base' := w.heap.size) (by rw [World.size_alloc]; have := HF.out.size; omega))
      have HFE := Lib.hid ((HF.out.alloc (.cells #[.string ⟨text.toArray⟩, .int .i64 way, .int .u16 (space : Int)] 24)).trans F4)
      clear hv F4
      go_wp2_with fail
      go_ret
      exact ⟨_, rfl, HV.out, HFE.out⟩
set_option maxHeartbeats 1600000 in
set_option maxRecDepth 100000 in
theorem one_written (Inv : Yd → List Cl → Prop) (hstep : StepOk Inv) (s : St) (keep : Cl → Bool) (hk : TestOk 27 keep) (cs : List Cl) (A' : Option Addr) (c' : Nat) (w : World) (hC : Reads Cl.cells 9 w A' cs) (hcl : cs.length ≤ 4294967296) (hI : Inv (Yd.begin [s] 0) (keepF keep cs)) :
    Calls Tryz.prog 10 #[.agg s.cells.toArray, .slice A' cs.length c', .func (.func 27) #[] #[]] w (CalmPost w (calmF (Yd.begin [s] 0) (keepF keep cs))) := by
  obtain ⟨text, way, space⟩ := s
  have HSTEP := Lib.hid hstep
  have HK := Lib.hid hk
  have HC := Lib.hid hC
  have HI := Lib.hid hI
  clear hstep hk hC hI
  simp only [St.cells]
  go_enter Tryz.func10, Tryz.ntmps10
  go_wp2_with fail
  have hb0 := heap_alloc_new w (.cells #[.string ⟨text.toArray⟩, .int .i64 way, .int .u16 (space : Int)] 24)
  have hF0 := (Fr.refl (fun _ => False) w).alloc (.cells #[.string ⟨text.toArray⟩, .int .i64 way, .int .u16 (space : Int)] 24)
  have HB0 := Lib.hid hb0
  have HF0 := Lib.hid hF0
  clear hb0 hF0
  go_loopw [7, 12] (fun v7 v12 wr => ∃ k : Nat, k ≤ cs.length ∧ v12 = .int .i64 (k : Int) ∧ OwnC wr w.heap.size v7 (keepF keep (cs.take k)) ∧ Fr (fun _ => False) w wr ∧ wr.heap[w.heap.size]? = some (.cells #[.string ⟨text.toArray⟩, .int .i64 way, .int .u16 (space : Int)] 24 (0, 0))) (fun _ v12 _ => cs.length - (intOf v12).toNat)
  case atStart => exact ⟨0, Nat.zero_le _, rfl, Own.nil _ _ _ _, HF0.out, HB0.out⟩
  case round =>
    obtain ⟨k, hk, rfl, hO, hF, hB⟩ := hrel
    obtain ⟨l, hl⟩ : ∃ l, l = keepF keep (cs.take k) := ⟨_, rfl⟩
    have hll : l.length ≤ k := by rw [hl]; exact keep_len keep cs k
    rw [← hl] at hO
    obtain ⟨A7, q7, rfl⟩ := hO.value
    have HL := Lib.hid hl
    have HO := Lib.hid hO
    have HF := Lib.hid hF
    have HB := Lib.hid hB
    by_cases hlt : k < cs.length
    · obtain ⟨d, hd⟩ : ∃ d, cs[k]? = some d := ⟨_, List.getElem?_eq_getElem hlt⟩
      obtain ⟨r, o, e1, hc⟩ := HC.out.at' k d hd
      subst e1
      have hsucc := keep_succ (keep := keep) hd
      rw [← hl] at hsucc
      have hq : ∀ j u, (Cl.cells d)[j]? = some u → wr.cell? ⟨r, o + k * 9 + j, none⟩ = some u := fun j u hu => (hF.cell (World.block_lt_of_cell? _ _ (hc j u hu)) (fun q => q)).trans (hc j u hu)
      have hkk := HK.out d.at0
      generalize hkp : keep d.at0 = kp at *
      obtain ⟨op, ca, cb, csize, cn, csign, cchar, ctext, ccuts, cad, ccap⟩ := d
      have c0 := hq 0 _ rfl
      have c1' := hq 1 _ rfl
      have c2' := hq 2 _ rfl
      have c3' := hq 3 _ rfl
      have c4 := hq 4 _ rfl
      have c5 := hq 5 _ rfl
      have c6 := hq 6 _ rfl
      have c7 := hq 7 _ rfl
      have c8 := hq 8 _ rfl
      simp only [Nat.add_zero] at c0
      have hki : (k : Int) < (cs.length : Int) := by omega
      have hk0 : (0 : Int) ≤ (k : Int) := by omega
      simp only [Cl.at0, Cl.val, Cl.cells] at hkk hsucc
      have HKK := Lib.hid hkk
      have HSU := Lib.hid hsucc
      clear hkk hsucc hd hc hq hO hF hB hl hkp
      go_wp2_with fail
      refine (HKK.out _).mono ?_
      rintro e w3 ⟨rfl, F3⟩
      have hb9 := F3.blk (heap_alloc_new wr (.cells #[.int .i64 op, .int .i64 0, .int .i64 cb, .int .u16 (csize : Int), .int .i64 cn, .int .u8 (csign.toNat : Int), .int .i32 cchar, .string ⟨ctext.toArray⟩, .slice cad ccuts.length ccap] 36)) (fun q => q)
      have hF3 := ((Fr.refl (fun _ => False) wr).alloc (.cells #[.int .i64 op, .int .i64 0, .int .i64 cb, .int .u16 (csize : Int), .int .i64 cn, .int .u8 (csign.toNat : Int), .int .i32 cchar, .string ⟨ctext.toArray⟩, .slice cad ccuts.length ccap] 36)).trans F3
      have HF3 := Lib.hid hF3
      have HFW := Lib.hid (HF.out.trans hF3)
      have HB3 := Lib.hid (hF3.blk HB.out (fun q => q))
      have HO3 := Lib.hid (HO.out.fr hF3 (fun _ _ q => q))
      clear F3 hF3 c0 c1' c2' c3' c4 c5 c6 c7 c8
      cases kp with
      | false =>
        have hsu := HSU.out
        rw [if_neg (by decide), List.append_nil] at hsu
        have HSU2 := Lib.hid hsu
        clear hsu hb9
        go_wp2_with fail
        go_roundw
        case rel => exact ⟨k + 1, by omega, by go_num, by rw [HSU2.out]; exact HO3.out, HFW.out, HB3.out⟩
        case measure => simp [intOf]; omega
      | true =>
        have hsu := HSU.out
        rw [if_pos rfl] at hsu
        have HSU2 := Lib.hid hsu
        have d0 : w3.cell? ⟨wr.heap.size, 0, none⟩ = some (.int .i64 op) := by rw [cell_of_row w3 _ 0 _ _ _ hb9]; rfl
        have d1 : w3.cell? ⟨wr.heap.size, 1, none⟩ = some (.int .i64 0) := by rw [cell_of_row w3 _ 1 _ _ _ hb9]; rfl
        have d2 : w3.cell? ⟨wr.heap.size, 2, none⟩ = some (.int .i64 cb) := by rw [cell_of_row w3 _ 2 _ _ _ hb9]; rfl
        have d3 : w3.cell? ⟨wr.heap.size, 3, none⟩ = some (.int .u16 (csize : Int)) := by rw [cell_of_row w3 _ 3 _ _ _ hb9]; rfl
        have d4 : w3.cell? ⟨wr.heap.size, 4, none⟩ = some (.int .i64 cn) := by rw [cell_of_row w3 _ 4 _ _ _ hb9]; rfl
        have d5 : w3.cell? ⟨wr.heap.size, 5, none⟩ = some (.int .u8 (csign.toNat : Int)) := by rw [cell_of_row w3 _ 5 _ _ _ hb9]; rfl
        have d6 : w3.cell? ⟨wr.heap.size, 6, none⟩ = some (.int .i32 cchar) := by rw [cell_of_row w3 _ 6 _ _ _ hb9]; rfl
        have d7 : w3.cell? ⟨wr.heap.size, 7, none⟩ = some (.string ⟨ctext.toArray⟩) := by rw [cell_of_row w3 _ 7 _ _ _ hb9]; rfl
        have d8 : w3.cell? ⟨wr.heap.size, 8, none⟩ = some (.slice cad ccuts.length ccap) := by rw [cell_of_row w3 _ 8 _ _ _ hb9]; rfl
        have hws : w.heap.size ≤ w3.heap.size := HFW.out.size
        clear hsu hb9
        go_wp2_with (refine wpList_app rfl elem_call (.tmp 20) (.tmp 22) rfl w.heap.size _ l.length _ (by rfl) (HO3.out.fr ((Fr.refl (fun _ => False) w3).alloc (.cells #[.int .i64 op, .int .i64 0, .int .i64 cb, .int .u16 (csize : Int), .int .i64 cn, .int .u8 (csign.toNat : Int), .int .i32 cchar, .string ⟨ctext.toArray⟩, .slice cad ccuts.length ccap] 36)) (fun _ _ q => q)) w3.heap.size (Cl.cells ⟨op, 0, cb, csize, cn, csign, cchar, ctext, ccuts, cad, ccap⟩) 36 (by rfl) (by exact heap_alloc_new w3 _) rfl (by simp [Cl.cells, Value.oneCell']) (by omega) (by simp; omega) ?_)
        intro gb cap w4 hown hfr hat hlt1
        have HOWN := Lib.hid hown
        have HFR := Lib.hid (HO3.out.grown HFW.out hfr)
        have HB4 := Lib.hid (hfr.blk (((Fr.refl (fun _ => False) w3).alloc _).blk HB3.out (fun q => q)) (fun q => HO3.out.ne_blk HB3.out (by decide) q rfl))
        clear hown hfr hat hlt1
        go_wp2_with fail
        go_roundw
        case rel =>
          refine ⟨k + 1, by omega, by go_num, ?_, HFR.out, HB4.out⟩
          rw [HSU2.out]
          unfold OwnC
          rw [cls_append, cls_one, List.length_append]
          exact HOWN.out
        case measure => simp [intOf]; omega
    · have hkk : k = cs.length := by omega
      subst hkk
      rw [List.take_length] at hl
      subst hl
      have s0 : wr.cell? ⟨w.heap.size, 0, none⟩ = some (.string ⟨text.toArray⟩) := by rw [cell_of_row wr _ 0 _ _ _ hB]; rfl
      have s1 : wr.cell? ⟨w.heap.size, 1, none⟩ = some (.int .i64 way) := by rw [cell_of_row wr _ 1 _ _ _ hB]; rfl
      have s2 : wr.cell? ⟨w.heap.size, 2, none⟩ = some (.int .u16 (space : Int)) := by rw [cell_of_row wr _ 2 _ _ _ hB]; rfl
      have hR : Reads St.cells 3 (wr.alloc (.cells #[.string ⟨text.toArray⟩, .int .i64 way, .int .u16 (space : Int)] 24)) (some ⟨wr.heap.size, 0, none⟩) [⟨text, way, space⟩] := Reads.of_block St.cells_len (heap_alloc_new wr _) rfl
      have hCr := (Own.readsAt Cl.cells_len (by decide) hO).fr0 ((Fr.refl (fun _ => False) wr).alloc (.cells #[.string ⟨text.toArray⟩, .int .i64 way, .int .u16 (space : Int)] 24))
      have hcalm := calm_any Inv HSTEP.out [⟨text, way, space⟩] 0 (some ⟨wr.heap.size, 0, none⟩) 1 (keepF keep cs) A7 q7 (wr.alloc (.cells #[.string ⟨text.toArray⟩, .int .i64 way, .int .u16 (space : Int)] 24)) hR (by simp) (by omega) hCr (by omega) HI.out
      have HCALM := Lib.hid hcalm
      clear hO hF hB hR hCr hcalm
      go_wp2_with fail
      refine HCALM.out.mono ?_
      rintro e w4 ⟨v, rfl, hv, F4⟩
      have hbase := F4.size
      obtain ⟨A4, q4, rfl⟩ := hv.value
      have HV := Lib.hid (hv.lower (base' := w.heap.size) (by rw [World.size_alloc]; have := HF.out.size; omega))
      have HFE := Lib.hid ((HF.out.alloc (.cells #[.string ⟨text.toArray⟩, .int .i64 way, .int .u16 (space : Int)] 24)).trans F4)
      clear hv F4
      go_wp2_with fail
      go_ret
      exact ⟨_, rfl, HV.out, HFE.out⟩
set_option maxHeartbeats 1600000 in
set_option maxRecDepth 100000 in
theorem one_earlier (Inv : Yd → List Cl → Prop) (hstep : StepOk Inv) (s : St) (keep : Cl → Bool) (hk : TestOk 29 keep) (cs : List Cl) (A' : Option Addr) (c' : Nat) (w : World) (hC : Reads Cl.cells 9 w A' cs) (hcl : cs.length ≤ 4294967296) (hI : Inv (Yd.begin [s] 0) (keepF keep cs)) :
    Calls Tryz.prog 10 #[.agg s.cells.toArray, .slice A' cs.length c', .func (.func 29) #[] #[]] w (CalmPost w (calmF (Yd.begin [s] 0) (keepF keep cs))) := by
  obtain ⟨text, way, space⟩ := s
  have HSTEP := Lib.hid hstep
  have HK := Lib.hid hk
  have HC := Lib.hid hC
  have HI := Lib.hid hI
  clear hstep hk hC hI
  simp only [St.cells]
  go_enter Tryz.func10, Tryz.ntmps10
  go_wp2_with fail
  have hb0 := heap_alloc_new w (.cells #[.string ⟨text.toArray⟩, .int .i64 way, .int .u16 (space : Int)] 24)
  have hF0 := (Fr.refl (fun _ => False) w).alloc (.cells #[.string ⟨text.toArray⟩, .int .i64 way, .int .u16 (space : Int)] 24)
  have HB0 := Lib.hid hb0
  have HF0 := Lib.hid hF0
  clear hb0 hF0
  go_loopw [7, 12] (fun v7 v12 wr => ∃ k : Nat, k ≤ cs.length ∧ v12 = .int .i64 (k : Int) ∧ OwnC wr w.heap.size v7 (keepF keep (cs.take k)) ∧ Fr (fun _ => False) w wr ∧ wr.heap[w.heap.size]? = some (.cells #[.string ⟨text.toArray⟩, .int .i64 way, .int .u16 (space : Int)] 24 (0, 0))) (fun _ v12 _ => cs.length - (intOf v12).toNat)
  case atStart => exact ⟨0, Nat.zero_le _, rfl, Own.nil _ _ _ _, HF0.out, HB0.out⟩
  case round =>
    obtain ⟨k, hk, rfl, hO, hF, hB⟩ := hrel
    obtain ⟨l, hl⟩ : ∃ l, l = keepF keep (cs.take k) := ⟨_, rfl⟩
    have hll : l.length ≤ k := by rw [hl]; exact keep_len keep cs k
    rw [← hl] at hO
    obtain ⟨A7, q7, rfl⟩ := hO.value
    have HL := Lib.hid hl
    have HO := Lib.hid hO
    have HF := Lib.hid hF
    have HB := Lib.hid hB
    by_cases hlt : k < cs.length
    · obtain ⟨d, hd⟩ : ∃ d, cs[k]? = some d := ⟨_, List.getElem?_eq_getElem hlt⟩
      obtain ⟨r, o, e1, hc⟩ := HC.out.at' k d hd
      subst e1
      have hsucc := keep_succ (keep := keep) hd
      rw [← hl] at hsucc
      have hq : ∀ j u, (Cl.cells d)[j]? = some u → wr.cell? ⟨r, o + k * 9 + j, none⟩ = some u := fun j u hu => (hF.cell (World.block_lt_of_cell? _ _ (hc j u hu)) (fun q => q)).trans (hc j u hu)
      have hkk := HK.out d.at0
      generalize hkp : keep d.at0 = kp at *
      obtain ⟨op, ca, cb, csize, cn, csign, cchar, ctext, ccuts, cad, ccap⟩ := d
      have c0 := hq 0 _ rfl
      have c1' := hq 1 _ rfl
      have c2' := hq 2 _ rfl
      have c3' := hq 3 _ rfl
      have c4 := hq 4 _ rfl
      have c5 := hq 5 _ rfl
      have c6 := hq 6 _ rfl
      have c7 := hq 7 _ rfl
      have c8 := hq 8 _ rfl
      simp only [Nat.add_zero] at c0
      have hki : (k : Int) < (cs.length : Int) := by omega
      have hk0 : (0 : Int) ≤ (k : Int) := by omega
      simp only [Cl.at0, Cl.val, Cl.cells] at hkk hsucc
      have HKK := Lib.hid hkk
      have HSU := Lib.hid hsucc
      clear hkk hsucc hd hc hq hO hF hB hl hkp
      go_wp2_with fail
      refine (HKK.out _).mono ?_
      rintro e w3 ⟨rfl, F3⟩
      have hb9 := F3.blk (heap_alloc_new wr (.cells #[.int .i64 op, .int .i64 0, .int .i64 cb, .int .u16 (csize : Int), .int .i64 cn, .int .u8 (csign.toNat : Int), .int .i32 cchar, .string ⟨ctext.toArray⟩, .slice cad ccuts.length ccap] 36)) (fun q => q)
      have hF3 := ((Fr.refl (fun _ => False) wr).alloc (.cells #[.int .i64 op, .int .i64 0, .int .i64 cb, .int .u16 (csize : Int), .int .i64 cn, .int .u8 (csign.toNat : Int), .int .i32 cchar, .string ⟨ctext.toArray⟩, .slice cad ccuts.length ccap] 36)).trans F3
      have HF3 := Lib.hid hF3
      have HFW := Lib.hid (HF.out.trans hF3)
      have HB3 := Lib.hid (hF3.blk HB.out (fun q => q))
      have HO3 := Lib.hid (HO.out.fr hF3 (fun _ _ q => q))
      clear F3 hF3 c0 c1' c2' c3' c4 c5 c6 c7 c8
      cases kp with
      | false =>
        have hsu := HSU.out
        rw [if_neg (by decide), List.append_nil] at hsu
        have HSU2 := Lib.hid hsu
        clear hsu hb9
        go_wp2_with fail
        go_roundw
        case rel => exact ⟨k + 1, by omega, by go_num, by rw [HSU2.out]; exact HO3.out, HFW.out, HB3.out⟩
        case measure => simp [intOf]; omega
      | true =>
        have hsu := HSU.out
        rw [if_pos rfl] at hsu
        have HSU2 := Lib.hid hsu
        have d0 : w3.cell? ⟨wr.heap.size, 0, none⟩ = some (.int .i64 op) := by rw [cell_of_row w3 _ 0 _ _ _ hb9]; rfl
        have d1 : w3.cell? ⟨wr.heap.size, 1, none⟩ = some (.int .i64 0) := by rw [cell_of_row w3 _ 1 _ _ _ hb9]; rfl
        have d2 : w3.cell? ⟨wr.heap.size, 2, none⟩ = some (.int .i64 cb) := by rw [cell_of_row w3 _ 2 _ _ _ hb9]; rfl
        have d3 : w3.cell? ⟨wr.heap.size, 3, none⟩ = some (.int .u16 (csize : Int)) := by rw [cell_of_row w3 _ 3 _ _ _ hb9]; rfl
        have d4 : w3.cell? ⟨wr.heap.size, 4, none⟩ = some (.int .i64 cn) := by rw [cell_of_row w3 _ 4 _ _ _ hb9]; rfl
        have d5 : w3.cell? ⟨wr.heap.size, 5, none⟩ = some (.int .u8 (csign.toNat : Int)) := by rw [cell_of_row w3 _ 5 _ _ _ hb9]; rfl
        have d6 : w3.cell? ⟨wr.heap.size, 6, none⟩ = some (.int .i32 cchar) := by rw [cell_of_row w3 _ 6 _ _ _ hb9]; rfl
        have d7 : w3.cell? ⟨wr.heap.size, 7, none⟩ = some (.string ⟨ctext.toArray⟩) := by rw [cell_of_row w3 _ 7 _ _ _ hb9]; rfl
        have d8 : w3.cell? ⟨wr.heap.size, 8, none⟩ = some (.slice cad ccuts.length ccap) := by rw [cell_of_row w3 _ 8 _ _ _ hb9]; rfl
        have hws : w.heap.size ≤ w3.heap.size := HFW.out.size
        clear hsu hb9
        go_wp2_with (refine wpList_app rfl elem_call (.tmp 20) (.tmp 22) rfl w.heap.size _ l.length _ (by rfl) (HO3.out.fr ((Fr.refl (fun _ => False) w3).alloc (.cells #[.int .i64 op, .int .i64 0, .int .i64 cb, .int .u16 (csize : Int), .int .i64 cn, .int .u8 (csign.toNat : Int), .int .i32 cchar, .string ⟨ctext.toArray⟩, .slice cad ccuts.length ccap] 36)) (fun _ _ q => q)) w3.heap.size (Cl.cells ⟨op, 0, cb, csize, cn, csign, cchar, ctext, ccuts, cad, ccap⟩) 36 (by rfl) (by exact heap_alloc_new w3 _) rfl (by simp [Cl.cells, Value.oneCell']) (by omega) (by simp; omega) ?_)
        intro gb cap w4 hown hfr hat hlt1
        have HOWN := Lib.hid hown
        have HFR := Lib.hid (HO3.out.grown HFW.out hfr)
        have HB4 := Lib.hid (hfr.blk (((Fr.refl (fun _ => False) w3).alloc _).blk HB3.out (fun q => q)) (fun q => HO3.out.ne_blk HB3.out (by decide) q rfl))
        clear hown hfr hat hlt1
        go_wp2_with fail
        go_roundw
        case rel =>
          refine ⟨k + 1, by omega, by go_num, ?_, HFR.out, HB4.out⟩
          rw [HSU2.out]
          unfold OwnC
          rw [cls_append, cls_one, List.length_append]
          exact HOWN.out
        case measure => simp [intOf]; omega
    · have hkk : k = cs.length := by omega
      subst hkk
      rw [List.take_length] at hl
      subst hl
      have s0 : wr.cell? ⟨w.heap.size, 0, none⟩ = some (.string ⟨text.toArray⟩) := by rw [cell_of_row wr _ 0 _ _ _ hB]; rfl
      have s1 : wr.cell? ⟨w.heap.size, 1, none⟩ = some (.int .i64 way) := by rw [cell_of_row wr _ 1 _ _ _ hB]; rfl
      have s2 : wr.cell? ⟨w.heap.size, 2, none⟩ = some (.int .u16 (space : Int)) := by rw [cell_of_row wr _ 2 _ _ _ hB]; rfl
      have hR : Reads St.cells 3 (wr.alloc (.cells #[.string ⟨text.toArray⟩, .int .i64 way, .int .u16 (space : Int)] 24)) (some ⟨wr.heap.size, 0, none⟩) [⟨text, way, space⟩] := Reads.of_block St.cells_len (heap_alloc_new wr _) rfl
      have hCr := (Own.readsAt Cl.cells_len (by decide) hO).fr0 ((Fr.refl (fun _ => False) wr).alloc (.cells #[.string ⟨text.toArray⟩, .int .i64 way, .int .u16 (space : Int)] 24))
      have hcalm := calm_any Inv HSTEP.out [⟨text, way, space⟩] 0 (some ⟨wr.heap.size, 0, none⟩) 1 (keepF keep cs) A7 q7 (wr.alloc (.cells #[.string ⟨text.toArray⟩, .int .i64 way, .int .u16 (space : Int)] 24)) hR (by simp) (by omega) hCr (by omega) HI.out
      have HCALM := Lib.hid hcalm
      clear hO hF hB hR hCr hcalm
      go_wp2_with fail
      refine HCALM.out.mono ?_
      rintro e w4 ⟨v, rfl, hv, F4⟩
      have hbase := F4.size
      obtain ⟨A4, q4, rfl⟩ := hv.value
      have HV := Lib.hid (hv.lower (base' := w.heap.size) (by rw [World.size_alloc]; have := HF.out.size; omega))
      have HFE := Lib.hid ((HF.out.alloc (.cells #[.string ⟨text.toArray⟩, .int .i64 way, .int .u16 (space : Int)] 24)).trans F4)
      clear hv F4
      go_wp2_with fail
      go_ret
      exact ⟨_, rfl, HV.out, HFE.out⟩
end Go.Proofs.YtbodbajgpgaoeaaGreatDoor

namespace Go.Proofs.YtbodbajgpgaoeaaGreatDoor
open Go Go.RowKit

theorem fr_one (w : World) (o : Obj) : Fr (fun _ => False) w (w.alloc o) := (Fr.refl _ w).alloc o
set_option maxHeartbeats 800000 in
set_option maxRecDepth 100000 in
theorem t_reads : TestOk 16 (fun c => decide (c.isRead)) := by
  intro c w
  obtain ⟨op, a, bb, size, n, sign, char, text, cuts, ad, cap⟩ := c
  simp only [Cl.val, Cl.cells]
  have hc : (op < 6) ∨ (6 ≤ op ∧ op ≤ 11) ∨ (12 ≤ op) := by omega
  rcases hc with hc | hc | hc
  · have hr : decide (((Cl.mk op a bb size n sign char text cuts ad cap).isRead)) = false := decide_eq_false (by (try simp only [Cl.isRead, Cl.isBack, Cl.writes]); omega)
    rw [hr]
    have q0 : decide (6 ≤ op) = false := by simp; omega
    have r0 : ¬ (6 ≤ op) := by omega
    clear hr hc
    go_enter Tryz.func16, Tryz.ntmps16
    go_wp2_with fail
    go_ret
    exact ⟨rfl, fr_one w _⟩
  · have hr : decide (((Cl.mk op a bb size n sign char text cuts ad cap).isRead)) = true := decide_eq_true (by (try simp only [Cl.isRead, Cl.isBack, Cl.writes]); omega)
    rw [hr]
    have q0 : decide (6 ≤ op) = true := by simp; omega
    have r0 : (6 ≤ op) := by omega
    have q1 : decide (op ≤ 11) = true := by simp; omega
    have r1 : (op ≤ 11) := by omega
    clear hr hc
    go_enter Tryz.func16, Tryz.ntmps16
    go_wp2_with fail
    go_ret
    exact ⟨rfl, fr_one w _⟩
  · have hr : decide (((Cl.mk op a bb size n sign char text cuts ad cap).isRead)) = false := decide_eq_false (by (try simp only [Cl.isRead, Cl.isBack, Cl.writes]); omega)
    rw [hr]
    have q0 : decide (6 ≤ op) = true := by simp; omega
    have r0 : (6 ≤ op) := by omega
    have q1 : decide (op ≤ 11) = false := by simp; omega
    have r1 : ¬ (op ≤ 11) := by omega
    clear hr hc
    go_enter Tryz.func16, Tryz.ntmps16
    go_wp2_with fail
    go_ret
    exact ⟨rfl, fr_one w _⟩
set_option maxHeartbeats 800000 in
set_option maxRecDepth 100000 in
theorem t_back : TestOk 32 (fun c => decide (c.isBack)) := by
  intro c w
  obtain ⟨op, a, bb, size, n, sign, char, text, cuts, ad, cap⟩ := c
  simp only [Cl.val, Cl.cells]
  have hc : (op = 12) ∨ (op = 13) ∨ (op < 12 ∨ 13 < op) := by omega
  rcases hc with hc | hc | hc
  · have hr : decide (((Cl.mk op a bb size n sign char text cuts ad cap).isBack)) = true := decide_eq_true (by (try simp only [Cl.isRead, Cl.isBack, Cl.writes]); omega)
    rw [hr]
    have e0 : (op == 12) = true := by simp; omega
    clear hr hc
    go_enter Tryz.func32, Tryz.ntmps32
    go_wp2_with fail
    go_ret
    exact ⟨rfl, fr_one w _⟩
  · have hr : decide (((Cl.mk op a bb size n sign char text cuts ad cap).isBack)) = true := decide_eq_true (by (try simp only [Cl.isRead, Cl.isBack, Cl.writes]); omega)
    rw [hr]
    have e0 : (op == 12) = false := by simp; omega
    have e1 : (op == 13) = true := by simp; omega
    clear hr hc
    go_enter Tryz.func32, Tryz.ntmps32
    go_wp2_with fail
    go_ret
    exact ⟨rfl, fr_one w _⟩
  · have hr : decide (((Cl.mk op a bb size n sign char text cuts ad cap).isBack)) = false := decide_eq_false (by (try simp only [Cl.isRead, Cl.isBack, Cl.writes]); omega)
    rw [hr]
    have e0 : (op == 12) = false := by simp; omega
    have e1 : (op == 13) = false := by simp; omega
    clear hr hc
    go_enter Tryz.func32, Tryz.ntmps32
    go_wp2_with fail
    go_ret
    exact ⟨rfl, fr_one w _⟩
set_option maxHeartbeats 800000 in
set_option maxRecDepth 100000 in
theorem t_writes : TestOk 13 (fun c => decide (c.writes)) := by
  intro c w
  obtain ⟨op, a, bb, size, n, sign, char, text, cuts, ad, cap⟩ := c
  simp only [Cl.val, Cl.cells]
  have hc : (op < 1) ∨ (1 ≤ op ∧ op ≤ 5) ∨ (6 ≤ op ∧ op ≤ 26) ∨ (op = 27 ∧ n = 0) ∨ (op = 27 ∧ n ≠ 0) ∨ (28 ≤ op ∧ op ≤ 31) ∨ (32 ≤ op) := by omega
  rcases hc with hc | hc | hc | hc | hc | hc | hc
  · have hr : decide (((Cl.mk op a bb size n sign char text cuts ad cap).writes)) = false := decide_eq_false (by (try simp only [Cl.isRead, Cl.isBack, Cl.writes]); omega)
    rw [hr]
    have q0 : decide (1 ≤ op) = false := by simp; omega
    have r0 : ¬ (1 ≤ op) := by omega
    have q1 : decide (28 ≤ op) = false := by simp; omega
    have r1 : ¬ (28 ≤ op) := by omega
    have e0 : (op == 27) = false := by simp; omega
    clear hr hc
    go_enter Tryz.func13, Tryz.ntmps13
    go_wp2_with fail
    go_ret
    exact ⟨rfl, fr_one w _⟩
  · have hr : decide (((Cl.mk op a bb size n sign char text cuts ad cap).writes)) = true := decide_eq_true (by (try simp only [Cl.isRead, Cl.isBack, Cl.writes]); omega)
    rw [hr]
    have q0 : decide (1 ≤ op) = true := by simp; omega
    have r0 : (1 ≤ op) := by omega
    have q1 : decide (op ≤ 5) = true := by simp; omega
    have r1 : (op ≤ 5) := by omega
    clear hr hc
    go_enter Tryz.func13, Tryz.ntmps13
    go_wp2_with fail
    go_ret
    exact ⟨rfl, fr_one w _⟩
  · have hr : decide (((Cl.mk op a bb size n sign char text cuts ad cap).writes)) = false := decide_eq_false (by (try simp only [Cl.isRead, Cl.isBack, Cl.writes]); omega)
    rw [hr]
    have q0 : decide (1 ≤ op) = true := by simp; omega
    have r0 : (1 ≤ op) := by omega
    have q1 : decide (op ≤ 5) = false := by simp; omega
    have r1 : ¬ (op ≤ 5) := by omega
    have q2 : decide (28 ≤ op) = false := by simp; omega
    have r2 : ¬ (28 ≤ op) := by omega
    have e0 : (op == 27) = false := by simp; omega
    clear hr hc
    go_enter Tryz.func13, Tryz.ntmps13
    go_wp2_with fail
    go_ret
    exact ⟨rfl, fr_one w _⟩
  · have hr : decide (((Cl.mk op a bb size n sign char text cuts ad cap).writes)) = true := decide_eq_true (by (try simp only [Cl.isRead, Cl.isBack, Cl.writes]); omega)
    rw [hr]
    have q0 : decide (1 ≤ op) = true := by simp; omega
    have r0 : (1 ≤ op) := by omega
    have q1 : decide (op ≤ 5) = false := by simp; omega
    have r1 : ¬ (op ≤ 5) := by omega
    have q2 : decide (28 ≤ op) = false := by simp; omega
    have r2 : ¬ (28 ≤ op) := by omega
    have e0 : (op == 27) = true := by simp; omega
    have e1 : (n == 0) = true := by simp; omega
    clear hr hc
    go_enter Tryz.func13, Tryz.ntmps13
    go_wp2_with fail
    go_ret
    exact ⟨rfl, fr_one w _⟩
  · have hr : decide (((Cl.mk op a bb size n sign char text cuts ad cap).writes)) = false := decide_eq_false (by (try simp only [Cl.isRead, Cl.isBack, Cl.writes]); omega)
    rw [hr]
    have q0 : decide (1 ≤ op) = true := by simp; omega
    have r0 : (1 ≤ op) := by omega
    have q1 : decide (op ≤ 5) = false := by simp; omega
    have r1 : ¬ (op ≤ 5) := by omega
    have q2 : decide (28 ≤ op) = false := by simp; omega
    have r2 : ¬ (28 ≤ op) := by omega
    have e0 : (op == 27) = true := by simp; omega
    have e1 : (n == 0) = false := by simp; omega
    clear hr hc
    go_enter Tryz.func13, Tryz.ntmps13
    go_wp2_with fail
    go_ret
    exact ⟨rfl, fr_one w _⟩
  · have hr : decide (((Cl.mk op a bb size n sign char text cuts ad cap).writes)) = true := decide_eq_true (by (try simp only [Cl.isRead, Cl.isBack, Cl.writes]); omega)
    rw [hr]
    have q0 : decide (1 ≤ op) = true := by simp; omega
    have r0 : (1 ≤ op) := by omega
    have q1 : decide (op ≤ 5) = false := by simp; omega
    have r1 : ¬ (op ≤ 5) := by omega
    have q2 : decide (28 ≤ op) = true := by simp; omega
    have r2 : (28 ≤ op) := by omega
    have q3 : decide (op ≤ 31) = true := by simp; omega
    have r3 : (op ≤ 31) := by omega
    clear hr hc
    go_enter Tryz.func13, Tryz.ntmps13
    go_wp2_with fail
    go_ret
    exact ⟨rfl, fr_one w _⟩
  · have hr : decide (((Cl.mk op a bb size n sign char text cuts ad cap).writes)) = false := decide_eq_false (by (try simp only [Cl.isRead, Cl.isBack, Cl.writes]); omega)
    rw [hr]
    have q0 : decide (1 ≤ op) = true := by simp; omega
    have r0 : (1 ≤ op) := by omega
    have q1 : decide (op ≤ 5) = false := by simp; omega
    have r1 : ¬ (op ≤ 5) := by omega
    have q2 : decide (28 ≤ op) = true := by simp; omega
    have r2 : (28 ≤ op) := by omega
    have q3 : decide (op ≤ 31) = false := by simp; omega
    have r3 : ¬ (op ≤ 31) := by omega
    have e0 : (op == 27) = false := by simp; omega
    clear hr hc
    go_enter Tryz.func13, Tryz.ntmps13
    go_wp2_with fail
    go_ret
    exact ⟨rfl, fr_one w _⟩
set_option maxHeartbeats 800000 in
set_option maxRecDepth 100000 in
theorem t_trunc : TestOk 20 (fun c => decide (c.op < 23)) := by
  intro c w
  obtain ⟨op, a, bb, size, n, sign, char, text, cuts, ad, cap⟩ := c
  simp only [Cl.val, Cl.cells]
  have hc : (op < 23) ∨ (23 ≤ op) := by omega
  rcases hc with hc | hc
  · have hr : decide (((Cl.mk op a bb size n sign char text cuts ad cap).op < 23)) = true := decide_eq_true (by (try simp only [Cl.isRead, Cl.isBack, Cl.writes]); omega)
    rw [hr]
    have q0 : decide (op < 23) = true := by simp; omega
    have r0 : (op < 23) := by omega
    clear hr hc
    go_enter Tryz.func20, Tryz.ntmps20
    go_wp2_with fail
    go_ret
    exact ⟨rfl, fr_one w _⟩
  · have hr : decide (((Cl.mk op a bb size n sign char text cuts ad cap).op < 23)) = false := decide_eq_false (by (try simp only [Cl.isRead, Cl.isBack, Cl.writes]); omega)
    rw [hr]
    have q0 : decide (op < 23) = false := by simp; omega
    have r0 : ¬ (op < 23) := by omega
    clear hr hc
    go_enter Tryz.func20, Tryz.ntmps20
    go_wp2_with fail
    go_ret
    exact ⟨rfl, fr_one w _⟩
set_option maxHeartbeats 800000 in
set_option maxRecDepth 100000 in
theorem t_unread : TestOk 25 (fun c => decide (c.op < 23)) := by
  intro c w
  obtain ⟨op, a, bb, size, n, sign, char, text, cuts, ad, cap⟩ := c
  simp only [Cl.val, Cl.cells]
  have hc : (op < 23) ∨ (23 ≤ op) := by omega
  rcases hc with hc | hc
  · have hr : decide (((Cl.mk op a bb size n sign char text cuts ad cap).op < 23)) = true := decide_eq_true (by (try simp only [Cl.isRead, Cl.isBack, Cl.writes]); omega)
    rw [hr]
    have q0 : decide (op < 23) = true := by simp; omega
    have r0 : (op < 23) := by omega
    clear hr hc
    go_enter Tryz.func25, Tryz.ntmps25
    go_wp2_with fail
    go_ret
    exact ⟨rfl, fr_one w _⟩
  · have hr : decide (((Cl.mk op a bb size n sign char text cuts ad cap).op < 23)) = false := decide_eq_false (by (try simp only [Cl.isRead, Cl.isBack, Cl.writes]); omega)
    rw [hr]
    have q0 : decide (op < 23) = false := by simp; omega
    have r0 : ¬ (op < 23) := by omega
    clear hr hc
    go_enter Tryz.func25, Tryz.ntmps25
    go_wp2_with fail
    go_ret
    exact ⟨rfl, fr_one w _⟩
set_option maxHeartbeats 800000 in
set_option maxRecDepth 100000 in
theorem t_written : TestOk 27 (fun c => decide (c.op < 23)) := by
  intro c w
  obtain ⟨op, a, bb, size, n, sign, char, text, cuts, ad, cap⟩ := c
  simp only [Cl.val, Cl.cells]
  have hc : (op < 23) ∨ (23 ≤ op) := by omega
  rcases hc with hc | hc
  · have hr : decide (((Cl.mk op a bb size n sign char text cuts ad cap).op < 23)) = true := decide_eq_true (by (try simp only [Cl.isRead, Cl.isBack, Cl.writes]); omega)
    rw [hr]
    have q0 : decide (op < 23) = true := by simp; omega
    have r0 : (op < 23) := by omega
    clear hr hc
    go_enter Tryz.func27, Tryz.ntmps27
    go_wp2_with fail
    go_ret
    exact ⟨rfl, fr_one w _⟩
  · have hr : decide (((Cl.mk op a bb size n sign char text cuts ad cap).op < 23)) = false := decide_eq_false (by (try simp only [Cl.isRead, Cl.isBack, Cl.writes]); omega)
    rw [hr]
    have q0 : decide (op < 23) = false := by simp; omega
    have r0 : ¬ (op < 23) := by omega
    clear hr hc
    go_enter Tryz.func27, Tryz.ntmps27
    go_wp2_with fail
    go_ret
    exact ⟨rfl, fr_one w _⟩
end Go.Proofs.YtbodbajgpgaoeaaGreatDoor
