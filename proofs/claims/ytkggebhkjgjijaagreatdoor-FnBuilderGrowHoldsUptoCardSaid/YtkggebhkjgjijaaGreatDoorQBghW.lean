/- The walk of laws.FnBuilderGrowHolds. -/
import Derived.Test.YtkggebhkjgjijaaGreatDoorQBghQ
namespace Go.Proofs.YtkggebhkjgjijaaGreatDoor
open Go Go.RowKit

set_option maxHeartbeats 12800000 in
set_option maxRecDepth 100000 in
theorem builderGrow_any (cs : List Cl) (A : Option Addr) (c : Nat) (nn : Nat) (ds : List Cl) (B : Option Addr) (d : Nat) (ea eu : Addr) (w : World) (hC : Reads Cl.cells 9 w A cs) (hok : CallsOk w cs) (hsum : wsum cs ≤ 8388608) (hD : Reads Cl.cells 9 w B ds) (hok2 : CallsOk w ds) (hnn : nn ≤ 65535) (hG : Gl w.heap.size ea eu w) :
    Calls Tryz.prog 3 #[.slice A cs.length c, .int .u16 (nn : Int), .slice B ds.length d] w (LawPost w) := by
  have HC := Lib.hid hC
  have HOK := Lib.hid hok
  have HD := Lib.hid hD
  have HOK2 := Lib.hid hok2
  have HG := Lib.hid hG
  have hfew := hok.few
  have hfew2 := hok2.few
  clear hC hok hD hok2 hG
  have hlong : ∀ bb, bb = decide (4096 < cs.length + ds.length) → Calls Tryz.prog 4 #[.slice (some ⟨w.heap.size, 0, none⟩) 2 2] (w.alloc (.cells #[.slice A cs.length c, .slice B ds.length d] 22)) fun e w' => e = .returned (.bool bb) ∧ w' = w.alloc (.cells #[.slice A cs.length c, .slice B ds.length d] 22) := by
    intro bb hbb
    rw [hbb]
    have hb := heap_alloc_new w (.cells #[.slice A cs.length c, .slice B ds.length d] 22)
    exact long_2 w.heap.size A cs.length c B ds.length d _ (by rw [cell_of_row _ _ 0 _ _ _ hb]; rfl) (by rw [cell_of_row _ _ 1 _ _ _ hb]; rfl) (by omega) (by omega)
  have HLONG := Lib.hid hlong
  clear hlong
  by_cases hbig : 4096 < cs.length + ds.length
  · go_enter Tryz.func3, Tryz.ntmps3
    go_wp2_with fail
    refine (HLONG.out true (by simp [hbig])).mono ?_
    rintro e w1 ⟨rfl, hw1⟩
    rw [hw1]
    clear hw1
    go_wp2_with fail
    go_ret
    exact ⟨rfl, fr_one w _⟩
  go_enter Tryz.func3, Tryz.ntmps3
  go_wp2_with fail
  refine (HLONG.out false (by simp [hbig])).mono ?_
  rintro e w1 ⟨rfl, hw1⟩
  rw [hw1]
  clear hw1
  go_wp2_with fail
  go_loopw [7, 24] (fun v7 v24 wr => ∃ k : Nat, k ≤ cs.length ∧ v24 = .int .i64 (k : Int) ∧ OwnC wr w.heap.size v7 (keepF (fun c => decide (28 ≤ c.op)) (cs.take k)) ∧ Fr (fun _ => False) w wr) (fun _ v24 _ => cs.length - (intOf v24).toNat)
  case atStart => exact ⟨0, Nat.zero_le _, rfl, Own.nil _ _ _ _, fr_one w _⟩
  case round =>
    obtain ⟨k, hk, rfl, hO, hF⟩ := hrel
    obtain ⟨l, hl⟩ : ∃ l, l = keepF (fun c => decide (28 ≤ c.op)) (cs.take k) := ⟨_, rfl⟩
    have hll : l.length ≤ k := by rw [hl]; exact keep_len (fun c => decide (28 ≤ c.op)) cs k
    rw [← hl] at hO
    obtain ⟨A7, q7, rfl⟩ := hO.value
    have HL := Lib.hid hl
    have HO := Lib.hid hO
    have HF := Lib.hid hF
    by_cases hlt : k < cs.length
    · obtain ⟨x, hx⟩ : ∃ x, cs[k]? = some x := ⟨_, List.getElem?_eq_getElem hlt⟩
      obtain ⟨r, o, e1, hc⟩ := HC.out.at' k x hx
      subst e1
      have hsucc := keep_succ (keep := (fun c => decide (28 ≤ c.op))) hx
      rw [← hl] at hsucc
      have hq : ∀ j u, (Cl.cells x)[j]? = some u → wr.cell? ⟨r, o + k * 9 + j, none⟩ = some u := fun j u hu => keep1 hF (hc j u hu)
      obtain ⟨op, ca, cb, csize, cn, csign, cchar, ctext, ccuts, cad, ccap⟩ := x
      have c0 := hq 0 _ rfl
      have c1 := hq 1 _ rfl
      have c2 := hq 2 _ rfl
      have c3 := hq 3 _ rfl
      have c4 := hq 4 _ rfl
      have c5 := hq 5 _ rfl
      have c6 := hq 6 _ rfl
      have c7 := hq 7 _ rfl
      have c8 := hq 8 _ rfl
      simp only [Nat.add_zero] at c0
      have hki : (k : Int) < (cs.length : Int) := by omega
      have hk0 : (0 : Int) ≤ (k : Int) := by omega
      simp only [Cl.at0] at hsucc
      have HSU := Lib.hid hsucc
      clear hsucc hx hc hq hO hF hl
      by_cases h28 : 28 ≤ op
      · have HSU2 := Lib.hid (show keepF (fun c => decide (28 ≤ c.op)) (cs.take (k + 1)) = l ++ [⟨op, 0, cb, csize, cn, csign, cchar, ctext, ccuts, cad, ccap⟩] by rw [HSU.out]; simp [h28])
        go_wp2_with (refine wpList_copy elem_call Cl.cells_len cl_one rfl (.tmp 32) (.tmp 34) rfl w.heap.size _ l.length (cls l) (some ⟨wr.heap.size + 1, 0, none⟩) 1 [⟨op, 0, cb, csize, cn, csign, cchar, ctext, ccuts, cad, ccap⟩] (by rfl) (by rfl) ((HO.out.fr (fr_one wr _) (fun _ _ q => q)).fr (fr_one _ _) (fun _ _ q => q)) (Reads.of_block Cl.cells_len (by first | exact heap_alloc_new _ _ | simpa using heap_alloc_new (wr.alloc (.cells #[.int .i64 op, .int .i64 0, .int .i64 cb, .int .u16 (csize : Int), .int .i64 cn, .int .u8 (csign.toNat : Int), .int .i32 cchar, .string ⟨ctext.toArray⟩, .slice cad ccuts.length ccap] 27)) (.cells #[.int .i64 op, .int .i64 0, .int .i64 cb, .int .u16 (csize : Int), .int .i64 cn, .int .u8 (csign.toNat : Int), .int .i32 cchar, .string ⟨ctext.toArray⟩, .slice cad ccuts.length ccap] 27)) rfl) (fun q => by cases q) (by simp only [List.length_cons, List.length_nil]; omega) (by have := HF.out.size; simp; omega) ?_)
        intro v' w3 hown hfr hat
        have hown' : OwnC w3 w.heap.size v' (keepF (fun c => decide (28 ≤ c.op)) (cs.take (k + 1))) := by
          rw [HSU2.out]
          unfold OwnC
          rw [List.length_append, cls_append]
          exact hown
        have HOW := Lib.hid hown'
        have HFW := Lib.hid (((HF.out.alloc (.cells #[.int .i64 op, .int .i64 0, .int .i64 cb, .int .u16 (csize : Int), .int .i64 cn, .int .u8 (csign.toNat : Int), .int .i32 cchar, .string ⟨ctext.toArray⟩, .slice cad ccuts.length ccap] 27)).alloc (.cells #[.int .i64 op, .int .i64 0, .int .i64 cb, .int .u16 (csize : Int), .int .i64 cn, .int .u8 (csign.toNat : Int), .int .i32 cchar, .string ⟨ctext.toArray⟩, .slice cad ccuts.length ccap] 27)).trans' hfr (fun x hx q => by have := HO.out.blk_ge q; omega))
        clear hown hown' hfr hat
        go_wp2_with fail
        go_roundw
        case rel => exact ⟨k + 1, by omega, by go_num, HOW.out, HFW.out⟩
        case measure => simp [intOf]; omega
      · have HSU2 := Lib.hid (show keepF (fun c => decide (28 ≤ c.op)) (cs.take (k + 1)) = l by rw [HSU.out]; simp [h28])
        go_wp2_with fail
        go_roundw
        case rel => exact ⟨k + 1, by omega, by go_num, by rw [HSU2.out]; exact HO.out.fr (fr_one wr _) (fun _ _ q => q), HF.out.alloc _⟩
        case measure => simp [intOf]; omega
    · have hkk : k = cs.length := by omega
      subst hkk
      rw [List.take_length] at hl
      have hI : InvG (Yd.begin [] 1) l := by
        refine ⟨[], rfl, fun x hx => ?_, ?_⟩
        · rw [hl] at hx
          obtain ⟨y, _, rfl, hk⟩ := keep_mem hx
          exact ⟨rfl, of_decide_eq_true hk⟩
        · have h1 := wsum_keep (fun c => decide (28 ≤ c.op)) cs
          have h2 := HOK.out.sz
          rw [← hl] at h1
          show 0 + _ + 16 ≤ _
          omega
      have hcalm := calm_any InvG stepG [] 1 none 0 l A7 q7 wr (Reads.nil _ _ _ _) (by simp) (by omega) (Own.readsAt Cl.cells_len (by decide) (by have k := hO; exact k)) (by omega) hI
      have HCALM := Lib.hid hcalm
      clear hI hcalm hO hF hl
      go_wp2_with fail
      refine HCALM.out.mono ?_
      rintro e w3 ⟨v, rfl, hown, F3⟩
      have hcl := calm_len l (Yd.begin [] 1)
      have hm1 := calm_mild l (Yd.begin [] 1)
      generalize hL1 : calmF (Yd.begin [] 1) l = L1 at *
      obtain ⟨A1, q1, rfl⟩ := hown.value
      have hll1 : L1.length ≤ 4096 := by omega
      obtain ⟨m, hm⟩ : ∃ m, m = L1.length + 1 := ⟨_, rfl⟩
      have hadd : IntKind.i64.wrap ((L1.length : Int) + 1) = (m : Int) := by rw [IntWalk.i64_in _ (by omega)]; omega
      have hwn : wrap64 (nn : Int) = (nn : Int) := IntWalk.wrap64_in _ (by omega)
      have HF3 := Lib.hid (HF.out.trans F3)
      have HO1 := Lib.hid (hown.lower (base' := w.heap.size) HF.out.size)
      have HM1 := Lib.hid hm1
      have HMM := Lib.hid hm
      have HL1 := Lib.hid hL1
      clear hown F3 hm1 hm hL1 hcl HCALM
      go_wp2_with (refine wpList_copy elem_call Cl.cells_len cl_one rfl (.tmp 42) (.tmp 46) rfl w.heap.size _ L1.length (cls L1) (some ⟨w3.heap.size, 0, none⟩) 1 [grC nn] (by rfl) (by rfl) (HO1.out.fr (fr_one w3 _) (fun _ _ q => q)) (Reads.of_block Cl.cells_len (heap_alloc_new w3 _) rfl) (fun q => by cases q) (by simp only [List.length_cons, List.length_nil]; omega) (by have := HF3.out.size; rw [World.size_alloc]; omega) ?_)
      intro v' w4 hown4 hfr4 hat4
      have hown5 : OwnC w4 w.heap.size v' (L1 ++ [grC nn] ++ []) := by
        rw [List.append_nil]
        unfold OwnC
        rw [List.length_append, cls_append]
        exact hown4
      have HO5 := Lib.hid hown5
      have HF5 := Lib.hid ((HF3.out.alloc (.cells #[.int .i64 32, .int .i64 0, .int .i64 0, .int .u16 0, .int .i64 (nn : Int), .int .u8 0, .int .i32 0, .string ⟨#[]⟩, .slice none 0 0] 27)).trans' hfr4 (fun x hx q => by have := HO1.out.blk_ge q; omega))
      clear hown4 hown5 hfr4 hat4
      go_wp2_with fail
      go_loopw [7, 11, 50] (fun v7 v11 v50 wr => ∃ (k sum : Nat) (T : List Cl), k ≤ ds.length ∧ sum ≤ nn ∧ v50 = .int .i64 (k : Int) ∧ v11 = .int .i64 (sum : Int) ∧ T.length ≤ k ∧ T ++ wrS nn sum (ds.drop k) = wrS nn 0 ds ∧ OwnC wr w.heap.size v7 (L1 ++ [grC nn] ++ T) ∧ Fr (fun _ => False) w wr) (fun _ _ v50 _ => ds.length - (intOf v50).toNat)
      case atStart => exact ⟨0, 0, [], Nat.zero_le _, Nat.zero_le _, rfl, rfl, Nat.le_refl _, rfl, HO5.out, HF5.out⟩
      case round =>
        obtain ⟨k, sum, T, hk, hsm, rfl, rfl, hTl, hT, hO, hF⟩ := hrel
        obtain ⟨M, hM⟩ : ∃ M, M = L1 ++ [grC nn] ++ T := ⟨_, rfl⟩
        have hMl : M.length ≤ 8193 := by rw [hM]; simp only [List.length_append, List.length_cons, List.length_nil]; omega
        rw [← hM] at hO
        obtain ⟨A8, q8, rfl⟩ := hO.value
        have HM := Lib.hid hM
        have HT := Lib.hid hT
        have HO := Lib.hid hO
        have HF := Lib.hid hF
        by_cases hlt : k < ds.length
        · obtain ⟨x, hx⟩ : ∃ x, ds[k]? = some x := ⟨_, List.getElem?_eq_getElem hlt⟩
          obtain ⟨r, o, e1, hc⟩ := HD.out.at' k x hx
          subst e1
          have hstep := wrS_step (n := nn) (sum := sum) hx
          have hxt : x.text.length ≤ 2147483647 := (HOK2.out.ok x (List.mem_of_getElem? hx)).text
          have hq : ∀ j u, (Cl.cells x)[j]? = some u → wr.cell? ⟨r, o + k * 9 + j, none⟩ = some u := fun j u hu => keep1 hF (hc j u hu)
          obtain ⟨dn, hdn⟩ : ∃ dn, dn = x.at0 := ⟨_, rfl⟩
          have hkv : ∀ wx, Calls Tryz.prog 6 #[dn.val] wx fun e w' => e = .returned (.bool (decide dn.valid)) ∧ Fr (fun _ => False) wx w' := fun wx => t_valid dn wx
          have htx : ∀ wx, Calls Tryz.prog 7 #[dn.val] wx fun e w' => e = .returned (.string ⟨(textF dn).toArray⟩) ∧ Fr (fun _ => False) wx w' := fun wx => textOf_any dn wx
          have htl := textF_le dn
          rw [← hdn] at hstep
          have hdt : dn.text = x.text := by rw [hdn]; rfl
          rw [hdt] at htl
          obtain ⟨op, ca, cb, csize, cn, csign, cchar, ctext, ccuts, cad, ccap⟩ := x
          have c0 := hq 0 _ rfl
          have c1 := hq 1 _ rfl
          have c2 := hq 2 _ rfl
          have c3 := hq 3 _ rfl
          have c4 := hq 4 _ rfl
          have c5 := hq 5 _ rfl
          have c6 := hq 6 _ rfl
          have c7 := hq 7 _ rfl
          have c8 := hq 8 _ rfl
          simp only [Nat.add_zero] at c0
          have hdv : dn.val = .agg #[.int .i64 op, .int .i64 0, .int .i64 cb, .int .u16 (csize : Int), .int .i64 cn, .int .u8 (csign.toNat : Int), .int .i32 cchar, .string ⟨ctext.toArray⟩, .slice cad ccuts.length ccap] := by rw [hdn]; rfl
          have HDN := Lib.hid (show dn = ⟨op, 0, cb, csize, cn, csign, cchar, ctext, ccuts, cad, ccap⟩ by rw [hdn]; rfl)
          rw [hdv] at hkv htx
          have hki : (k : Int) < (ds.length : Int) := by omega
          have hk0 : (0 : Int) ≤ (k : Int) := by omega
          simp only at hstep hxt htl
          obtain ⟨bv, hbv⟩ : ∃ bv, bv = decide dn.valid := ⟨_, rfl⟩
          rw [← hbv] at hkv
          obtain ⟨tx, htx2⟩ : ∃ tx, tx = textF dn := ⟨_, rfl⟩
          rw [← htx2] at htx htl hstep
          obtain ⟨s', hs'⟩ : ∃ s', s' = sum + tx.length := ⟨_, rfl⟩
          have hadd : IntKind.i64.wrap ((sum : Int) + (tx.length : Int)) = (s' : Int) := by rw [IntWalk.i64_in _ (by omega)]; omega
          rw [← hs'] at hstep
          have HBV := Lib.hid hbv
          have HKV := Lib.hid hkv
          have HTX := Lib.hid htx
          have HST := Lib.hid hstep
          have HS' := Lib.hid hs'
          clear hkv htx hstep hbv hdv hdn hdt htx2 hx hc hq hO hF hM hT hs'
          have hskip : ¬ ((28 ≤ op ∧ op ≤ 31) ∧ dn.valid ∧ s' ≤ nn) → T ++ wrS nn sum (ds.drop (k + 1)) = wrS nn 0 ds := fun q => by
            have h := HST.out
            rw [if_neg q] at h
            rw [← h]
            exact HT.out
          have hown0 : OwnC (wr.alloc (.cells #[.int .i64 op, .int .i64 0, .int .i64 cb, .int .u16 (csize : Int), .int .i64 cn, .int .u8 (csign.toNat : Int), .int .i32 cchar, .string ⟨ctext.toArray⟩, .slice cad ccuts.length ccap] 27)) w.heap.size (.slice A8 M.length q8) M := HO.out.fr (fr_one wr _) (fun _ _ q => q)
          have HSK := Lib.hid hskip
          have HOZ := Lib.hid hown0
          have HFZ := Lib.hid (HF.out.alloc (.cells #[.int .i64 op, .int .i64 0, .int .i64 cb, .int .u16 (csize : Int), .int .i64 cn, .int .u8 (csign.toNat : Int), .int .i32 cchar, .string ⟨ctext.toArray⟩, .slice cad ccuts.length ccap] 27))
          clear hskip hown0
          by_cases h28 : 28 ≤ op
          · by_cases h31 : op ≤ 31
            · go_wp2_with fail
              refine (HKV.out _).mono ?_
              rintro e w5 ⟨rfl, F5⟩
              have hb9 := F5.blk (heap_alloc_new wr (.cells #[.int .i64 op, .int .i64 0, .int .i64 cb, .int .u16 (csize : Int), .int .i64 cn, .int .u8 (csign.toNat : Int), .int .i32 cchar, .string ⟨ctext.toArray⟩, .slice cad ccuts.length ccap] 27)) (fun q => q)
              have HFV := Lib.hid (HFZ.out.trans F5)
              have HOV := Lib.hid (HOZ.out.fr F5 (fun _ _ q => q))
              have HB9 := Lib.hid hb9
              clear F5 hb9 c0 c1 c2 c3 c4 c5 c6 c7 c8
              cases bv with
              | false =>
                have HSU := Lib.hid (HSK.out (fun q => of_decide_eq_false HBV.out.symm q.2.1))
                go_wp2_with fail
                go_roundw
                case rel => exact ⟨k + 1, sum, T, by omega, hsm, by go_num, rfl, by omega, HSU.out, by rw [← HM.out]; exact HOV.out, HFV.out⟩
                case measure => simp [intOf]; omega
              | true =>
                have d0 : w5.cell? ⟨wr.heap.size, 0, none⟩ = some (.int .i64 op) := by rw [cell_of_row w5 _ 0 _ _ _ HB9.out]; rfl
                have d1 : w5.cell? ⟨wr.heap.size, 1, none⟩ = some (.int .i64 0) := by rw [cell_of_row w5 _ 1 _ _ _ HB9.out]; rfl
                have d2 : w5.cell? ⟨wr.heap.size, 2, none⟩ = some (.int .i64 cb) := by rw [cell_of_row w5 _ 2 _ _ _ HB9.out]; rfl
                have d3 : w5.cell? ⟨wr.heap.size, 3, none⟩ = some (.int .u16 (csize : Int)) := by rw [cell_of_row w5 _ 3 _ _ _ HB9.out]; rfl
                have d4 : w5.cell? ⟨wr.heap.size, 4, none⟩ = some (.int .i64 cn) := by rw [cell_of_row w5 _ 4 _ _ _ HB9.out]; rfl
                have d5 : w5.cell? ⟨wr.heap.size, 5, none⟩ = some (.int .u8 (csign.toNat : Int)) := by rw [cell_of_row w5 _ 5 _ _ _ HB9.out]; rfl
                have d6 : w5.cell? ⟨wr.heap.size, 6, none⟩ = some (.int .i32 cchar) := by rw [cell_of_row w5 _ 6 _ _ _ HB9.out]; rfl
                have d7 : w5.cell? ⟨wr.heap.size, 7, none⟩ = some (.string ⟨ctext.toArray⟩) := by rw [cell_of_row w5 _ 7 _ _ _ HB9.out]; rfl
                have d8 : w5.cell? ⟨wr.heap.size, 8, none⟩ = some (.slice cad ccuts.length ccap) := by rw [cell_of_row w5 _ 8 _ _ _ HB9.out]; rfl
                go_wp2_with fail
                refine (HTX.out _).mono ?_
                rintro e w6 ⟨rfl, F6⟩
                have hb6 := F6.blk HB9.out (fun q => q)
                have HF6 := Lib.hid (HFV.out.trans F6)
                have HO6 := Lib.hid (HOV.out.fr F6 (fun _ _ q => q))
                have HB6 := Lib.hid hb6
                clear F6 hb6 d0 d1 d2 d3 d4 d5 d6 d7 d8
                by_cases hle : s' ≤ nn
                · have HSU := Lib.hid (show (T ++ [dn]) ++ wrS nn s' (ds.drop (k + 1)) = wrS nn 0 ds by
                    have h := HST.out
                    rw [if_pos ⟨⟨h28, h31⟩, of_decide_eq_true HBV.out.symm, hle⟩] at h
                    rw [List.append_assoc]
                    rw [← HT.out, h]
                    rfl)
                  have hlei : (s' : Int) ≤ (nn : Int) := by omega
                  have f0 : w6.cell? ⟨wr.heap.size, 0, none⟩ = some (.int .i64 op) := by rw [cell_of_row w6 _ 0 _ _ _ HB6.out]; rfl
                  have f1 : w6.cell? ⟨wr.heap.size, 1, none⟩ = some (.int .i64 0) := by rw [cell_of_row w6 _ 1 _ _ _ HB6.out]; rfl
                  have f2 : w6.cell? ⟨wr.heap.size, 2, none⟩ = some (.int .i64 cb) := by rw [cell_of_row w6 _ 2 _ _ _ HB6.out]; rfl
                  have f3 : w6.cell? ⟨wr.heap.size, 3, none⟩ = some (.int .u16 (csize : Int)) := by rw [cell_of_row w6 _ 3 _ _ _ HB6.out]; rfl
                  have f4 : w6.cell? ⟨wr.heap.size, 4, none⟩ = some (.int .i64 cn) := by rw [cell_of_row w6 _ 4 _ _ _ HB6.out]; rfl
                  have f5 : w6.cell? ⟨wr.heap.size, 5, none⟩ = some (.int .u8 (csign.toNat : Int)) := by rw [cell_of_row w6 _ 5 _ _ _ HB6.out]; rfl
                  have f6 : w6.cell? ⟨wr.heap.size, 6, none⟩ = some (.int .i32 cchar) := by rw [cell_of_row w6 _ 6 _ _ _ HB6.out]; rfl
                  have f7 : w6.cell? ⟨wr.heap.size, 7, none⟩ = some (.string ⟨ctext.toArray⟩) := by rw [cell_of_row w6 _ 7 _ _ _ HB6.out]; rfl
                  have f8 : w6.cell? ⟨wr.heap.size, 8, none⟩ = some (.slice cad ccuts.length ccap) := by rw [cell_of_row w6 _ 8 _ _ _ HB6.out]; rfl
                  have hnd : ¬ ((Value.slice A8 M.length q8).ownBlock = some wr.heap.size) := fun q => by
                    have := HO.out.blk_lt q
                    omega
                  have HS := Lib.hid (show ∀ w', Fr (fun x => (Value.slice A8 M.length q8).ownBlock = some x) w6 w' → (w'.cell? ⟨wr.heap.size, 0, none⟩ = some (.int .i64 op) ∧ w'.cell? ⟨wr.heap.size, 1, none⟩ = some (.int .i64 0) ∧ w'.cell? ⟨wr.heap.size, 2, none⟩ = some (.int .i64 cb) ∧ w'.cell? ⟨wr.heap.size, 3, none⟩ = some (.int .u16 (csize : Int)) ∧ w'.cell? ⟨wr.heap.size, 4, none⟩ = some (.int .i64 cn) ∧ w'.cell? ⟨wr.heap.size, 5, none⟩ = some (.int .u8 (csign.toNat : Int)) ∧ w'.cell? ⟨wr.heap.size, 6, none⟩ = some (.int .i32 cchar) ∧ w'.cell? ⟨wr.heap.size, 7, none⟩ = some (.string ⟨ctext.toArray⟩) ∧ w'.cell? ⟨wr.heap.size, 8, none⟩ = some (.slice cad ccuts.length ccap)) from fun w' F => ⟨(F.cell (World.block_lt_of_cell? _ _ f0) hnd).trans f0, (F.cell (World.block_lt_of_cell? _ _ f1) hnd).trans f1, (F.cell (World.block_lt_of_cell? _ _ f2) hnd).trans f2, (F.cell (World.block_lt_of_cell? _ _ f3) hnd).trans f3, (F.cell (World.block_lt_of_cell? _ _ f4) hnd).trans f4, (F.cell (World.block_lt_of_cell? _ _ f5) hnd).trans f5, (F.cell (World.block_lt_of_cell? _ _ f6) hnd).trans f6, (F.cell (World.block_lt_of_cell? _ _ f7) hnd).trans f7, (F.cell (World.block_lt_of_cell? _ _ f8) hnd).trans f8⟩)
                  have hsz6 := HF6.out.size
                  go_wp2_with fail
                  clear HOZ HFZ HOV HFV HKV HST HSK HB9
                  go_region_held3 (fun w' => w'.cell? ⟨wr.heap.size, 0, none⟩ = some (.int .i64 op) ∧ w'.cell? ⟨wr.heap.size, 1, none⟩ = some (.int .i64 0) ∧ w'.cell? ⟨wr.heap.size, 2, none⟩ = some (.int .i64 cb) ∧ w'.cell? ⟨wr.heap.size, 3, none⟩ = some (.int .u16 (csize : Int)) ∧ w'.cell? ⟨wr.heap.size, 4, none⟩ = some (.int .i64 cn) ∧ w'.cell? ⟨wr.heap.size, 5, none⟩ = some (.int .u8 (csign.toNat : Int)) ∧ w'.cell? ⟨wr.heap.size, 6, none⟩ = some (.int .i32 cchar) ∧ w'.cell? ⟨wr.heap.size, 7, none⟩ = some (.string ⟨ctext.toArray⟩) ∧ w'.cell? ⟨wr.heap.size, 8, none⟩ = some (.slice cad ccuts.length ccap)) (exact HS.out _ (by (repeat (with_reducible first | exact Fr.refl _ _ | refine Fr.trans ?_ HFA.out | refine Fr.trans ?_ HFT.out | refine Fr.drew ?_ | refine Fr.alloc ?_ _)))) (first | (refine step_app rfl elem_call (.tmp 77) (.tmp 79) rfl w.heap.size (Value.slice A8 M.length q8) M.length (cls M) (by rfl) (HO6.out.fr (S := fun _ => False) (by (repeat (with_reducible first | exact Fr.refl _ _ | refine Fr.trans ?_ HFT0.out | refine Fr.drew ?_ | refine Fr.alloc ?_ _))) (fun _ _ q => q)) w6.heap.size (Cl.cells ⟨op, 0, cb, csize, cn, csign, cchar, ctext, ccuts, cad, ccap⟩) 27 (by rfl) (by exact heap_alloc_new w6 _) rfl (by simp [Cl.cells, Value.oneCell']) (by omega) (by simp; omega) ?_; intro gg cp w8 hown hfr hat hltg; have HFA := Lib.hid hfr; have HOA := Lib.hid hown; clear hown hfr hat hltg) | (go_at_call 7; refine (HTX.out _).mono ?_; rintro e w7 ⟨rfl, F7⟩; have HFT0 := Lib.hid F7; have HFT := Lib.hid (F7.mono (S' := fun x => (Value.slice A8 M.length q8).ownBlock = some x) (fun _ _ q => q.elim)); clear F7))
                  go_wp2_with fail
                  go_roundw
                  case rel =>
                    have hown7 : OwnC w7 w.heap.size (.slice (some ⟨gg, 0, none⟩) (M.length + 1) cp) (L1 ++ [grC nn] ++ (T ++ [dn])) := by
                      rw [← List.append_assoc, ← HM.out]
                      unfold OwnC
                      rw [List.length_append, cls_append, cls_one, HDN.out]
                      exact HOA.out.fr HFT0.out (fun _ _ q => q)
                    exact ⟨k + 1, s', T ++ [dn], by omega, hle, by go_num, rfl, by simp only [List.length_append, List.length_cons, List.length_nil]; omega, HSU.out, hown7, HF6.out.trans' (S' := fun x => (Value.slice A8 M.length q8).ownBlock = some x) (by (repeat (with_reducible first | exact Fr.refl _ _ | refine Fr.trans ?_ HFA.out | refine Fr.trans ?_ HFT.out | refine Fr.drew ?_ | refine Fr.alloc ?_ _))) (fun x hx q => by have := HO6.out.blk_ge q; omega)⟩
                  case measure => simp [intOf]; omega
                · have HSU := Lib.hid (HSK.out (fun q => hle q.2.2))
                  have hlei : ¬ ((s' : Int) ≤ (nn : Int)) := by omega
                  go_wp2_with fail
                  go_roundw
                  case rel => exact ⟨k + 1, sum, T, by omega, hsm, by go_num, rfl, by omega, HSU.out, by rw [← HM.out]; exact HO6.out, HF6.out⟩
                  case measure => simp [intOf]; omega
            · have HSU := Lib.hid (HSK.out (fun q => h31 q.1.2))
              go_wp2_with fail
              go_roundw
              case rel => exact ⟨k + 1, sum, T, by omega, hsm, by go_num, rfl, by omega, HSU.out, by rw [← HM.out]; exact HOZ.out, HFZ.out⟩
              case measure => simp [intOf]; omega
          · have HSU := Lib.hid (HSK.out (fun q => h28 q.1.1))
            go_wp2_with fail
            go_roundw
            case rel => exact ⟨k + 1, sum, T, by omega, hsm, by go_num, rfl, by omega, HSU.out, by rw [← HM.out]; exact HOZ.out, HFZ.out⟩
            case measure => simp [intOf]; omega
        · have hkk : k = ds.length := by omega
          subst hkk
          have hTe : T = wrS nn 0 ds := by
            have q := hT
            rw [List.drop_length] at q
            simpa [wrS] using q
          have hG5 : GrowS wr L1 ds nn (L1 ++ [grC nn] ++ wrS nn 0 ds) := grow_script (HOK.out.fr hF) (HOK2.out.fr hF) (by rw [← HL1.out, HL.out, List.take_length]) (by omega) (by omega) hsum
          rw [← hTe, ← hM] at hG5
          obtain ⟨s1, hs1⟩ := hG5.one
          have hmM : m ≤ M.length := by rw [hM, HMM.out]; simp only [List.length_append, List.length_cons, List.length_nil]; omega
          have hrun := rooms_run M A8 q8 ea eu wr (Own.readsAt Cl.cells_len (by decide) (by have k := hO; exact k)) hG5.script hG5.mild hG5.h28 (by omega) hG5.sz ((HG.out.fr0 (Nat.le_refl _) hF).up hF.size)
          have HRUN := Lib.hid hrun
          have HG5 := Lib.hid hG5
          have HS1 := Lib.hid hs1
          clear hrun hG5 hs1 hTe hT hM hO hF HT HO HO5 HF5 HO1 HF3
          go_wp2_with fail
          refine HRUN.out.mono ?_
          rintro e w5 ⟨yb, ov, db, gb, gs, vs, rfl, hI⟩
          obtain ⟨rr, cap, rfl, hcap, hroom⟩ := hI.room
          obtain ⟨gm, hgm, hfit, hsame⟩ := caps HG5.out.eq hI HG5.out.mild1 HS1.out hnn
          rw [← HMM.out] at hgm hsame
          obtain ⟨gi, rm, qm, e1, hcm, hum⟩ := hroom.at' m hmM
          rw [hgm] at e1
          injection e1 with e1
          subst e1
          have hmt := hI.txt m gm hgm
          have hkept := (runF_kept HG5.out.mild (show (yb1 []).ok from fun i s h => by simp [yb1] at h) m hmM).tot
          rw [hmt] at hkept
          have htot0 : (yb1 []).tot = 0 := by simp [yb1, Yd.tot, Yd.texts, tsum]
          have htot1 : (yb1 gm.txt).tot = gm.txt.length := by simp [yb1, Yd.tot, Yd.texts, tsum]
          have hwt := wsum_take M m
          have hwm := HG5.out.sz
          obtain ⟨s2, hs2⟩ : ∃ s2, s2 = gm.txt.length + nn := ⟨_, rfl⟩
          have hadd2 : IntKind.i64.wrap ((gm.txt.length : Int) + (nn : Int)) = (s2 : Int) := by rw [IntWalk.i64_in _ (by omega)]; omega
          have hge : (s2 : Int) ≤ (gm.cap : Int) := by omega
          obtain ⟨K, hK⟩ : ∃ K, K = M.length + 1 := ⟨_, rfl⟩
          have hadd3 : IntKind.i64.wrap ((M.length : Int) + 1) = (K : Int) := by rw [IntWalk.i64_in _ (by omega)]; omega
          rw [← hK] at hcap ⊢
          obtain ⟨N, hN⟩ : ∃ N, N = K - m := ⟨_, rfl⟩
          obtain ⟨cq, hcq⟩ : ∃ cq, cq = cap - m := ⟨_, rfl⟩
          have hsl := fun w' => slice_rooms_from rr K cap m (by omega) (by omega) w'
          rw [← hN, ← hcq] at hsl
          have m0 := hum 0 _ rfl
          have m1 := hum 1 _ rfl
          have m2 := hum 2 _ rfl
          have m3 := hum 3 _ rfl
          have m4 := hum 4 _ rfl
          have hmK : (m : Int) < (K : Int) := by omega
          have hNb : N ≤ 8194 := by omega
          have hm0 : (0 : Int) ≤ (m : Int) := by omega
          have HFE := Lib.hid (HF.out.trans hI.fr)
          have HROOM := Lib.hid hroom
          have HSAME := Lib.hid hsame
          have HKM := Lib.hid hK
          have HNK := Lib.hid hN
          clear hI hroom hsame hmt hkept hwt hwm htot0 htot1 hum hK hN hs2 hcq hgm hfit
          go_wp2_with fail
          go_loopw [105] (fun v105 wr => ∃ j : Nat, j ≤ N ∧ v105 = .int .i64 (j : Int) ∧ Fr (fun _ => False) (w5.alloc (.cells #[.int .i64 (gm.txt.length : Int), .int .i64 (gm.cap : Int), .int .i64 0, .int .i64 0, .int .i64 0] 34)) wr) (fun v105 _ => N - (intOf v105).toNat)
          case atStart => exact ⟨0, Nat.zero_le _, rfl, Fr.refl _ _⟩
          case round =>
            obtain ⟨j, hj, rfl, hFR⟩ := hrel
            have hFB := (fr_one w5 (.cells #[.int .i64 (gm.txt.length : Int), .int .i64 (gm.cap : Int), .int .i64 0, .int .i64 0, .int .i64 0] 34)).trans hFR
            have hbx := hFR.blk (heap_alloc_new w5 (.cells #[.int .i64 (gm.txt.length : Int), .int .i64 (gm.cap : Int), .int .i64 0, .int .i64 0, .int .i64 0] 34)) (fun q => q)
            have b0 : wr.cell? ⟨w5.heap.size, 0, none⟩ = some (.int .i64 (gm.txt.length : Int)) := by rw [cell_of_row _ _ 0 _ _ _ hbx]; rfl
            have b1 : wr.cell? ⟨w5.heap.size, 1, none⟩ = some (.int .i64 (gm.cap : Int)) := by rw [cell_of_row _ _ 1 _ _ _ hbx]; rfl
            have HFB := Lib.hid hFB
            by_cases hjl : j < N
            · obtain ⟨gj, rj, qj, ej, hcj, huj⟩ := HROOM.out.at' (m + j) (by have := HKM.out; have := HNK.out; omega)
              have hcj' := HSAME.out j gj ej
              have hu1 := keep1 hFB (huj 1 _ rfl)
              have hc1 := keep1 hFB hcj
              rw [hcj'] at hu1
              have hji : (j : Int) < (N : Int) := by omega
              have hj0 : (0 : Int) ≤ (j : Int) := by omega
              clear huj hcj hbx hFB
              go_wp2_with fail
              go_region
              go_wp2_with fail
              go_roundw
              case rel => exact ⟨j + 1, by omega, by go_num, by (repeat (with_reducible first | exact hFR | refine Fr.drewN ?_ _ | refine Fr.drew ?_))⟩
              case measure => simp [intOf]; omega
            · have hjn : j = N := by omega
              subst hjn
              clear hbx hFB
              go_wp2_with fail
              go_ret
              exact ⟨rfl, HFE.out.trans HFB.out⟩
end Go.Proofs.YtkggebhkjgjijaaGreatDoor
