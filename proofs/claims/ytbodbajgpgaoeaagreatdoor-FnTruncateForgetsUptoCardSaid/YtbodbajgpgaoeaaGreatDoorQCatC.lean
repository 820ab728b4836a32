/- slices.Grow of nothing, and slices.Concat, of calls. -/
import Derived.Test.YtbodbajgpgaoeaaGreatDoorQ20
import Derived.Lib.AppendZeros
namespace Go.Proofs.YtbodbajgpgaoeaaGreatDoor
open Go Go.RowKit

theorem info_callU : (Tryz.prog.info? 36).map (fun i => (i.zero, i.size, i.bytes)) = some (some (.agg #[.int .i64 0, .int .i64 0, .int .i64 0, .int .u16 0, .int .i64 0, .int .u8 0, .int .i32 0, .string ⟨#[]⟩, .slice none 0 0]), 9, 88) := by kernel_rfl
theorem slice_calls_to (A : Option Addr) (n c h : Nat) (hh : h ≤ c) (w : World) : (Instr.slice 25 (.slice A n c) none (some (.int .i64 (h : Int))) none).run Tryz.prog w = .ok (.slice A h c) w := by
  obtain ⟨i0, hi, hz0, hz1, hz2⟩ := info_parts info_callU
  have h1 : (0 : Int) ≤ (h : Int) := by omega
  have h2 : (h : Int) ≤ (c : Int) := by omega
  cases A <;> simp [Instr.slice, run_underlying Tryz.underlying25, Instr.sliceBounds, run_sliceBound, sizeOf, typeInfo, hi, h1, h2, Addr.add]
def GrowC (w : World) (e : Ending) (w' : World) : Prop := ∃ v, e = .returned v ∧ OwnC w' w.heap.size v [] ∧ Fr (fun _ => False) w w'
set_option maxHeartbeats 1600000 in
set_option maxRecDepth 100000 in
theorem grow_calls (n : Nat) (w : World) (hn : n ≤ 4294967296) :
    Calls Tryz.prog 40 #[.slice none 0 0, .int .i64 (n : Int)] w (GrowC w) := by
  have hn0 : ¬ ((n : Int) < 0) := by omega
  have hsub : IntKind.i64.wrap ((n : Int) - 0) = (n : Int) := by rw [IntWalk.i64_in _ (by omega)]; omega
  have hwn : IntKind.i64.wrap (n : Int) = (n : Int) := IntWalk.i64_in _ (by omega)
  have hwn2 : wrap64 (n : Int) = (n : Int) := IntWalk.wrap64_in _ (by omega)
  by_cases h0 : n = 0
  · subst h0
    go_enter Tryz.func40, Tryz.ntmps40
    go_wp2_with fail
    go_ret
    exact ⟨_, rfl, Own.nil _ _ _ _, Fr.refl _ w⟩
  obtain ⟨i0, hi, hz0, hz1, hz2⟩ := info_parts info_callU
  have hr := fun ty => Lib.run_append_nil_zeros (P := Tryz.prog) w 25 3 ty 36 i0 _ .i64 .i64 Tryz.underlying25 Tryz.underlying3 hi hz0 n (by omega) (by omega) (by omega) (by rw [hz2]; omega)
  have hgt : (0 : Int) < (n : Int) := by omega
  have HBLK := Lib.hid (show ∀ X, ((w.alloc (.cells X 36)).drew).heap[w.heap.size]? = some (.cells X 36 (0, 0)) from fun X => ((Fr.refl (fun _ => False) _).drew).blk (heap_alloc_new w _) (fun q => q))
  have HLE := Lib.hid (And.intro (grownCap_ge w n 0 36) (grownCap_le_maxLen w n 0 36 (by unfold maxLen; omega)))
  have hsl0 := fun w' => slice_calls_to none 0 0 0 (Nat.le_refl _) w'
  have HR := Lib.hid hr
  clear hr
  go_enter Tryz.func40, Tryz.ntmps40
  go_wp2_with (at_builtin; refine Lib.wpList_append_run _ rfl _ _ _ _ rfl _ _ rfl rfl _ _ (HR.out _) ?_)
  go_ret
  refine ⟨_, rfl, ⟨rfl, .inr ⟨w.heap.size, _, _, rfl, Nat.le_refl _, HBLK.out _, Nat.zero_le _, HLE.out.2, ?_, by simp [cls]⟩⟩, ((Fr.refl (fun _ => False) w).alloc _).drew⟩
  have hge := HLE.out.1
  rw [Array.size_append, size_zeroCells, size_zeroCells]
  show n * 9 + (grownCap w n 0 36 - n) * 9 = grownCap w n 0 36 * 9
  omega
/-- A slice of calls that is to be joined. -/
structure SlC where
  ad : Option Addr
  l : List Cl
  cap : Nat
def flatC (ls : List SlC) : List Cl := ls.flatMap fun x => x.l
theorem flatC_succ {ls : List SlC} {k : Nat} {x : SlC} (h : ls[k]? = some x) : flatC (ls.take (k + 1)) = flatC (ls.take k) ++ x.l := by
  obtain ⟨hl, e⟩ := List.getElem?_eq_some_iff.1 h
  rw [List.take_succ_eq_append_getElem hl, e]
  simp [flatC]
theorem flatC_take (ls : List SlC) (k : Nat) : (flatC (ls.take k)).length ≤ (flatC ls).length := by
  have h : flatC ls = flatC (ls.take k) ++ flatC (ls.drop k) := by
    unfold flatC
    rw [← List.flatMap_append, List.take_append_drop]
  rw [h, List.length_append]
  omega
structure SlOk (w : World) (x : SlC) : Prop where
  r : Reads Cl.cells 9 w x.ad x.l
  z : x.ad = none → x.l = [] ∧ x.cap = 0
set_option maxHeartbeats 3200000 in
set_option maxRecDepth 100000 in
theorem concat_calls (g c : Nat) (ls : List SlC) (w : World) (hc : ∀ i x, ls[i]? = some x → w.cell? ⟨g, i, none⟩ = some (.slice x.ad x.l.length x.cap)) (hok : ∀ x ∈ ls, SlOk w x) (hn : (flatC ls).length ≤ 2147483648) (hl : ls.length ≤ 1048576) :
    Calls Tryz.prog 22 #[.slice (some ⟨g, 0, none⟩) ls.length c] w (CalmPost w (flatC ls)) := by
  have HC := Lib.hid hc
  have HOK := Lib.hid hok
  clear hc hok
  go_enter Tryz.func22, Tryz.ntmps22
  go_wp2_with fail
  go_loopw [3, 11] (fun v3 v11 wr => ∃ k : Nat, k ≤ ls.length ∧ v11 = .int .i64 (k : Int) ∧ v3 = .int .i64 ((flatC (ls.take k)).length : Int) ∧ Hid (wr = w)) (fun _ v11 _ => ls.length - (intOf v11).toNat)
  case atStart => exact ⟨0, Nat.zero_le _, rfl, by simp [flatC], Lib.hid rfl⟩
  case round =>
    obtain ⟨k, hk, rfl, rfl, hw⟩ := hrel
    have hw' : w = wr := hw.out.symm
    subst hw'
    by_cases hlt : k < ls.length
    · obtain ⟨x, hx⟩ : ∃ x, ls[k]? = some x := ⟨_, List.getElem?_eq_getElem hlt⟩
      have c0 := HC.out k x hx
      have hs := flatC_succ hx
      have ht := flatC_take ls (k + 1)
      obtain ⟨n1, hn1⟩ : ∃ n1, n1 = (flatC (ls.take k)).length := ⟨_, rfl⟩
      obtain ⟨n2, hn2⟩ : ∃ n2, n2 = (flatC (ls.take (k + 1))).length := ⟨_, rfl⟩
      have hn3 : n2 = n1 + x.l.length := by rw [hn2, hs, List.length_append, hn1]
      rw [← hn1]
      have hadd : IntKind.i64.wrap ((n1 : Int) + (x.l.length : Int)) = (n2 : Int) := by rw [IntWalk.i64_in _ (by omega)]; omega
      have hneg : ¬ ((n2 : Int) < 0) := by omega
      have hki : (k : Int) < (ls.length : Int) := by omega
      have hk0 : (0 : Int) ≤ (k : Int) := by omega
      have HN2 := Lib.hid hn2
      clear hs ht hn1 hn2 hn3 hx
      go_wp2_with fail
      go_roundw
      case rel => exact ⟨k + 1, by omega, by go_num, by rw [← HN2.out], trivial⟩
      case measure => simp [intOf]; omega
    · have hkk : k = ls.length := by omega
      subst hkk
      rw [List.take_length]
      go_wp2_with fail
      refine (grow_calls (flatC ls).length w (by omega)).mono ?_
      rintro e w2 ⟨v, rfl, hown, F2⟩
      obtain ⟨A, q, rfl⟩ := hown.value
      have HOWN := Lib.hid hown
      have HF2 := Lib.hid F2
      clear hown F2
      go_wp2_with fail
      rename World => wz
      go_loopw [6, 27] (fun v6 v27 wr => ∃ k : Nat, k ≤ ls.length ∧ v27 = .int .i64 (k : Int) ∧ OwnC wr w.heap.size v6 (flatC (ls.take k)) ∧ Fr (fun _ => False) w wr) (fun _ v27 _ => ls.length - (intOf v27).toNat)
      case atStart => exact ⟨0, Nat.zero_le _, rfl, HOWN.out, HF2.out⟩
      case round =>
        obtain ⟨k, hk, rfl, hO, hF⟩ := hrel
        obtain ⟨A6, q6, rfl⟩ := hO.value
        have HO := Lib.hid hO
        have HF := Lib.hid hF
        by_cases hlt : k < ls.length
        · obtain ⟨x, hx⟩ : ∃ x, ls[k]? = some x := ⟨_, List.getElem?_eq_getElem hlt⟩
          have c0 := HC.out k x hx
          have c0' := (hF.cell (World.block_lt_of_cell? _ _ c0) (fun q => q)).trans c0
          obtain ⟨xr, xz⟩ := HOK.out x (List.mem_of_getElem? hx)
          have HXR := Lib.hid (xr.fr0 hF)
          have HXZ := Lib.hid xz
          have hs := flatC_succ hx
          have ht := flatC_take ls (k + 1)
          rw [hs, List.length_append] at ht
          have HS := Lib.hid hs
          have hki : (k : Int) < (ls.length : Int) := by omega
          have hk0 : (0 : Int) ≤ (k : Int) := by omega
          clear hO hF hx c0 xr xz hs
          go_wp2_with (refine wpList_copy elem_call Cl.cells_len cl_one rfl (.tmp 31) (.tmp 32) rfl w.heap.size _ (flatC (ls.take k)).length (cls (flatC (ls.take k))) x.ad x.cap x.l (by rfl) (by rfl) HO.out HXR.out HXZ.out (by omega) HF.out.size ?_)
          intro v' w' hown hfr hat
          have hown' : OwnC w' w.heap.size v' (flatC (ls.take (k + 1))) := by
            unfold OwnC
            rw [HS.out, List.length_append, cls_append]
            exact hown
          have HOW := Lib.hid hown'
          have HFW := Lib.hid (HF.out.trans' hfr (fun y hy q => by have := HO.out.blk_ge q; omega))
          clear hown hown' hfr hat
          go_wp2_with fail
          go_roundw
          case rel => exact ⟨k + 1, by omega, by go_num, HOW.out, HFW.out⟩
          case measure => simp [intOf]; omega
        · have hkk : k = ls.length := by omega
          subst hkk
          rw [List.take_length] at hO ⊢
          have HOE := Lib.hid hO
          clear hO HO
          go_wp2_with fail
          go_ret
          exact ⟨_, rfl, HOE.out, HF.out⟩
end Go.Proofs.YtbodbajgpgaoeaaGreatDoor
