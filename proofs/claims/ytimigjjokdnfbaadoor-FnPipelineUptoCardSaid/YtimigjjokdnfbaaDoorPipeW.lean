/- laws.FnPipeline: the walk. -/
import Derived.Test.YtimigjjokdnfbaaDoorLawK
import Derived.Test.YtimigjjokdnfbaaDoorPipe
namespace Go.Proofs.YtimigjjokdnfbaaDoor
open Go Go.RowKit

def gvsF (k : Nat) : List Cl := (List.range k).map gvC
def tksG (last k : Nat) : List Cl := (List.range k).map (fun i => tkC last (last - 1 - i))
def smsF (texts : List (List UInt8)) (k : Nat) : List Td := (List.range k).map (fun i => Td.ofN ((tsum (texts.take (i + 1)) : Nat) : Int))
def cntF (texts : List (List UInt8)) (last k : Nat) : List Td := (List.range k).map (fun i => Td.ofN (((texts.getD (last - 1 - i) []).length : Nat) : Int))
theorem gvsF_succ (k : Nat) : gvsF (k + 1) = gvsF k ++ [gvC k] := by simp [gvsF, List.range_succ]
theorem tksG_succ (last k : Nat) : tksG last (k + 1) = tksG last k ++ [tkC last (last - 1 - k)] := by simp [tksG, List.range_succ]
theorem smsF_succ (texts : List (List UInt8)) (k : Nat) : smsF texts (k + 1) = smsF texts k ++ [Td.ofN ((tsum (texts.take (k + 1)) : Nat) : Int)] := by simp [smsF, List.range_succ]
theorem cntF_succ (texts : List (List UInt8)) (last k : Nat) : cntF texts last (k + 1) = cntF texts last k ++ [Td.ofN (((texts.getD (last - 1 - k) []).length : Nat) : Int)] := by simp [cntF, List.range_succ]
theorem tsum_take_succ {texts : List (List UInt8)} {k : Nat} {t : List UInt8} (h : texts[k]? = some t) : tsum (texts.take (k + 1)) = tsum (texts.take k) + t.length := by
  obtain ⟨hl, e⟩ := List.getElem?_eq_some_iff.1 h
  rw [List.take_succ_eq_append_getElem hl, e]
  simp [tsum]
theorem tsum_take_le (texts : List (List UInt8)) (k : Nat) : tsum (texts.take k) ≤ tsum texts := by
  have : tsum texts = tsum (texts.take k) + tsum (texts.drop k) := by
    simp only [tsum, List.map_take, List.map_drop]
    rw [← List.sum_append, List.take_append_drop]
  omega
theorem tsum_flat (l : List (List UInt8)) : l.reverse.flatten.length = tsum l := by
  rw [List.length_flatten, tsum, List.map_reverse, List.sum_reverse]
/-- How far the second loop has come. -/
structure PiI (w wr : World) (texts : List (List UInt8)) (last k : Nat) (v3 v8 v9 v10 v11 : Value) : Prop where
  o3 : Own 32 3 wr w.heap.size v3 texts.length (sts (texts.map stP))
  o8 : Own 26 9 wr w.heap.size v8 k (cls (gvsF k))
  o9 : Own 26 9 wr w.heap.size v9 k (cls (tksG last k))
  o10 : Own 35 4 wr w.heap.size v10 k (tds (cntF texts last k))
  o11 : Own 35 4 wr w.heap.size v11 k (tds (smsF texts k))
  a8 : ∀ x, v8.ownBlock = some x → v9.ownBlock ≠ some x
  a10 : ∀ x, v10.ownBlock = some x → v11.ownBlock ≠ some x
  fr : Fr (fun _ => False) w wr
/-- The same in the midst of a round: so many calls and so many told. -/
structure PiM (w wr : World) (texts : List (List UInt8)) (last k8 k11 k9 k10 : Nat) (v3 v8 v9 v10 v11 : Value) : Prop where
  o3 : Own 32 3 wr w.heap.size v3 texts.length (sts (texts.map stP))
  o8 : Own 26 9 wr w.heap.size v8 k8 (cls (gvsF k8))
  o9 : Own 26 9 wr w.heap.size v9 k9 (cls (tksG last k9))
  o10 : Own 35 4 wr w.heap.size v10 k10 (tds (cntF texts last k10))
  o11 : Own 35 4 wr w.heap.size v11 k11 (tds (smsF texts k11))
  a8 : ∀ x, v8.ownBlock = some x → v9.ownBlock ≠ some x
  a10 : ∀ x, v10.ownBlock = some x → v11.ownBlock ≠ some x
  fr : Fr (fun _ => False) w wr
section
variable {w wr w2 : World} {texts : List (List UInt8)} {last k8 k11 k9 k10 : Nat} {v3 v8 v9 v10 v11 : Value} {g cap : Nat} {o : Obj}
theorem PiM.app8 (h : PiM w wr texts last k8 k11 k9 k10 v3 v8 v9 v10 v11) (hown : Own 26 9 w2 w.heap.size (.slice (some ⟨g, 0, none⟩) (k8 + 1) cap) (k8 + 1) (cls (gvsF k8) ++ (gvC k8).cells)) (hfr : Fr (fun x => v8.ownBlock = some x) (wr.alloc o) w2) (hat : v8.ownBlock = some g ∨ wr.heap.size + 1 ≤ g) :
    PiM w w2 texts last (k8 + 1) k11 k9 k10 v3 (.slice (some ⟨g, 0, none⟩) (k8 + 1) cap) v9 v10 v11 := by
  have d9 : ∀ x, v9.ownBlock = some x → v8.ownBlock ≠ some x := fun x q r => h.a8 x r q
  refine ⟨h.o3.keep (h.o3.other h.o8 (by decide)) hfr, ?_, h.o9.keep d9 hfr, h.o10.keep (h.o10.other h.o8 (by decide)) hfr, h.o11.keep (h.o11.other h.o8 (by decide)) hfr, fun x q r => h.o9.apart d9 hat x r q, h.a10, h.o8.grown h.fr hfr⟩
  rw [gvsF_succ, cls_append, cls_one]
  exact hown
theorem PiM.app9 (h : PiM w wr texts last k8 k11 k9 k10 v3 v8 v9 v10 v11) (hown : Own 26 9 w2 w.heap.size (.slice (some ⟨g, 0, none⟩) (k9 + 1) cap) (k9 + 1) (cls (tksG last k9) ++ (tkC last (last - 1 - k9)).cells)) (hfr : Fr (fun x => v9.ownBlock = some x) (wr.alloc o) w2) (hat : v9.ownBlock = some g ∨ wr.heap.size + 1 ≤ g) :
    PiM w w2 texts last k8 k11 (k9 + 1) k10 v3 v8 (.slice (some ⟨g, 0, none⟩) (k9 + 1) cap) v10 v11 := by
  refine ⟨h.o3.keep (h.o3.other h.o9 (by decide)) hfr, h.o8.keep h.a8 hfr, ?_, h.o10.keep (h.o10.other h.o9 (by decide)) hfr, h.o11.keep (h.o11.other h.o9 (by decide)) hfr, h.o8.apart h.a8 hat, h.a10, h.o9.grown h.fr hfr⟩
  rw [tksG_succ, cls_append, cls_one]
  exact hown
theorem PiM.app10 (h : PiM w wr texts last k8 k11 k9 k10 v3 v8 v9 v10 v11) (hown : Own 35 4 w2 w.heap.size (.slice (some ⟨g, 0, none⟩) (k10 + 1) cap) (k10 + 1) (tds (cntF texts last k10) ++ (Td.ofN (((texts.getD (last - 1 - k10) []).length : Nat) : Int)).cells)) (hfr : Fr (fun x => v10.ownBlock = some x) (wr.alloc o) w2) (hat : v10.ownBlock = some g ∨ wr.heap.size + 1 ≤ g) :
    PiM w w2 texts last k8 k11 k9 (k10 + 1) v3 v8 v9 (.slice (some ⟨g, 0, none⟩) (k10 + 1) cap) v11 := by
  have d11 : ∀ x, v11.ownBlock = some x → v10.ownBlock ≠ some x := fun x q r => h.a10 x r q
  refine ⟨h.o3.keep (h.o3.other h.o10 (by decide)) hfr, h.o8.keep (h.o8.other h.o10 (by decide)) hfr, h.o9.keep (h.o9.other h.o10 (by decide)) hfr, ?_, h.o11.keep d11 hfr, h.a8, fun x q r => h.o11.apart d11 hat x r q, h.o10.grown h.fr hfr⟩
  rw [cntF_succ, tds_append, tds_one]
  exact hown
theorem PiM.app11 (h : PiM w wr texts last k8 k11 k9 k10 v3 v8 v9 v10 v11) (hown : Own 35 4 w2 w.heap.size (.slice (some ⟨g, 0, none⟩) (k11 + 1) cap) (k11 + 1) (tds (smsF texts k11) ++ (Td.ofN ((tsum (texts.take (k11 + 1)) : Nat) : Int)).cells)) (hfr : Fr (fun x => v11.ownBlock = some x) (wr.alloc o) w2) (hat : v11.ownBlock = some g ∨ wr.heap.size + 1 ≤ g) :
    PiM w w2 texts last k8 (k11 + 1) k9 k10 v3 v8 v9 v10 (.slice (some ⟨g, 0, none⟩) (k11 + 1) cap) := by
  refine ⟨h.o3.keep (h.o3.other h.o11 (by decide)) hfr, h.o8.keep (h.o8.other h.o11 (by decide)) hfr, h.o9.keep (h.o9.other h.o11 (by decide)) hfr, h.o10.keep h.a10 hfr, ?_, h.a8, h.o10.apart h.a10 hat, h.o11.grown h.fr hfr⟩
  rw [smsF_succ, tds_append, tds_one]
  exact hown
end
theorem PiM.value3 {w wr : World} {texts : List (List UInt8)} {last k8 k11 k9 k10 : Nat} {v3 v8 v9 v10 v11 : Value} (h : PiM w wr texts last k8 k11 k9 k10 v3 v8 v9 v10 v11) : ∃ A3 c3, v3 = .slice A3 texts.length c3 := h.o3.value
theorem made_strs (n : Nat) : (madeCells #[Value.string ⟨#[]⟩] n).toList = strs (List.replicate n []) := by
  apply List.ext_getElem
  · simp [madeCells]
  · intro i h1 h2
    simp [madeCells, strs, strV, Nat.mod_one]
theorem make_strs (n : Nat) (hn : n ≤ 4294967296) (w : World) : (Instr.makeSlice 28 (.int .i64 (n : Int)) (.int .i64 (n : Int))).run Tryd.prog w = .ok (.slice (some ⟨w.heap.size, 0, none⟩) n n) (w.alloc (.cells (madeCells #[Value.string ⟨#[]⟩] n) 9)) := by
  obtain ⟨i0, hi, hz0, hz1, hz2⟩ := info_parts (show (Tryd.prog.info? 9).map (fun i => (i.zero, i.size, i.bytes)) = some (some (.string ⟨#[]⟩), 1, 16) by kernel_rfl)
  have hr := run_make (P := Tryd.prog) w 28 9 i0 _ Tryd.underlying28 hi hz0 .i64 .i64 n n (by omega) (by omega) (by rw [hz2]; omega) (by omega)
  simp only [Int.toNat_natCast, hz1, Nat.mul_one, Value.cells] at hr
  exact hr
theorem Own.made (n : Nat) (hn : n ≤ 4294967296) (w : World) {base : Nat} (hb : base ≤ w.heap.size) : Own 9 1 (w.alloc (.cells (madeCells #[Value.string ⟨#[]⟩] n) 9)) base (.slice (some ⟨w.heap.size, 0, none⟩) n n) n (strs (List.replicate n [])) :=
  ⟨by simp, .inr ⟨_, n, _, rfl, hb, heap_alloc_new w _, Nat.le_refl _, by unfold maxLen; omega, by simp [madeCells], by rw [made_strs, List.take_of_length_le (by simp)]⟩⟩
theorem pipe_script (texts : List (List UInt8)) (last : Nat) (h : texts.length = last + 1) (l : List Cl) (hl : ∀ c ∈ l, (∃ i, i < last ∧ c = gvC i) ∨ ∃ i, i < last ∧ c = tkC last i) (w : World) : Script w (Yd.begin (texts.map stP) 0) l := by
  have hb : (Yd.begin (texts.map stP) 0).bufs.length = last + 1 := by simp [Yd.begin, h]
  have hU : U16s w none [] := ⟨by simp, fun q => absurd q (by simp)⟩
  refine ⟨fun c hc => ?_, fun c hc => ?_, fun c hc => ?_⟩
  · rcases hl c hc with ⟨i, _, rfl⟩ | ⟨i, _, rfl⟩
    · exact ⟨by simp [gvC], hU, by simp [gvC], by simp [gvC]⟩
    · exact ⟨by simp [tkC], hU, by simp [tkC], by simp [tkC]⟩
  · rcases hl c hc with ⟨i, _, rfl⟩ | ⟨i, _, rfl⟩
    · exact .inr (.inl (.inl rfl))
    · exact .inr (.inl (.inr rfl))
  · rcases hl c hc with ⟨i, hi, rfl⟩ | ⟨i, hi, rfl⟩
    · unfold Cl.there
      rw [if_neg (by simp [gvC]), hb]
      exact ⟨⟨by simp [gvC], by simp [gvC]; omega⟩, fun _ => ⟨⟨by simp [gvC]; omega, by simp [gvC]; omega⟩, by simp [gvC]; omega⟩⟩
    · unfold Cl.there
      rw [if_neg (by simp [tkC]), hb]
      exact ⟨⟨by simp [tkC], by simp [tkC]; omega⟩, fun _ => ⟨⟨by simp [tkC], by simp [tkC]; omega⟩, by simp [tkC]; omega⟩⟩
theorem pipe_wsum (l : List Cl) (hl : ∀ c ∈ l, c.text.length ≤ 0) : wsum l ≤ l.length * 4 := wsum_le 0 l hl
/-- A script of this law is played. -/
theorem run_pipe (texts : List (List UInt8)) (last : Nat) (h : texts.length = last + 1) (h4 : last ≤ 4096) (ht : tsum texts ≤ 1048576) (l : List Cl) (hl : ∀ c ∈ l, (∃ i, i < last ∧ c = gvC i) ∨ ∃ i, i < last ∧ c = tkC last i) (hll : l.length = last) (hm : Mild (Yd.begin (texts.map stP) 0) l) (A A' : Option Addr) (c c' : Nat) (ea eu : Addr) (w : World) (hR : Reads St.cells 3 w A (texts.map stP)) (hC : Reads Cl.cells 9 w A' l) (hG : Gl w.heap.size ea eu w) :
    Calls Tryd.prog 5 #[.slice A texts.length c, .int .u8 0, .slice A' last c'] w fun e w' => ∃ v1 v2 v3, e = .returned (.tuple #[v1, v2, v3]) ∧ Own 35 4 w' w.heap.size v1 last (tds (runF (Yd.begin (texts.map stP) 0) l).1) ∧ Own 9 1 w' w.heap.size v2 (last + 1) (strs (runF (Yd.begin (texts.map stP) 0) l).2.texts) ∧ Fr (fun _ => False) w w' := by
  have hw : wsum l ≤ l.length * 4 := pipe_wsum l (fun c hc => by rcases hl c hc with ⟨i, _, rfl⟩ | ⟨i, _, rfl⟩ <;> simp [gvC, tkC])
  have hto : (Yd.begin (texts.map stP) 0).tot = tsum texts := by unfold Yd.tot; rw [begin_texts]; simp [Yd.begin, tsum]
  have hrun := run_any (texts.map stP) 0 A c l A' c' ea eu w hR (fun s hs => by obtain ⟨t, h1, rfl⟩ := List.mem_map.1 hs; obtain ⟨k, hk⟩ := List.getElem?_of_mem h1; have := tsum_mem texts k t hk; exact ⟨by simp [stP]; omega, by simp [stP]⟩) (by simp; omega) (by omega) hC (pipe_script texts last h l hl w) hm (fun i s hs => by simp only [Yd.begin, List.getElem?_map, Option.map_eq_some_iff] at hs; obtain ⟨a, _, rfl⟩ := hs; simp) (by omega) (by rw [hto]; omega) hG
  have e1 : (texts.map stP).length = texts.length := by simp
  rw [e1, hll] at hrun
  refine Calls.mono hrun ?_
  rintro e w' ⟨v1, v2, v3, rfl, h1, h2, h3, hf⟩
  have hb : (Yd.begin (texts.map stP) 0).bufs.length = last + 1 := by simp [Yd.begin, h]
  rw [hll] at h1
  rw [hb] at h2
  exact ⟨v1, v2, v3, rfl, h1, h2, hf⟩

set_option maxHeartbeats 3200000 in
set_option maxRecDepth 100000 in
theorem pipeline_any (texts : List (List UInt8)) (A : Option Addr) (c : Nat) (ea eu : Addr) (w : World) (hA : Reads strC 1 w A texts) (hG : Gl w.heap.size ea eu w) (h1 : tsum texts ≤ 1048576) (h2 : texts.length ≤ 1048576) :
    Calls Tryd.prog 4 #[.slice A texts.length c] w (LawPost w) := by
  have HA := Lib.hid hA
  have HG := Lib.hid hG
  clear hA hG
  by_cases hz : texts.length = 0
  · have hzb : ((texts.length : Int) == 0) = true := by rw [beq_iff_eq]; omega
    go_enter Tryd.func4, Tryd.ntmps4
    go_wp2_with fail
    refine (ready_any ea eu w HG.out).mono ?_
    rintro e w1 ⟨rfl, F1⟩
    go_wp2_with fail
    go_ret
    exact ⟨rfl, F1⟩
  have hzb : ((texts.length : Int) == 0) = false := by rw [beq_eq_false_iff_ne]; omega
  by_cases hgt : 4096 < (texts.length : Int)
  · go_enter Tryd.func4, Tryd.ntmps4
    go_wp2_with fail
    refine (ready_any ea eu w HG.out).mono ?_
    rintro e w1 ⟨rfl, F1⟩
    go_wp2_with fail
    go_ret
    exact ⟨rfl, F1⟩
  obtain ⟨last, hlast⟩ : ∃ last, texts.length = last + 1 := ⟨texts.length - 1, by omega⟩
  have hsub : IntKind.i64.wrap ((texts.length : Int) - 1) = (last : Int) := by rw [IntWalk.i64_in _ (by omega)]; omega
  have HLAW := Lib.hid (pipe_law texts last hlast)
  have HLAST := Lib.hid hlast
  have hl4 : last ≤ 4096 := by omega
  clear hlast
  go_enter Tryd.func4, Tryd.ntmps4
  go_wp2_with fail
  go_loopw [3, 4, 32] (fun v3 v4 v32 wr => ∃ k : Nat, k ≤ texts.length ∧ v32 = .int .i64 (k : Int) ∧ v4 = .string ⟨((texts.take k).reverse.flatten).toArray⟩ ∧ Own 32 3 wr w.heap.size v3 k (sts ((texts.take k).map stP)) ∧ Fr (fun _ => False) w wr) (fun _ _ v32 _ => texts.length - (intOf v32).toNat)
  case atStart => exact ⟨0, Nat.zero_le _, rfl, rfl, Own.nil _ _ _ _, Fr.refl _ w⟩
  case round =>
    obtain ⟨k, hk, rfl, rfl, hO, hF⟩ := hrel
    by_cases hkl : k < texts.length
    · obtain ⟨t, ht⟩ : ∃ t, texts[k]? = some t := ⟨_, List.getElem?_eq_getElem hkl⟩
      obtain ⟨r, o, e1, hc⟩ := HA.out.at' k t ht
      subst e1
      have c0 := hc 0 _ rfl
      have c0' := (hF.cell (World.block_lt_of_cell? _ _ c0) (fun q => q)).trans c0
      simp only [Nat.add_zero, Nat.mul_one, strV] at c0'
      have hs := tsum_take_succ ht
      have hle := tsum_take_le texts (k + 1)
      have hfl := tsum_flat (texts.take k)
      obtain ⟨al, hal⟩ : ∃ al, al = (texts.take k).reverse.flatten := ⟨_, rfl⟩
      rw [← hal] at hfl ⊢
      have hlen : t.length + al.length ≤ 1048576 := by omega
      have hap := bytes_appL t al
      have HAL := Lib.hid hal
      clear hal
      have hki : (k : Int) < (texts.length : Int) := by omega
      have hk0 : (0 : Int) ≤ (k : Int) := by omega
      obtain ⟨A3, c3, rfl⟩ := hO.value
      have HO := Lib.hid hO
      have HF := Lib.hid hF
      have HT := Lib.hid ht
      clear hO hF ht hc c0 hs hle hfl
      go_wp2_with (refine wpList_app rfl elem_start (.tmp 36) (.tmp 39) rfl w.heap.size _ k _ (by rfl) (HO.out.fr ((Fr.refl (fun _ => False) wr).alloc (.cells #[.string ⟨t.toArray⟩, .int .i64 0, .int .u16 0] 32)) (fun _ _ q => q)) wr.heap.size (stP t).cells 32 (by rfl) (by exact heap_alloc_new wr _) rfl (by simp [St.cells, stP, Value.oneCell']) (by omega) (by first | (simp; done) | (have := HF.out.size; simp; omega)) ?_)
      intro gb cap w1 hown hfr hat hlt1
      have HOWN := Lib.hid hown
      have HFR := Lib.hid (HO.out.grown HF.out hfr)
      clear hown hfr hat hlt1
      go_wp2_with fail
      go_roundw
      case rel =>
        obtain ⟨hl, e⟩ := List.getElem?_eq_some_iff.1 HT.out
        refine ⟨k + 1, by omega, by go_num, ?_, ?_, HFR.out⟩
        · rw [List.take_succ_eq_append_getElem hl, e, HAL.out]
          simp
        · have e2 := HOWN.out
          rw [← List.map_take] at e2
          rw [List.take_succ_eq_append_getElem hl, e, List.map_append, sts_append, List.map_cons, List.map_nil, sts_one]
          exact e2
      case measure => simp [intOf]; omega
    · have hkk : k = texts.length := by omega
      subst hkk
      rw [List.take_length] at hO ⊢
      obtain ⟨A3, c3, rfl⟩ := hO.value
      have HO := Lib.hid hO
      have HF := Lib.hid hF
      clear hO hF
      go_wp2_with fail
      go_loopw [8, 9, 10, 11, 12, 49] (fun v8 v9 v10 v11 v12 v49 wr2 => ∃ k : Nat, k ≤ last ∧ v49 = .int .i64 (k : Int) ∧ v12 = .int .i64 ((tsum (texts.take k) : Nat) : Int) ∧ PiM w wr2 texts last k k k k (.slice A3 texts.length c3) v8 v9 v10 v11) (fun _ _ _ _ _ v49 _ => last - (intOf v49).toNat)
      case atStart => exact ⟨0, Nat.zero_le _, rfl, rfl, HO.out, Own.nil _ _ _ _, Own.nil _ _ _ _, Own.nil _ _ _ _, Own.nil _ _ _ _, fun x q => (by cases q), fun x q => (by cases q), HF.out⟩
      case round =>
        obtain ⟨k, hk, rfl, rfl, hM⟩ := hrel
        by_cases hkl : k < last
        · obtain ⟨t, ht⟩ : ∃ t, texts[k]? = some t := ⟨_, List.getElem?_eq_getElem (by have := HLAST.out; omega)⟩
          obtain ⟨t2, ht2⟩ : ∃ t2, texts[last - 1 - k]? = some t2 := ⟨_, List.getElem?_eq_getElem (by have := HLAST.out; omega)⟩
          obtain ⟨r, o, e1, hc⟩ := HA.out.at' k t ht
          obtain ⟨r', o', e1', hc'⟩ := HA.out.at' (last - 1 - k) t2 ht2
          subst e1
          injection e1' with e1'
          injection e1' with e2 e3
          subst e2 e3
          have c0 := hc 0 _ rfl
          have d0 := hc' 0 _ rfl
          simp only [Nat.add_zero, Nat.mul_one, strV] at c0 d0
          have c1 := (hM.fr.cell (World.block_lt_of_cell? _ _ c0) (fun q => q)).trans c0
          have hs := tsum_take_succ ht
          have hle := tsum_take_le texts (k + 1)
          have hgd : texts.getD (last - 1 - k) [] = t2 := by simp [List.getD, ht2]
          have hs1 : IntKind.i64.wrap (((tsum (texts.take k) : Nat) : Int) + (t.length : Int)) = ((tsum (texts.take (k + 1)) : Nat) : Int) := by rw [IntWalk.i64_in _ (by omega)]; omega
          have hi1 : IntKind.i64.wrap ((k : Int) + 1) = (k : Int) + 1 := IntWalk.i64_in _ (by omega)
          have hl1 : IntKind.i64.wrap ((last : Int) - 1) = (last : Int) - 1 := IntWalk.i64_in _ (by omega)
          have hl2 : IntKind.i64.wrap ((last : Int) - 1 - (k : Int)) = ((last - 1 - k : Nat) : Int) := by rw [IntWalk.i64_in _ (by omega)]; omega
          have hki : (k : Int) < (last : Int) := by omega
          have hkt : (k : Int) < (texts.length : Int) := by have := HLAST.out; omega
          have hk0 : (0 : Int) ≤ (k : Int) := by omega
          have hx0 : (0 : Int) ≤ ((last - 1 - k : Nat) : Int) := by omega
          have hx1 : ((last - 1 - k : Nat) : Int) < (texts.length : Int) := by have := HLAST.out; omega
          have htl : t.length ≤ 1048576 := by omega
          obtain ⟨A8, c8, rfl⟩ := hM.o8.value
          obtain ⟨A9, c9, rfl⟩ := hM.o9.value
          obtain ⟨A10, c10, rfl⟩ := hM.o10.value
          obtain ⟨A11, c11, rfl⟩ := hM.o11.value
          have HM := Lib.hid hM
          have HF := Lib.hid hM.fr
          have HC := Lib.hid c0
          have HD := Lib.hid d0
          have HGD := Lib.hid hgd
          clear hM hc hc' c0 d0 ht ht2 hs hle hgd
          go_wp2_with (refine wpList_app rfl elem_call (.tmp 59) (.tmp 64) rfl w.heap.size _ k _ (by rfl) (HM.out.o8.fr ((Fr.refl (fun _ => False) wr).alloc (.cells #[.int .i64 23, .int .i64 (k : Int), .int .i64 ((k : Int) + 1), .int .u16 0, .int .i64 0, .int .u8 0, .int .i32 0, .string ⟨#[]⟩, .slice none 0 0] 26)) (fun _ _ q => q)) wr.heap.size (gvC k).cells 26 (by rfl) (by exact heap_alloc_new wr _) rfl (by simp [Cl.cells, gvC, Value.oneCell']) (by omega) (by first | (simp; done) | (have := HF.out.size; simp; omega)) ?_)
          intro gb8 cap8 w1 hown hfr hat hlt1
          have hM1 := HM.out.app8 hown hfr hat
          have HM1 := Lib.hid hM1
          have HF := Lib.hid hM1.fr
          clear hown hfr hat hlt1 hM1
          go_wp2_with (refine wpList_app rfl elem_told (.tmp 66) (.tmp 69) rfl w.heap.size _ k _ (by rfl) (HM1.out.o11.fr ((Fr.refl (fun _ => False) w1).alloc (.cells #[.int .i64 ((tsum (texts.take (k + 1)) : Nat) : Int), .string ⟨#[]⟩, .int .i32 0, .int .i64 0] 35)) (fun _ _ q => q)) w1.heap.size (Td.ofN ((tsum (texts.take (k + 1)) : Nat) : Int)).cells 35 (by rfl) (by exact heap_alloc_new w1 _) rfl (by simp [Td.cells, Td.ofN, Value.oneCell']) (by omega) (by first | (simp; done) | (have := HF.out.size; simp; omega)) ?_)
          intro gb11 cap11 w2 hown hfr hat hlt1
          have hM2 := HM1.out.app11 hown hfr hat
          have HM2 := Lib.hid hM2
          have HF := Lib.hid hM2.fr
          clear hown hfr hat hlt1 hM2
          go_wp2_with (refine wpList_app rfl elem_call (.tmp 71) (.tmp 78) rfl w.heap.size _ k _ (by rfl) (HM2.out.o9.fr ((Fr.refl (fun _ => False) w2).alloc (.cells #[.int .i64 24, .int .i64 (last : Int), .int .i64 ((last - 1 - k : Nat) : Int), .int .u16 0, .int .i64 0, .int .u8 0, .int .i32 0, .string ⟨#[]⟩, .slice none 0 0] 26)) (fun _ _ q => q)) w2.heap.size (tkC last (last - 1 - k)).cells 26 (by rfl) (by exact heap_alloc_new w2 _) rfl (by simp [Cl.cells, tkC, Value.oneCell']) (by omega) (by first | (simp; done) | (have := HF.out.size; simp; omega)) ?_)
          intro gb9 cap9 w3 hown hfr hat hlt1
          have hM3 := HM2.out.app9 hown hfr hat
          have HM3 := Lib.hid hM3
          have HF := Lib.hid hM3.fr
          have d1 := (hM3.fr.cell (World.block_lt_of_cell? _ _ HD.out) (fun q => q)).trans HD.out
          clear hown hfr hat hlt1 hM3
          go_wp2_with (refine wpList_app rfl elem_told (.tmp 80) (.tmp 90) rfl w.heap.size _ k _ (by rfl) (HM3.out.o10.fr ((Fr.refl (fun _ => False) w3).alloc (.cells #[.int .i64 (t2.length : Int), .string ⟨#[]⟩, .int .i32 0, .int .i64 0] 35)) (fun _ _ q => q)) w3.heap.size (Td.ofN (t2.length : Int)).cells 35 (by rfl) (by exact heap_alloc_new w3 _) rfl (by simp [Td.cells, Td.ofN, Value.oneCell']) (by omega) (by first | (simp; done) | (have := HF.out.size; simp; omega)) ?_)
          intro gb10 cap10 w4 hown hfr hat hlt1
          have hM4 := HM3.out.app10 (by rw [HGD.out]; exact hown) hfr hat
          have HM4 := Lib.hid hM4
          clear hown hfr hat hlt1 hM4
          go_wp2_with fail
          go_roundw
          case rel => exact ⟨k + 1, by omega, by go_num, rfl, HM4.out⟩
          case measure => simp [intOf]; omega
        · have hkk : k = last := by omega
          subst hkk
          obtain ⟨A8, c8, rfl⟩ := hM.o8.value
          obtain ⟨A9, c9, rfl⟩ := hM.o9.value
          obtain ⟨A10, c10, rfl⟩ := hM.o10.value
          obtain ⟨A11, c11, rfl⟩ := hM.o11.value
          have HM := Lib.hid hM
          have HF := Lib.hid hM.fr
          clear hM
          have hmk := make_strs k (by omega)
          have HOM := Lib.hid ((Own.made k (by omega) wr HF.out.size).fr ((Fr.refl (fun _ => False) (wr.alloc (.cells (madeCells #[Value.string ⟨#[]⟩] k) 9))).alloc (.cells #[.string ⟨texts.reverse.flatten.toArray⟩] 9)) (fun _ _ q => q))
          have HBM := Lib.hid (show ((wr.alloc (.cells (madeCells #[Value.string ⟨#[]⟩] k) 9)).alloc (.cells #[.string ⟨texts.reverse.flatten.toArray⟩] 9)).heap[wr.heap.size + 1]? = some (.cells [strV texts.reverse.flatten].toArray 9 (0, 0)) by have := heap_alloc_new (wr.alloc (.cells (madeCells #[Value.string ⟨#[]⟩] k) 9)) (.cells #[.string ⟨texts.reverse.flatten.toArray⟩] 9); simpa [strV] using this)
          go_wp2_with (refine wpList_app rfl elem_string (.tmp 94) (.tmp 96) rfl w.heap.size _ k _ (by rfl) HOM.out (wr.heap.size + 1) [strV texts.reverse.flatten] 9 (by rfl) HBM.out rfl (by simp [strV, Value.oneCell']) (by omega) (by have := HF.out.size; simp; omega) ?_)
          intro gb14 cap14 w5 hown hfr hat hlt1
          have F5 : Fr (fun _ => False) wr w5 := (((Fr.refl (fun _ => False) wr).alloc _).alloc _).trans' hfr (fun x hx q => by have q : wr.heap.size = x := by injection q
                                                                                                                                omega)
          have ho14 : Own 9 1 w5 w.heap.size (.slice (some ⟨gb14, 0, none⟩) (k + 1) cap14) (k + 1) (strs (List.replicate k [] ++ [texts.reverse.flatten])) := by
            rw [strs_append]
            exact hown
          have HF5 := Lib.hid (HF.out.trans F5)
          have H3 := Lib.hid (Own.readsAt St.cells_len (by decide) (HM.out.o3.fr F5 (fun _ _ q => q)))
          have H8 := Lib.hid (Own.readsAt Cl.cells_len (by decide) (HM.out.o8.fr F5 (fun _ _ q => q)))
          have H9 := Lib.hid (Own.readsAt Cl.cells_len (by decide) (HM.out.o9.fr F5 (fun _ _ q => q)))
          have H10 := Lib.hid (Own.readsAt Td.cells_len (by decide) (HM.out.o10.fr F5 (fun _ _ q => q)))
          have H11 := Lib.hid (Own.readsAt Td.cells_len (by decide) (HM.out.o11.fr F5 (fun _ _ q => q)))
          have H14 := Lib.hid (Own.readsStrs ho14)
          have hG5 := (HG.out.fr0 (Nat.le_refl _) HF5.out).up HF5.out.size
          have HG5 := Lib.hid hG5
          clear hown hfr hat hlt1 F5 ho14 hG5
          have hl8 : (gvsF k).length = k := by simp [gvsF]
          have hl9 : (tksG k k).length = k := by simp [tksG]
          have hl10 : (cntF texts k k).length = k := by simp [cntF]
          have hl11 : (smsF texts k).length = k := by simp [smsF]
          have hl14 : (List.replicate k ([] : List UInt8) ++ [texts.reverse.flatten]).length = k + 1 := by simp
          have hm8 : ∀ c ∈ gvsF k, (∃ i, i < k ∧ c = gvC i) ∨ ∃ i, i < k ∧ c = tkC k i := fun c hc => by
            obtain ⟨i, hi, rfl⟩ := List.mem_map.1 hc
            exact .inl ⟨i, List.mem_range.1 hi, rfl⟩
          have hm9 : ∀ c ∈ tksG k k, (∃ i, i < k ∧ c = gvC i) ∨ ∃ i, i < k ∧ c = tkC k i := fun c hc => by
            obtain ⟨i, hi, rfl⟩ := List.mem_map.1 hc
            have := List.mem_range.1 hi
            exact .inr ⟨k - 1 - i, by omega, rfl⟩
          have HM8 := Lib.hid hm8
          have HM9 := Lib.hid hm9
          clear hm8 hm9
          go_wp2_with fail
          refine (run_pipe texts k HLAST.out (by omega) h1 (gvsF k) HM8.out hl8 HLAW.out.1 _ _ _ _ ea eu w5 H3.out H8.out HG5.out).mono ?_
          rintro e w6 ⟨v1, v2, v3, rfl, o1, o2, F6⟩
          obtain ⟨A1, q1, rfl⟩ := o1.value
          obtain ⟨A2, q2, rfl⟩ := o2.value
          rw [show (runF (Yd.begin (texts.map stP) 0) (gvsF k)).1 = smsF texts k from HLAW.out.2.1] at o1
          rw [show (runF (Yd.begin (texts.map stP) 0) (gvsF k)).2.texts = List.replicate k [] ++ [texts.reverse.flatten] from HLAW.out.2.2.1] at o2
          have R1 := Lib.hid (Own.readsAt Td.cells_len (by decide) o1)
          have R2 := Lib.hid (Own.readsStrs o2)
          have HF6 := Lib.hid F6
          clear o1 o2 F6
          go_wp2_with fail
          refine (run_pipe texts k HLAST.out (by omega) h1 (tksG k k) HM9.out hl9 HLAW.out.2.2.2.1 _ _ _ _ ea eu w6 (H3.out.fr0 HF6.out) (H9.out.fr0 HF6.out) ((HG5.out.fr0 (Nat.le_refl _) HF6.out).up HF6.out.size)).mono ?_
          rintro e w7 ⟨v4, v5, v6, rfl, o1, o2, F7⟩
          obtain ⟨A4, q4, rfl⟩ := o1.value
          obtain ⟨A5, q5, rfl⟩ := o2.value
          rw [show (runF (Yd.begin (texts.map stP) 0) (tksG k k)).1 = cntF texts k k from HLAW.out.2.2.2.2.1] at o1
          rw [show (runF (Yd.begin (texts.map stP) 0) (tksG k k)).2.texts = List.replicate k [] ++ [texts.reverse.flatten] from HLAW.out.2.2.2.2.2] at o2
          have R4 := Lib.hid (Own.readsAt Td.cells_len (by decide) o1)
          have R5 := Lib.hid (Own.readsStrs o2)
          have HF7 := Lib.hid F7
          have HF67 := Lib.hid (HF6.out.trans F7)
          clear o1 o2 F7
          go_wp2_with fail
          have E1 := equal_told (smsF texts k) A1 A11 q1 c11 w7 (R1.out.fr0 HF7.out) (H11.out.fr0 HF67.out) (by omega)
          rw [hl11] at E1
          refine E1.mono ?_
          rintro e w8 ⟨rfl, F8⟩
          clear E1
          have HF8 := Lib.hid F8
          clear F8
          go_wp2_with fail
          have E2 := equal_told (cntF texts k k) A4 A10 q4 c10 w8 (R4.out.fr0 HF8.out) (H10.out.fr0 (HF67.out.trans HF8.out)) (by omega)
          rw [hl10] at E2
          refine E2.mono ?_
          rintro e w9 ⟨rfl, F9⟩
          clear E2
          have HF9 := Lib.hid (HF8.out.trans F9)
          clear F9
          go_wp2_with fail
          have E3 := equal_strs (List.replicate k ([] : List UInt8) ++ [texts.reverse.flatten]) A2 (some ⟨gb14, 0, none⟩) q2 cap14 w9 (R2.out.fr0 (HF7.out.trans HF9.out)) (H14.out.fr0 (HF67.out.trans HF9.out)) (by omega)
          rw [hl14] at E3
          refine E3.mono ?_
          rintro e w10 ⟨rfl, F10⟩
          clear E3
          have HF10 := Lib.hid (HF9.out.trans F10)
          clear F10
          go_wp2_with fail
          have E4 := equal_strs (List.replicate k ([] : List UInt8) ++ [texts.reverse.flatten]) A5 (some ⟨gb14, 0, none⟩) q5 cap14 w10 (R5.out.fr0 HF10.out) (H14.out.fr0 (HF67.out.trans HF10.out)) (by omega)
          rw [hl14] at E4
          refine E4.mono ?_
          rintro e w11 ⟨rfl, F11⟩
          clear E4
          have HF11 := Lib.hid (HF10.out.trans F11)
          clear F11
          go_wp2_with fail
          go_ret
          exact ⟨rfl, (HF5.out.trans HF67.out).trans HF11.out⟩
end Go.Proofs.YtimigjjokdnfbaaDoor
