/- (*impl.sink).Write, at a new sink. (*bytes.Buffer).WriteTo a new sink. -/
import Derived.Deep.RegionLaw
import Derived.Test.YtimigjjokdnfbaaDoorTake
import Derived.Test.YtimigjjokdnfbaaDoorBufG
import Derived.Test.YtimigjjokdnfbaaDoorSourceB
import Derived.Test.YtimigjjokdnfbaaDoorReadFrom
namespace Go.Proofs.YtimigjjokdnfbaaDoor
open Go Go.RowKit

theorem slice_toA (A : Option Addr) (n c h : Nat) (hh : h ≤ c) (w : World) : (Instr.slice 52 (.slice A n c) none (some (.int .i64 (h : Int))) none).run Tryd.prog w = .ok (.slice A h c) w := by
  obtain ⟨i0, hi, hz0, hz1, hz2⟩ := info_parts info_u8
  have h1 : (0 : Int) ≤ (h : Int) := by omega
  have h2 : (h : Int) ≤ (c : Int) := by omega
  cases A <;> simp [Instr.slice, run_underlying Tryd.underlying52, Instr.sliceBounds, run_sliceBound, sizeOf, typeInfo, hi, h1, h2, Addr.add]
def SinkPost (w : World) (sb m : Nat) (l : List UInt8) (e : Ending) (w' : World) : Prop :=
  ∃ A k c, e = .returned (.tuple #[.int .i64 (m : Int), .nilIface]) ∧ w'.cell? ⟨sb, 1, none⟩ = some (.slice A k c) ∧ Src w' (.slice A k c) l ∧ Fr (Just sb) w w'
set_option maxHeartbeats 1600000 in
set_option maxRecDepth 100000 in
/-- A sink that has room for all. -/
theorem sink_write (w : World) (sb room m c : Nat) (A : Option Addr) (l : List UInt8) (hst : w.heap[sb]? = some (.cells #[.int .i64 (room : Int), .slice none 0 0] 92 (0, 0))) (hs : Src w (.slice A m c) l) (hl : l.length = m) (hc : m ≤ c) (hr : room ≤ 65535) (hm : m ≤ room) :
    Calls Tryd.prog 90 #[.pointer (some ⟨sb, 0, none⟩), .slice A m c] w (SinkPost w sb m l) := by
  have c0 : w.drew.cell? ⟨sb, 0, none⟩ = some (.int .i64 (room : Int)) := by rw [cell_of_row w.drew sb 0 _ _ _ hst]; rfl
  have c1 : w.drew.cell? ⟨sb, 1, none⟩ = some (.slice none 0 0) := by rw [cell_of_row w.drew sb 1 _ _ _ hst]; rfl
  have hwm : IntKind.i64.wrap (room : Int) = (room : Int) := IntWalk.i64_in _ (by omega)
  have hmin : min (room : Int) (m : Int) = (m : Int) := by omega
  have hsl := fun w' => slice_toA A m c m (by omega) w'
  have hsd : Src w.drew.drew (.slice A m c) l := hs
  obtain ⟨v2, w2, hrun, hs2, ⟨A2, n2, c2, rfl⟩, hfr⟩ := app_nil_src hsd (by omega)
  have hfr' : Fr (fun _ => False) w w2 := (Fr.refl _ w).drew.drew.trans hfr
  have hst2 := hfr'.blk hst (fun q => q)
  have d1 : w2.cell? ⟨sb, 1, none⟩ = some (.slice none 0 0) := by rw [cell_of_row w2 sb 1 _ _ _ hst2]; rfl
  have g1 : w2.frozen? ⟨sb, 1, none⟩ = false := by simp [World.frozen?, hst2]
  have hs3 : Src (w2.setCell ⟨sb, 1, none⟩ (.slice A2 n2 c2)) (.slice A2 n2 c2) l := by
    refine (Src.fr (S := Just sb) hs2 ((Fr.refl _ w2).setCell (fun _ => just_self sb) _) ?_)
    intro i cc E fz q hcc j x hj
    obtain rfl : i = sb := q
    rw [hst2] at hcc
    injection hcc with hcc
    injection hcc with hcc
    subst hcc
    match j, hj with
    | 0, hj => simp at hj
    | 1, hj => simp at hj
    | j + 2, hj => simp at hj
  have hcl : (w2.setCell ⟨sb, 1, none⟩ (.slice A2 n2 c2)).cell? ⟨sb, 1, none⟩ = some (.slice A2 n2 c2) := by
    simp [World.cell?, World.setCell, Array.getElem?_modify, hst2]
  have HS3 := Lib.hid hs3
  have HCL := Lib.hid hcl
  have HF := Lib.hid ((hfr'.mono (S' := Just sb) fun _ _ q => q.elim).setCell (p := ⟨sb, 1, none⟩) (fun _ => just_self sb) (.slice A2 n2 c2))
  clear hs2 hs3 hcl hfr hfr' hsd hst hst2 hs hl
  go_enter Tryd.func90, Tryd.ntmps90
  go_wp2_with fail
  refine wp_region_mixed 13 (by kernel_rfl) (by kernel_rfl) (fun _ _ d _ _ h => by cases d <;> exact h) ?_
  simp only [List.take_succ_cons, List.take_zero, List.drop_succ_cons, List.drop_zero, List.filter_cons, List.filter_nil, isMv, Array.isEmpty_iff, Bool.not_false, Bool.and_true, Option.isNone_none, if_true, if_false, Bool.false_eq_true]
  repeat still_step
  refine wpStill_nil ?_
  go_wp2_with fail
  go_region_law ((refine step_of_wp rfl (wp_append_of_run _ _ _ _ rfl rfl rfl hrun ?_)))
  all_goals
    go_wp2_with fail
    go_ret2
    exact ⟨_, _, _, rfl, HCL.out, HS3.out, HF.out⟩
end Go.Proofs.YtimigjjokdnfbaaDoor

namespace Go.Proofs.YtimigjjokdnfbaaDoor
open Go Go.RowKit

theorem nil_sinkW (a : Addr) (w : World) : (nilAhead 269 90 (.pointer (some a)) "Write").run Tryd.prog w = .ok (some false) w := by kernel_rfl
theorem method_sinkW (a : Addr) (w : World) : (method 269 90 (.pointer (some a)) "Write").run Tryd.prog w = .ok (90, .pointer (some a)) w := by kernel_rfl

def DrainPost (w : World) (b : Nat) (g : Gh) (sb : Nat) (e : Ending) (w' : World) : Prop :=
  ∃ A k c, e = .returned (.tuple #[.int .i64 (g.txt.length : Int), .nilIface]) ∧ BufAt w' b g.rs ∧ w'.cell? ⟨sb, 1, none⟩ = some (.slice A k c) ∧ Src w' (.slice A k c) g.txt ∧ Fr (fun x => x = b ∨ x = sb) w w'

set_option maxHeartbeats 800000 in
set_option maxRecDepth 100000 in
theorem drain_empty (w : World) (b : Nat) (g : Gh) (sb room : Nat) (h : BufAt w b g) (hst : w.heap[sb]? = some (.cells #[.int .i64 (room : Int), .slice none 0 0] 92 (0, 0))) (ht : g.txt = []) :
    Calls Tryd.prog 45 #[.pointer (some ⟨b, 0, none⟩), .iface 90 (.pointer (some ⟨sb, 0, none⟩))] w (DrainPost w b g sb) := by
  have c2 := h.c2
  have f2 := h.f 2
  have htl := g.txt_length h.lc
  have hol := h.ol
  have hm : g.off + 0 = g.len := by rw [ht] at htl; simp at htl; omega
  have hne : sb ≠ b := by
    rintro rfl
    have := h.st
    rw [hst] at this
    injection this with this
    injection this with _ this
    exact absurd this (by decide)
  have H := Lib.hid h
  have HT := Lib.hid ht
  have HM := Lib.hid hm
  have HST := Lib.hid hst
  clear h ht htl hm hst
  go_enter Tryd.func45, Tryd.ntmps45
  go_wp2_with fail
  have S1 := BufStep.lr0 H.out 0
  refine (buf_len_m _ b _ 0 S1.at' HM.out).mono ?_
  rintro e w1 ⟨rfl, H1, F1⟩
  go_wp2_with fail
  refine (buf_reset _ b _ H1).mono ?_
  rintro e w2 ⟨rfl, A2, F2⟩
  have hF : Fr (Just b) w w2 := ((just_set w b 2 _).trans' F1 (fun _ _ q => q.elim)).trans F2
  have HF := Lib.hid hF
  have HA := Lib.hid A2
  clear S1 H1 F1 A2 F2 hF
  go_wp2_with fail
  go_ret2
  have hst2 := HF.out.blk HST.out (fun q => hne q)
  refine ⟨none, 0, 0, by rw [HT.out]; rfl, HA.out, ?_, by rw [HT.out]; exact .inr ⟨_, _, rfl, fun q => absurd q (by simp)⟩, HF.out.mono fun _ _ q => .inl q⟩
  rw [cell_of_row w2 sb 1 _ _ _ hst2]
  rfl

set_option maxHeartbeats 1600000 in
set_option maxRecDepth 100000 in
theorem drain_all (w : World) (b : Nat) (g : Gh) (sb room m : Nat) (h : BufAt w b g) (hst : w.heap[sb]? = some (.cells #[.int .i64 (room : Int), .slice none 0 0] 92 (0, 0))) (hm : g.txt.length = m) (hmp : 0 < m) (hroom : room ≤ 65535) (hn : m ≤ room) :
    Calls Tryd.prog 45 #[.pointer (some ⟨b, 0, none⟩), .iface 90 (.pointer (some ⟨sb, 0, none⟩))] w (DrainPost w b g sb) := by
  have c2 := h.c2
  have f2 := h.f 2
  have hl := h.lc
  have hz := h.sz
  have htl := g.txt_length h.lc
  have hol := h.ol
  have hml : g.off + m = g.len := by omega
  have hlm : g.len - g.off = m := by omega
  have hne : sb ≠ b := by
    rintro rfl
    have := h.st
    rw [hst] at this
    injection this with this
    injection this with _ this
    exact absurd this (by decide)
  have hner : ∀ r, g.row = some r → r ≠ sb := fun r hr => (h.row r hr).ne_blk hst (by decide)
  have hna := nil_sinkW ⟨sb, 0, none⟩
  have hme := method_sinkW ⟨sb, 0, none⟩
  have hsl := fun w' => slice_from g.row g.len g.all.length g.off hol w'
  rw [hlm] at hsl
  have H := Lib.hid h
  have HM := Lib.hid hm
  have HML := Lib.hid hml
  have HST := Lib.hid hst
  clear h hm htl hst hml
  go_enter Tryd.func45, Tryd.ntmps45
  go_wp2_with fail
  have S1 := BufStep.lr0 H.out 0
  refine (buf_len_m _ b _ m S1.at' HML.out).mono ?_
  rintro e w1 ⟨rfl, H1, F1⟩
  have hF1 : Fr (Just b) w w1 := (just_set w b 2 _).trans' F1 (fun _ _ q => q.elim)
  have k0 := H1.c0
  have k1 := H1.c1
  have hsrc : Src w1.drew (.slice (cutA g.row g.off g.all.length) m (g.all.length - g.off)) g.txt := by have hh := Src.unread H1.drew; rw [← hlm]; exact hh
  have hst1 := hF1.drew.blk HST.out (fun q => hne q)
  have hcall := sink_write w1.drew sb room m (g.all.length - g.off) (cutA g.row g.off g.all.length) g.txt hst1 hsrc HM.out (by omega) hroom hn
  have hst : ∀ w', Fr (Just sb) w1.drew w' → BufAt w' b { g with lr := 0 } := fun w' hf => H1.drew.fr hf (fun x q k => by
    have k : x = sb := k
    subst k
    rcases q with q | q
    · exact hne q
    · exact hner x q rfl)
  have HA1 := Lib.hid H1
  have HF1 := Lib.hid hF1
  have HC := Lib.hid hcall
  have HSB := Lib.hid hst
  simp only at k0 k1
  clear S1 H1 F1 hF1 hsrc hst1 hcall hst
  go_wp2_with fail
  go_region_held3 (fun w' => w'.cell? ⟨b, 0, none⟩ = some (.slice (rowA g.row) g.len g.all.length) ∧ w'.cell? ⟨b, 1, none⟩ = some (.int .i64 (g.off : Int))) (go_keep) ((go_at_call 90; refine HC.out.mono ?_; rintro e w2 ⟨A3, k3, c3, rfl, hcell, hs3, F2⟩; have A2 := HSB.out w2 F2; have d0 := A2.c0; have d1 := A2.c1; have e1 := A2.f 1; simp only at d0 d1; have HA2 := Lib.hid A2; have HF2 := Lib.hid F2; have HS3 := Lib.hid hs3; have HCE := Lib.hid hcell; clear A2 F2 hs3 hcell))
  have hA3 := HA2.out.off' (g.off + m) (by simp only; omega)
  have HA3 := Lib.hid hA3
  clear hA3
  go_wp2_with fail
  refine (buf_reset _ b _ HA3.out).mono ?_
  rintro e w4 ⟨rfl, A4, F4⟩
  have hF4 : Fr (Just b) w2 w4 := (just_set w2 b 1 _).trans F4
  have HA4 := Lib.hid A4
  have HF4 := Lib.hid hF4
  clear A4 F4 hF4
  go_wp2_with fail
  go_ret2
  refine ⟨A3, k3, c3, by rw [HM.out]; rfl, HA4.out, ?_, ?_, ?_⟩
  · exact (HF4.out.cell (World.block_lt_of_cell? _ _ HCE.out) (fun q => hne q)).trans HCE.out
  · exact HS3.out.struct HA2.out.toBufRaw HF4.out
  · exact (((HF1.out.mono fun _ _ q => .inl q).drew).trans (HF2.out.mono fun _ _ q => .inr q)).trans (HF4.out.mono fun _ _ q => .inl q)
end Go.Proofs.YtimigjjokdnfbaaDoor
