/- Drain, BufH, BufI, BldG. -/
import Derived.Deep.RegionLaw
import Derived.Test.YtbodbajgpgaoeaaGreatDoorQ04
import Derived.Test.YtbodbajgpgaoeaaGreatDoorQ03
import Derived.Lib.MakeNoZero
import Derived.Lib.UnsafeStr
import Derived.Lib.Builder
import Derived.WalkKit
import Derived.Laws.Externs
import Derived.Shelf.RegionOpenPlain
namespace Go.Proofs.YtbodbajgpgaoeaaGreatDoor
open Go Go.RowKit

theorem slice_toA (A : Option Addr) (n c h : Nat) (hh : h ≤ c) (w : World) : (Instr.slice 40 (.slice A n c) none (some (.int .i64 (h : Int))) none).run Tryz.prog w = .ok (.slice A h c) w := by
  obtain ⟨i0, hi, hz0, hz1, hz2⟩ := info_parts info_u8
  have h1 : (0 : Int) ≤ (h : Int) := by omega
  have h2 : (h : Int) ≤ (c : Int) := by omega
  cases A <;> simp [Instr.slice, run_underlying Tryz.underlying40, Instr.sliceBounds, run_sliceBound, sizeOf, typeInfo, hi, h1, h2, Addr.add]
def SinkPost (w : World) (sb m : Nat) (l : List UInt8) (e : Ending) (w' : World) : Prop :=
  ∃ A k c, e = .returned (.tuple #[.int .i64 (m : Int), .nilIface]) ∧ w'.cell? ⟨sb, 1, none⟩ = some (.slice A k c) ∧ Src w' (.slice A k c) l ∧ Fr (Just sb) w w'
set_option maxHeartbeats 1600000 in
set_option maxRecDepth 100000 in
/-- A sink that has room for all. -/
theorem sink_write (w : World) (sb room m c : Nat) (A : Option Addr) (l : List UInt8) (hst : w.heap[sb]? = some (.cells #[.int .i64 (room : Int), .slice none 0 0] 130 (0, 0))) (hs : Src w (.slice A m c) l) (hl : l.length = m) (hc : m ≤ c) (hr : room ≤ 65535) (hm : m ≤ room) :
    Calls Tryz.prog 135 #[.pointer (some ⟨sb, 0, none⟩), .slice A m c] w (SinkPost w sb m l) := by
  have c0 : w.drew.cell? ⟨sb, 0, none⟩ = some (.int .i64 (room : Int)) := by rw [cell_of_row w.drew sb 0 _ _ _ hst]; rfl
  have c1 : w.drew.cell? ⟨sb, 1, none⟩ = some (.slice none 0 0) := by rw [cell_of_row w.drew sb 1 _ _ _ hst]; rfl
  have hwm : IntKind.i64.wrap (room : Int) = (room : Int) := IntWalk.i64_in _ (by omega)
  have hmin : min (room : Int) (m : Int) = (m : Int) := by omega
  have hsl := fun w' => slice_toA A m c m (by omega) w'
  have hsd : Src w.drew.drew (.slice A m c) l := hs
  obtain ⟨v2, w2, hrun, hs2, ⟨A2, n2, c2, rfl⟩, hfr⟩ := app_nil_src hsd (by omega)
  have hfr' : Fr (fun _ => False) w w2 := (Fr.refl _ w).drew.drew.trans hfr
  have hst2 := hfr'.blk hst (fun q => q)
  have d1 : w2.cell? ⟨sb, 1, none⟩ = some (.slice none 0 0) := by rw [cell_of_row w2 sb 1 _ _ _ hst2]; rfl
  have g1 : w2.frozen? ⟨sb, 1, none⟩ = false := by simp [World.frozen?, hst2]
  have hs3 : Src (w2.setCell ⟨sb, 1, none⟩ (.slice A2 n2 c2)) (.slice A2 n2 c2) l := by
    refine (Src.fr (S := Just sb) hs2 ((Fr.refl _ w2).setCell (fun _ => just_self sb) _) ?_)
    intro i cc E fz q hcc j x hj
    obtain rfl : i = sb := q
    rw [hst2] at hcc
    injection hcc with hcc
    injection hcc with hcc
    subst hcc
    match j, hj with
    | 0, hj => simp at hj
    | 1, hj => simp at hj
    | j + 2, hj => simp at hj
  have hcl : (w2.setCell ⟨sb, 1, none⟩ (.slice A2 n2 c2)).cell? ⟨sb, 1, none⟩ = some (.slice A2 n2 c2) := by
    simp [World.cell?, World.setCell, Array.getElem?_modify, hst2]
  have HS3 := Lib.hid hs3
  have HCL := Lib.hid hcl
  have HF := Lib.hid ((hfr'.mono (S' := Just sb) fun _ _ q => q.elim).setCell (p := ⟨sb, 1, none⟩) (fun _ => just_self sb) (.slice A2 n2 c2))
  clear hs2 hs3 hcl hfr hfr' hsd hst hst2 hs hl
  go_enter Tryz.func135, Tryz.ntmps135
  go_wp2_with fail
  refine wp_region_mixed 13 (by kernel_rfl) (by kernel_rfl) (fun _ _ d _ _ h => by cases d <;> exact h) ?_
  simp only [List.take_succ_cons, List.take_zero, List.drop_succ_cons, List.drop_zero, List.filter_cons, List.filter_nil, isMv, Array.isEmpty_iff, Bool.not_false, Bool.and_true, Option.isNone_none, if_true, if_false, Bool.false_eq_true]
  repeat still_step
  refine wpStill_nil ?_
  go_wp2_with fail
  go_region_law ((refine step_of_wp rfl (wp_append_of_run _ _ _ _ rfl rfl rfl hrun ?_)))
  all_goals
    go_wp2_with fail
    go_ret2
    exact ⟨_, _, _, rfl, HCL.out, HS3.out, HF.out⟩
end Go.Proofs.YtbodbajgpgaoeaaGreatDoor

namespace Go.Proofs.YtbodbajgpgaoeaaGreatDoor
open Go Go.RowKit

theorem nil_sinkW (a : Addr) (w : World) : (nilAhead 307 128 (.pointer (some a)) "Write").run Tryz.prog w = .ok (some false) w := by kernel_rfl
theorem method_sinkW (a : Addr) (w : World) : (method 307 128 (.pointer (some a)) "Write").run Tryz.prog w = .ok (135, .pointer (some a)) w := by kernel_rfl

def DrainPost (w : World) (b : Nat) (g : Gh) (sb : Nat) (e : Ending) (w' : World) : Prop :=
  ∃ A k c, e = .returned (.tuple #[.int .i64 (g.txt.length : Int), .nilIface]) ∧ BufAt w' b g.rs ∧ w'.cell? ⟨sb, 1, none⟩ = some (.slice A k c) ∧ Src w' (.slice A k c) g.txt ∧ Fr (fun x => x = b ∨ x = sb) w w'

set_option maxHeartbeats 800000 in
set_option maxRecDepth 100000 in
theorem drain_empty (w : World) (b : Nat) (g : Gh) (sb room : Nat) (h : BufAt w b g) (hst : w.heap[sb]? = some (.cells #[.int .i64 (room : Int), .slice none 0 0] 130 (0, 0))) (ht : g.txt = []) :
    Calls Tryz.prog 86 #[.pointer (some ⟨b, 0, none⟩), .iface 128 (.pointer (some ⟨sb, 0, none⟩))] w (DrainPost w b g sb) := by
  have c2 := h.c2
  have f2 := h.f 2
  have htl := g.txt_length h.lc
  have hol := h.ol
  have hm : g.off + 0 = g.len := by rw [ht] at htl; simp at htl; omega
  have hne : sb ≠ b := by
    rintro rfl
    have := h.st
    rw [hst] at this
    injection this with this
    injection this with _ this
    exact absurd this (by decide)
  have H := Lib.hid h
  have HT := Lib.hid ht
  have HM := Lib.hid hm
  have HST := Lib.hid hst
  clear h ht htl hm hst
  go_enter Tryz.func86, Tryz.ntmps86
  go_wp2_with fail
  have S1 := BufStep.lr0 H.out 0
  refine (buf_len_m _ b _ 0 S1.at' HM.out).mono ?_
  rintro e w1 ⟨rfl, H1, F1⟩
  go_wp2_with fail
  refine (buf_reset _ b _ H1).mono ?_
  rintro e w2 ⟨rfl, A2, F2⟩
  have hF : Fr (Just b) w w2 := ((just_set w b 2 _).trans' F1 (fun _ _ q => q.elim)).trans F2
  have HF := Lib.hid hF
  have HA := Lib.hid A2
  clear S1 H1 F1 A2 F2 hF
  go_wp2_with fail
  go_ret2
  have hst2 := HF.out.blk HST.out (fun q => hne q)
  refine ⟨none, 0, 0, by rw [HT.out]; rfl, HA.out, ?_, by rw [HT.out]; exact .inr ⟨_, _, rfl, fun q => absurd q (by simp)⟩, HF.out.mono fun _ _ q => .inl q⟩
  rw [cell_of_row w2 sb 1 _ _ _ hst2]
  rfl

set_option maxHeartbeats 1600000 in
set_option maxRecDepth 100000 in
theorem drain_all (w : World) (b : Nat) (g : Gh) (sb room m : Nat) (h : BufAt w b g) (hst : w.heap[sb]? = some (.cells #[.int .i64 (room : Int), .slice none 0 0] 130 (0, 0))) (hm : g.txt.length = m) (hmp : 0 < m) (hroom : room ≤ 65535) (hn : m ≤ room) :
    Calls Tryz.prog 86 #[.pointer (some ⟨b, 0, none⟩), .iface 128 (.pointer (some ⟨sb, 0, none⟩))] w (DrainPost w b g sb) := by
  have c2 := h.c2
  have f2 := h.f 2
  have hl := h.lc
  have hz := h.sz
  have htl := g.txt_length h.lc
  have hol := h.ol
  have hml : g.off + m = g.len := by omega
  have hlm : g.len - g.off = m := by omega
  have hne : sb ≠ b := by
    rintro rfl
    have := h.st
    rw [hst] at this
    injection this with this
    injection this with _ this
    exact absurd this (by decide)
  have hner : ∀ r, g.row = some r → r ≠ sb := fun r hr => (h.row r hr).ne_blk hst (by decide)
  have hna := nil_sinkW ⟨sb, 0, none⟩
  have hme := method_sinkW ⟨sb, 0, none⟩
  have hsl := fun w' => slice_from g.row g.len g.all.length g.off hol w'
  rw [hlm] at hsl
  have H := Lib.hid h
  have HM := Lib.hid hm
  have HML := Lib.hid hml
  have HST := Lib.hid hst
  clear h hm htl hst hml
  go_enter Tryz.func86, Tryz.ntmps86
  go_wp2_with fail
  have S1 := BufStep.lr0 H.out 0
  refine (buf_len_m _ b _ m S1.at' HML.out).mono ?_
  rintro e w1 ⟨rfl, H1, F1⟩
  have hF1 : Fr (Just b) w w1 := (just_set w b 2 _).trans' F1 (fun _ _ q => q.elim)
  have k0 := H1.c0
  have k1 := H1.c1
  have hsrc : Src w1.drew (.slice (cutA g.row g.off g.all.length) m (g.all.length - g.off)) g.txt := by have hh := Src.unread H1.drew; rw [← hlm]; exact hh
  have hst1 := hF1.drew.blk HST.out (fun q => hne q)
  have hcall := sink_write w1.drew sb room m (g.all.length - g.off) (cutA g.row g.off g.all.length) g.txt hst1 hsrc HM.out (by omega) hroom hn
  have hst : ∀ w', Fr (Just sb) w1.drew w' → BufAt w' b { g with lr := 0 } := fun w' hf => H1.drew.fr hf (fun x q k => by
    have k : x = sb := k
    subst k
    rcases q with q | q
    · exact hne q
    · exact hner x q rfl)
  have HA1 := Lib.hid H1
  have HF1 := Lib.hid hF1
  have HC := Lib.hid hcall
  have HSB := Lib.hid hst
  simp only at k0 k1
  clear S1 H1 F1 hF1 hsrc hst1 hcall hst
  go_wp2_with fail
  go_region_held3 (fun w' => w'.cell? ⟨b, 0, none⟩ = some (.slice (rowA g.row) g.len g.all.length) ∧ w'.cell? ⟨b, 1, none⟩ = some (.int .i64 (g.off : Int))) (go_keep) ((go_at_call 135; refine HC.out.mono ?_; rintro e w2 ⟨A3, k3, c3, rfl, hcell, hs3, F2⟩; have A2 := HSB.out w2 F2; have d0 := A2.c0; have d1 := A2.c1; have e1 := A2.f 1; simp only at d0 d1; have HA2 := Lib.hid A2; have HF2 := Lib.hid F2; have HS3 := Lib.hid hs3; have HCE := Lib.hid hcell; clear A2 F2 hs3 hcell))
  have hA3 := HA2.out.off' (g.off + m) (by simp only; omega)
  have HA3 := Lib.hid hA3
  clear hA3
  go_wp2_with fail
  refine (buf_reset _ b _ HA3.out).mono ?_
  rintro e w4 ⟨rfl, A4, F4⟩
  have hF4 : Fr (Just b) w2 w4 := (just_set w2 b 1 _).trans F4
  have HA4 := Lib.hid A4
  have HF4 := Lib.hid hF4
  clear A4 F4 hF4
  go_wp2_with fail
  go_ret2
  refine ⟨A3, k3, c3, by rw [HM.out]; rfl, HA4.out, ?_, ?_, ?_⟩
  · exact (HF4.out.cell (World.block_lt_of_cell? _ _ HCE.out) (fun q => hne q)).trans HCE.out
  · exact HS3.out.struct HA2.out.toBufRaw HF4.out
  · exact (((HF1.out.mono fun _ _ q => .inl q).drew).trans (HF2.out.mono fun _ _ q => .inr q)).trans (HF4.out.mono fun _ _ q => .inl q)
end Go.Proofs.YtbodbajgpgaoeaaGreatDoor

namespace Go.Proofs.YtbodbajgpgaoeaaGreatDoor
open Go Go.RowKit

/-- One byte of a row laid anew. -/
theorem Row.poke {E : TypeId} {w : World} {r : Nat} {l : List UInt8} (h : Row E w r l) (i : Nat) (x : UInt8) : Row E (w.setCell ⟨r, i, none⟩ (.int .u8 (x.toNat : Int))) r (l.set i x) := by
  obtain ⟨fz, h1, h2⟩ := h
  refine ⟨fz, ?_, by simpa using h2⟩
  simp [World.setCell, Array.getElem?_modify, h1, bcs, List.map_set]
theorem splice_one (l : List UInt8) (i : Nat) (x : UInt8) (hi : i < l.length) : splice l i [x] = l.set i x := by
  unfold splice
  rw [List.set_eq_take_append_cons_drop, if_pos hi]
  simp
theorem BufAt.poke {w : World} {b : Nat} {g : Gh} {r : Nat} (h : BufAt w b g) (hr : g.row = some r) (i : Nat) (x : UInt8) : BufAt (w.setCell ⟨r, i, none⟩ (.int .u8 (x.toNat : Int))) b { g with all := g.all.set i x } := by
  refine ⟨BufRaw.putAll h.toBufRaw hr ((Fr.refl _ w).setCell (fun _ => just_self r) _) ((h.row r hr).poke i x) (by simp), h.ol, by simpa using h.lc⟩
theorem BufAt.some_row {w : World} {b : Nat} {g : Gh} (h : BufAt w b g) (hl : 0 < g.len) : ∃ r, g.row = some r := by
  cases hr : g.row with
  | none => have := h.nil hr; have := h.lc; simp_all
  | some r => exact ⟨r, rfl⟩

def WBPost (w : World) (b : Nat) (g : Gh) (x : UInt8) (e : Ending) (w' : World) : Prop :=
  ∃ g', e = .returned .nilIface ∧ BufStep w b g w' g' ∧ Wrote g [x] g'
set_option maxHeartbeats 1600000 in
set_option maxRecDepth 100000 in
theorem bufWB_room (x : UInt8) (w : World) (b : Nat) (g : Gh) (h : BufAt w b g) (hb : 1 ≤ g.all.length - g.len) :
    Calls Tryz.prog 74 #[.pointer (some ⟨b, 0, none⟩), .int .u8 (x.toNat : Int)] w (WBPost w b g x) := by
  have ho := h.ol; have hl := h.lc; have hz := h.sz
  have H := Lib.hid h
  have c2 := h.c2
  have f2 := h.f 2
  clear h
  go_enter Tryz.func74, Tryz.ntmps74
  go_wp2_with fail
  have S1 := BufStep.lr0 H.out 0
  refine (buf_try_yes _ b _ 1 S1.at' hb).mono ?_
  rintro e w2 ⟨rfl, H2, F2⟩
  have S2 := Lib.hid (S1.trans (BufStep.of_just H2 rfl F2))
  obtain ⟨r, hr⟩ := H2.some_row (by simp only; omega)
  have c0 := H2.c0
  simp only at c0 hr
  rw [hr, rowA_some] at c0
  have hrow := H2.row r hr
  have hcell := hrow.cell g.len (by simp only; omega)
  have hfree := hrow.free g.len (by simp only; omega)
  have HP := Lib.hid (H2.poke hr g.len x)
  have hw := Wrote.of_grown (l := [x]) (Grown.of_try { g with lr := 0 } 1 ho) (by have := H2.lc; exact this)
  simp only at hw
  rw [splice_one _ _ _ (by omega)] at hw
  have HW := Lib.hid hw
  have HR := Lib.hid hr
  clear S1 H2 F2 hw hrow hr
  go_wp2_with fail
  go_ret
  refine ⟨_, rfl, S2.out.trans (BufStep.put HP.out ((Fr.refl _ w2).setCell (fun _ => HR.out) _)), HW.out⟩
set_option maxHeartbeats 1600000 in
set_option maxRecDepth 100000 in
theorem bufWB_grow (x : UInt8) (w : World) (b : Nat) (g : Gh) (h : BufAt w b g) (hb : g.all.length - g.len < 1) (hsz : g.txt.length + 1 ≤ 1099511627776) :
    Calls Tryz.prog 74 #[.pointer (some ⟨b, 0, none⟩), .int .u8 (x.toNat : Int)] w (WBPost w b g x) := by
  have H := Lib.hid h
  have c2 := h.c2
  have f2 := h.f 2
  clear h
  go_enter Tryz.func74, Tryz.ntmps74
  go_wp2_with fail
  have S1 := BufStep.lr0 H.out 0
  refine (buf_try_no _ b _ 1 S1.at' hb).mono ?_
  rintro e w1 ⟨rfl, rfl⟩
  go_wp2_with fail
  refine (grow_any 1 _ b _ S1.at' hsz).mono ?_
  rintro e w2 ⟨i, g2, rfl, S2, G2⟩
  have hi := G2.len
  have hlc := S2.at'.lc
  obtain ⟨r, hr⟩ := S2.at'.some_row (by omega)
  have c0 := S2.at'.c0
  rw [hr, rowA_some] at c0
  have hrow := S2.at'.row r hr
  have hcell := hrow.cell i (by omega)
  have hfree := hrow.free i (by omega)
  have HP := Lib.hid (S2.at'.poke hr i x)
  have hz2 := S2.at'.sz
  have hil : i < g2.len := by omega
  have hw := Wrote.of_grown (l := [x]) G2 hlc
  rw [splice_one _ _ _ (by omega)] at hw
  have HW := Lib.hid hw
  have HR := Lib.hid hr
  have S12 := Lib.hid (S1.trans S2)
  clear S1 S2 G2 hw hrow hr
  go_wp2_with fail
  go_ret
  refine ⟨_, rfl, S12.out.trans (BufStep.put HP.out ((Fr.refl _ w2).setCell (fun _ => HR.out) _)), HW.out⟩
theorem bufWB (x : UInt8) (w : World) (b : Nat) (g : Gh) (h : BufAt w b g) (hsz : g.txt.length + 1 ≤ 1099511627776) :
    Calls Tryz.prog 74 #[.pointer (some ⟨b, 0, none⟩), .int .u8 (x.toNat : Int)] w (WBPost w b g x) := by
  by_cases hb : 1 ≤ g.all.length - g.len
  · exact bufWB_room x w b g h hb
  · exact bufWB_grow x w b g h (by omega) hsz

/-- What WriteRune leaves. -/
structure Wrote0 (g : Gh) (l : List UInt8) (g' : Gh) : Prop where
  txt : g'.txt = g.txt ++ l
  lr : g'.lr = 0
/-- A rune's bytes behind the place i of a row that has room for them. -/
theorem rune_fit {w : World} {b : Nat} {g : Gh} (h : BufAt w b g) (i : Nat) (r : Int) (hi : i + 4 ≤ g.all.length) :
    ∃ w2, RuneApp w (.slice (rowA g.row) i g.all.length) r (.slice (rowA g.row) (i + (Lib.encodeRune r).length) g.all.length) w2 ∧ BufRaw w2 b { g with all := splice g.all i (Lib.encodeRune r) } ∧ Fr (fun x => g.row = some x) w w2 := by
  obtain ⟨i0, hi0, hz0, hz1, hz2⟩ := info_parts info_u8
  obtain ⟨rw_, hr⟩ : ∃ r, g.row = some r := by
    cases hr : g.row with
    | none => have := h.nil hr; simp_all
    | some r => exact ⟨r, rfl⟩
  have hle := Lib.encodeRuneZ_length r
  have hlen : (Lib.encodeRune r).length = (Lib.encodeRuneZ r).length := by simp [Lib.encodeRune]
  have hrow := (h.row rw_ hr).alloc (.cells (Lib.runeCells r).toArray 5)
  obtain ⟨fz, hb, hf⟩ := hrow
  have hnew : Row 5 (w.alloc (.cells (Lib.runeCells r).toArray 5)) w.heap.size (Lib.encodeRune r) := by
    have := Row.new w 5 (Lib.encodeRune r)
    rwa [bcs_rune] at this
  have hsrc : Src (w.alloc (.cells (Lib.runeCells r).toArray 5)) (.slice (some ⟨w.heap.size, 0, none⟩) (Lib.runeCells r).length (Lib.runeCells r).length) (Lib.encodeRune r) := by
    have := Src.of_row (o := 0) (n := (Lib.runeCells r).length) (c := (Lib.runeCells r).length) (A := some ⟨w.heap.size, 0, none⟩) hnew (fun _ => rfl) (by rw [Lib.runeCells_length]; omega)
    rwa [List.drop_zero, List.take_of_length_le (by rw [Lib.runeCells_length]; omega)] at this
  obtain ⟨w2, hrun, hblk, hfr⟩ := run_append_fit (P := Tryz.prog) (dT := 40) (xT := 40) (ty := 40) (n := i) (c := g.all.length) (o := 0) (D := some ⟨rw_, 0, none⟩) Tryz.underlying40 Tryz.underlying40 (fun k q => by cases q) hi0 hz1 hb hsrc (by omega) (fun _ => rfl) (by omega)
    (fun j h1 h2 => by omega)
  rw [Nat.zero_add] at hblk
  have hfin : Fr (fun x => g.row = some x) w w2 := ((Fr.refl _ w).alloc _).trans (hfr.mono fun x _ q => by rw [hr, q])
  have hrow2 : Row 5 w2 rw_ (splice g.all i (Lib.encodeRune r)) := ⟨fz, hblk, by rw [length_splice _ _ _ (by omega)]; exact hf⟩
  refine ⟨w2, by rw [hr]; exact hrun, ?_, hfin⟩
  refine BufRaw.putAll h.toBufRaw hr ?_ hrow2 (length_splice _ _ _ (by omega))
  exact hfin.mono fun x _ q => by rw [hr] at q; exact (Option.some.inj q).symm

theorem enc_good {r : Int} (h : ¬ badRune r) : enc r = Lib.encodeRune r := by simp [enc, h]

def WRPost (w : World) (b : Nat) (g : Gh) (l : List UInt8) (e : Ending) (w' : World) : Prop :=
  ∃ g', e = .returned (.tuple #[.int .i64 (l.length : Int), .nilIface]) ∧ BufStep w b g w' g' ∧ Wrote0 g l g'
set_option maxHeartbeats 1600000 in
set_option maxRecDepth 100000 in
theorem bufWR_ascii (r : Int) (w : World) (b : Nat) (g : Gh) (h : BufAt w b g) (h0 : 0 ≤ r) (h1 : r < 128) (hsz : g.txt.length + 1 ≤ 1099511627776) :
    Calls Tryz.prog 75 #[.pointer (some ⟨b, 0, none⟩), .int .i32 r] w (WRPost w b g (Lib.encodeRune r)) := by
  have he : Lib.encodeRune r = [r.toNat.toUInt8] := by simp [Lib.encodeRune, Lib.encodeRuneZ_one h0 (by omega)]
  have hx : ((r.toNat.toUInt8).toNat : Int) = r := by simp; omega
  have hc := bufWB r.toNat.toUInt8 w b g h hsz
  rw [hx] at hc
  have HE := Lib.hid he
  clear h hx he
  go_enter Tryz.func75, Tryz.ntmps75
  go_wp2_with fail
  refine hc.mono ?_
  rintro e w1 ⟨g', rfl, S1, W1⟩
  go_wp2_with fail
  go_ret2
  refine ⟨g', ?_, S1, ?_⟩
  · rw [HE.out]; rfl
  · rw [HE.out]; exact ⟨W1.txt, W1.lr⟩

theorem Wrote0.of_grown {g g1 : Gh} {l : List UInt8} {i n : Nat} (h : Grown { g with lr := 0 } n i g1) (hc : g1.len ≤ g1.all.length) (hl : l.length ≤ n) : Wrote0 g l { g1 with all := splice g1.all i l, len := i + l.length } := by
  have h1 := h.len
  refine ⟨?_, ?_⟩
  · simp only [Gh.txt]
    rw [splice_txt _ _ _ _ h.off (by omega)]
    have := h.txt
    simp only [Gh.txt] at this
    rw [this]
  · rcases h.lr with e | e <;> exact e
/-- What the write of a rune leaves behind the growth: the buffer's slice is b.buf[:i] with the rune's bytes. -/
theorem rune_put {w w2 : World} {b : Nat} {g g2 : Gh} {i k : Nat} (S : BufStep w b g w2 g2) {all : List UInt8} {w3 : World} (hr : BufRaw w3 b { g2 with all := all }) (hl : all.length = g2.all.length) (hf : Fr (fun x => g2.row = some x) w2 w3) (ho : g2.off ≤ i + k) (hk : i + k ≤ g2.all.length) :
    BufStep w b g (w3.setCell ⟨b, 0, none⟩ (.slice (rowA g2.row) (i + k) g2.all.length)) { g2 with all := all, len := i + k } := by
  have hp := hr.put0 (i + k)
  simp only [hl] at hp
  refine S.trans ⟨⟨hp, ho, by simp only [hl]; exact hk⟩, .inl rfl, ?_⟩
  exact (hf.mono fun _ _ q => .inr q).setCell (fun _ => .inl rfl) _

set_option maxHeartbeats 1600000 in
set_option maxRecDepth 100000 in
theorem bufWR_room (r : Int) (w : World) (b : Nat) (g : Gh) (h : BufAt w b g) (hgood : ¬ badRune r) (h1 : 128 ≤ r) (hb : 4 ≤ g.all.length - g.len) :
    Calls Tryz.prog 75 #[.pointer (some ⟨b, 0, none⟩), .int .i32 r] w (WRPost w b g (Lib.encodeRune r)) := by
  have hr2 : r ≤ 1114111 := by unfold badRune at hgood; omega
  have ho := h.ol; have hl := h.lc; have hz := h.sz
  have hle := Lib.encodeRuneZ_length r
  have hlen : (Lib.encodeRune r).length = (Lib.encodeRuneZ r).length := by simp [Lib.encodeRune]
  have H := Lib.hid h
  have HG := Lib.hid hgood
  have c2 := h.c2
  have f2 := h.f 2
  clear h hgood
  obtain ⟨k, hk⟩ : ∃ k, (Lib.encodeRune r).length = k := ⟨_, rfl⟩
  have hk4 : k ≤ 4 := by omega
  have HK := Lib.hid hk
  have hsub : (g.len : Int) + (k : Int) - (g.len : Int) = (k : Int) := by omega
  clear hle hlen hk
  go_enter Tryz.func75, Tryz.ntmps75
  go_wp2_with fail
  have S1 := BufStep.lr0 H.out 0
  refine (buf_try_yes _ b _ 4 S1.at' hb).mono ?_
  rintro e w2 ⟨rfl, H2, F2⟩
  have S2 := S1.trans (BufStep.of_just H2 rfl F2)
  obtain ⟨w3, ha, hraw, hfr⟩ := rune_fit H2 g.len r (by simp only; omega)
  have c0 := H2.c0
  simp only at c0 ha hraw hfr
  rw [HK.out] at ha
  have hsl := fun w' => slice_to g.row (g.len + 4) g.all.length g.len (by omega) w'
  have hc := appendRune_of _ _ r w2 w3 HG.out ha
  have HS := Lib.hid (rune_put (i := g.len) (k := k) S2 hraw (length_splice _ _ _ (by rw [HK.out]; omega)) hfr (by simp only; omega) (by simp only; omega))
  have hw := Wrote0.of_grown (l := Lib.encodeRune r) (Grown.of_try { g with lr := 0 } 4 ho) (by have := H2.lc; exact this) (by rw [HK.out]; exact hk4)
  rw [HK.out] at hw
  have HW := Lib.hid hw
  have k0 : w3.cell? ⟨b, 0, none⟩ = some (.slice (rowA g.row) (g.len + 4) g.all.length) := by
    have := hraw.c0
    simp only [length_splice _ _ _ (show g.len + (Lib.encodeRune r).length ≤ g.all.length by rw [HK.out]; omega)] at this
    exact this
  have k1 := hraw.f 0
  have HC := Lib.hid hc
  clear S1 S2 H2 F2 hw hraw hfr ha hc
  go_wp2_with fail
  refine HC.out.mono ?_
  rintro e w4 ⟨rfl, rfl⟩
  go_wp2_with fail
  go_ret2
  refine ⟨_, ?_, HS.out, HW.out⟩
  rw [HK.out]
  rfl
set_option maxHeartbeats 1600000 in
set_option maxRecDepth 100000 in
theorem bufWR_grow (r : Int) (w : World) (b : Nat) (g : Gh) (h : BufAt w b g) (hgood : ¬ badRune r) (h1 : 128 ≤ r) (hb : g.all.length - g.len < 4) (hsz : g.txt.length + 4 ≤ 1099511627776) :
    Calls Tryz.prog 75 #[.pointer (some ⟨b, 0, none⟩), .int .i32 r] w (WRPost w b g (Lib.encodeRune r)) := by
  have hr2 : r ≤ 1114111 := by unfold badRune at hgood; omega
  have ho := h.ol; have hl := h.lc; have hz := h.sz
  have hle := Lib.encodeRuneZ_length r
  have hlen : (Lib.encodeRune r).length = (Lib.encodeRuneZ r).length := by simp [Lib.encodeRune]
  have H := Lib.hid h
  have HG := Lib.hid hgood
  have c2 := h.c2
  have f2 := h.f 2
  clear h hgood
  obtain ⟨k, hk⟩ : ∃ k, (Lib.encodeRune r).length = k := ⟨_, rfl⟩
  have hk4 : k ≤ 4 := by omega
  have HK := Lib.hid hk
  clear hle hlen hk
  go_enter Tryz.func75, Tryz.ntmps75
  go_wp2_with fail
  have S1 := BufStep.lr0 H.out 0
  refine (buf_try_no _ b _ 4 S1.at' hb).mono ?_
  rintro e w1 ⟨rfl, rfl⟩
  go_wp2_with fail
  refine (grow_any 4 _ b _ S1.at' hsz).mono ?_
  rintro e w2 ⟨i, g2, rfl, S2', G2⟩
  have hi := G2.len
  have hlc := S2'.at'.lc
  have hoff := G2.off
  have hz2 := S2'.at'.sz
  have S2 := S1.trans S2'
  obtain ⟨w3, ha, hraw, hfr⟩ := rune_fit S2'.at' i r (by omega)
  have c0 := S2'.at'.c0
  rw [HK.out] at ha
  have hsub : (i : Int) + (k : Int) - (i : Int) = (k : Int) := by omega
  have hsl := fun w' => slice_to g2.row g2.len g2.all.length i (by omega) w'
  have hc := appendRune_of _ _ r w2 w3 HG.out ha
  have HS := Lib.hid (rune_put (i := i) (k := k) S2 hraw (length_splice _ _ _ (by rw [HK.out]; omega)) hfr (by omega) (by omega))
  have hw := Wrote0.of_grown (l := Lib.encodeRune r) G2 hlc (by rw [HK.out]; exact hk4)
  rw [HK.out] at hw
  have HW := Lib.hid hw
  have k0 : w3.cell? ⟨b, 0, none⟩ = some (.slice (rowA g2.row) g2.len g2.all.length) := by
    have := hraw.c0
    simp only [length_splice _ _ _ (show i + (Lib.encodeRune r).length ≤ g2.all.length by rw [HK.out]; omega)] at this
    exact this
  have k1 := hraw.f 0
  have HC := Lib.hid hc
  clear S1 S2 S2' G2 hw hraw hfr ha hc
  go_wp2_with fail
  refine HC.out.mono ?_
  rintro e w4 ⟨rfl, rfl⟩
  go_wp2_with fail
  go_ret2
  refine ⟨_, ?_, HS.out, HW.out⟩
  rw [HK.out]
  rfl

theorem bufWR (r : Int) (w : World) (b : Nat) (g : Gh) (h : BufAt w b g) (hgood : ¬ badRune r) (hsz : g.txt.length + 4 ≤ 1099511627776) :
    Calls Tryz.prog 75 #[.pointer (some ⟨b, 0, none⟩), .int .i32 r] w (WRPost w b g (enc r)) := by
  rw [enc_good hgood]
  by_cases h1 : r < 128
  · exact bufWR_ascii r w b g h (by unfold badRune at hgood; omega) h1 (by omega)
  · by_cases hb : 4 ≤ g.all.length - g.len
    · exact bufWR_room r w b g h hgood (by omega) hb
    · exact bufWR_grow r w b g h hgood (by omega) (by omega) hsz
end Go.Proofs.YtbodbajgpgaoeaaGreatDoor

namespace Go.Proofs.YtbodbajgpgaoeaaGreatDoor
open Go Go.RowKit

theorem get!_list (l : List UInt8) (j : Nat) : (ByteArray.mk l.toArray).get! j = l.getD j 0 := by
  simp only [ByteArray.get!]
  by_cases h : j < l.length
  · simp [h]
  · simp [h]
    rfl
/-- utf8.DecodeRune of bytes that lie in a row. -/
theorem decode_row {E : TypeId} {w : World} {r o c : Nat} {all l : List UInt8} (hT : Lib.Utf8Tabs 6 7 w) (hrow : Row E w r all) (hl : (all.drop o).take l.length = l) (ho : o + l.length ≤ all.length) (h0 : l ≠ []) :
    Calls Tryz.prog 106 #[.slice (some ⟨r, o, none⟩) l.length c] w fun e w' => e = .returned (.tuple #[.int .i32 (dec l).1, .int .i64 ((dec l).2 : Int)]) ∧ Fr (fun _ => False) w w' := by
  have hs : (ByteArray.mk l.toArray).size = l.length := by simp [ByteArray.size]
  have h := Any7.utf8_DecodeRune decLays ⟨l.toArray⟩ r o c w hT (fun j hj => by
    rw [hs] at hj
    have := hrow.cell (o + j) (by omega)
    rw [this]
    have e : l[j]? = all[o + j]? := by
      conv => lhs; rw [← hl]
      simp [hj]
    rw [List.getElem?_eq_getElem hj, List.getElem?_eq_getElem (by omega)] at e
    injection e with e
    rw [get!_list, List.getD_eq_getElem?_getD, List.getElem?_eq_getElem hj, ← e]
    rfl)
  rw [hs] at h
  have hd : Lib.decodeGo ⟨l.toArray⟩ = Lib.decodeN l.length (l.getD 0 0).toNat (l.getD 1 0).toNat (l.getD 2 0).toNat (l.getD 3 0).toNat := by
    have hne : ¬ l.length = 0 := fun q => h0 (List.eq_nil_of_length_eq_zero q)
    simp only [Lib.decodeGo, hs, hne, if_false]
    rw [Lib.decode_at, hs]
    simp only [get!_list, Nat.sub_zero, Nat.zero_add]
  refine Calls.mono h ?_
  rintro e w' ⟨rfl, hb⟩
  rw [hd]
  exact ⟨rfl, Fr.of_below hb⟩
theorem dec_ascii (x : UInt8) (l : List UInt8) (h : x.toNat < 128) : dec (x :: l) = ((x.toNat : Int), 1) := by
  simp [dec, Lib.decodeN, h]
/-- What decode takes lies within what there is. -/
theorem decodeN_le (n b0 b1 b2 b3 : Nat) (hn : 1 ≤ n) : 1 ≤ (Lib.decodeN n b0 b1 b2 b3).2 ∧ (Lib.decodeN n b0 b1 b2 b3).2 ≤ n ∧ (Lib.decodeN n b0 b1 b2 b3).2 ≤ 4 := by
  unfold Lib.decodeN
  split
  · simp; omega
  · split
    · rename_i h1 h2
      split <;> simp <;> omega
    · split
      · rename_i h1 h2 h3
        split <;> simp <;> omega
      · split
        · rename_i h1 h2 h3 h4
          split <;> simp <;> omega
        · simp; omega
theorem dec_le (l : List UInt8) (h : l ≠ []) : 1 ≤ (dec l).2 ∧ (dec l).2 ≤ l.length ∧ (dec l).2 ≤ 4 :=
  decodeN_le _ _ _ _ _ (List.length_pos_iff.2 h)

/-- Behind a read of a rune of k bytes. -/
def Gh.rr (g : Gh) (k : Nat) : Gh := { g with off := g.off + k, lr := (k : Int) }
set_option maxHeartbeats 800000 in
set_option maxRecDepth 100000 in
theorem buf_readRune_eof (w : World) (b : Nat) (g : Gh) (ea : Addr) (h : BufAt w b g) (hlt : g.len ≤ g.off) (he : w.cell? ⟨0, 0, none⟩ = some (.iface 161 (.pointer (some ea)))) (hbe : b ≠ 0) :
    Calls Tryz.prog 82 #[.pointer (some ⟨b, 0, none⟩)] w fun e w' => e = .returned (.tuple #[.int .i32 0, .int .i64 0, .iface 161 (.pointer (some ea))]) ∧ BufAt w' b g.rs ∧ Fr (Just b) w w' := by
  have H := Lib.hid h
  have HE := Lib.hid he
  clear h he
  go_enter Tryz.func82, Tryz.ntmps82
  go_wp2_with fail
  refine (buf_empty_yes _ b _ H.out hlt).mono ?_
  rintro e w1 ⟨rfl, H1, F1⟩
  go_wp2_with fail
  refine (buf_reset _ b _ H1).mono ?_
  rintro e w2 ⟨rfl, H2, F2⟩
  have hF : Fr (Just b) w w2 := (F1.mono (fun _ _ q => q.elim)).trans F2
  have hE2 := (hF.cell (World.block_lt_of_cell? _ _ HE.out) (fun q => hbe q.symm)).trans HE.out
  have HF := Lib.hid hF
  have HA := Lib.hid H2
  clear H1 F1 H2 F2 hF
  go_wp2_with fail
  go_quiet (fail)
  go_wp2_with fail
  go_ret3
  exact ⟨rfl, HA.out.drewN _, HF.out.drewN _⟩

set_option maxHeartbeats 1600000 in
set_option maxRecDepth 100000 in
theorem buf_readRune_ascii (w : World) (b : Nat) (g : Gh) (x : UInt8) (t : List UInt8) (h : BufAt w b g) (ht : g.txt = x :: t) (hx : x.toNat < 128) :
    Calls Tryz.prog 82 #[.pointer (some ⟨b, 0, none⟩)] w fun e w' => e = .returned (.tuple #[.int .i32 (x.toNat : Int), .int .i64 1, .nilIface]) ∧ BufAt w' b (g.rr 1) ∧ Fr (Just b) w w' := by
  obtain ⟨r, hr, hc, hlt, htl⟩ := h.byte ht
  have hz := h.sz
  have hl := h.lc
  have H := Lib.hid h
  have HC := Lib.hid hc
  have HR := Lib.hid hr
  clear h hc
  go_enter Tryz.func82, Tryz.ntmps82
  go_wp2_with fail
  refine (buf_empty_no _ b _ H.out hlt).mono ?_
  rintro e w1 ⟨rfl, H1, F1⟩
  have k0 := H1.c0
  have k1 := H1.c1
  have k2 := H1.c2
  have e1 := H1.f 1
  have e2 := H1.f 2
  have kc := (F1.cell (World.block_lt_of_cell? _ _ HC.out) (fun q => q)).trans HC.out
  rw [HR.out, rowA_some] at k0
  have HA1 := Lib.hid H1
  have HF1 := Lib.hid F1
  clear H1 F1 hr
  go_wp2_with fail
  go_quiet (fail)
  have hA3 := (HA1.out.drewN nq).off' (g.off + 1) (by omega)
  have q2 := hA3.c2
  have q3 := hA3.f 2
  have HA4 := Lib.hid (hA3.lr0 1)
  have HF2 := Lib.hid (HF1.out.drewN nq)
  clear hA3
  go_wp2_with fail
  go_ret3
  exact ⟨rfl, HA4.out, (((HF2.out.mono (S' := Just b) fun _ _ q => q.elim).setCell (fun _ => just_self b) _).setCell (fun _ => just_self b) _)⟩

set_option maxHeartbeats 1600000 in
set_option maxRecDepth 100000 in
theorem buf_readRune_slow (w : World) (b : Nat) (g : Gh) (x : UInt8) (t : List UInt8) (h : BufAt w b g) (ht : g.txt = x :: t) (hx : 128 ≤ x.toNat) (hT : ∀ w', Fr (fun _ => False) w w' → Lib.Utf8Tabs 6 7 w') :
    Calls Tryz.prog 82 #[.pointer (some ⟨b, 0, none⟩)] w fun e w' => e = .returned (.tuple #[.int .i32 (dec g.txt).1, .int .i64 ((dec g.txt).2 : Int), .nilIface]) ∧ BufAt w' b (g.rr (dec g.txt).2) ∧ Fr (Just b) w w' := by
  obtain ⟨r, hr, hc, hlt, htl⟩ := h.byte ht
  have hz := h.sz
  have hl := h.lc
  have hd := dec_le g.txt (by rw [ht]; simp)
  have hdec : ∀ w', Fr (fun _ => False) w w' → Calls Tryz.prog 106 #[.slice (some ⟨r, g.off, none⟩) (g.len - g.off) (g.all.length - g.off)] w' fun e w'' => e = .returned (.tuple #[.int .i32 (dec g.txt).1, .int .i64 ((dec g.txt).2 : Int)]) ∧ Fr (fun _ => False) w' w'' := by
    intro w' hf
    have hrow := (h.row r hr).fr hf (fun q => q)
    have := decode_row (o := g.off) (c := g.all.length - g.off) (l := g.txt) (hT w' hf) hrow (by rw [htl, Gh.txt_take g _ (by omega), List.take_of_length_le (by omega)]) (by omega) (by rw [ht]; simp)
    rwa [htl] at this
  have hsl := fun w' => slice_from g.row g.len g.all.length g.off (by omega) w'
  have hcut : cutA g.row g.off g.all.length = some ⟨r, g.off, none⟩ := by rw [hr]; exact cutA_some r _ _ (by omega)
  rw [hcut, hr, rowA_some] at hsl
  obtain ⟨D, hD⟩ : ∃ D, (dec g.txt).1 = D := ⟨_, rfl⟩
  obtain ⟨n, hn⟩ : ∃ n, (dec g.txt).2 = n := ⟨_, rfl⟩
  rw [hD, hn] at hdec
  rw [hn] at hd
  rw [hD, hn]
  have H := Lib.hid h
  have HC := Lib.hid hc
  have HR := Lib.hid hr
  have HD := Lib.hid hdec
  clear h hc hD hn hdec hcut
  go_enter Tryz.func82, Tryz.ntmps82
  go_wp2_with fail
  refine (buf_empty_no _ b _ H.out hlt).mono ?_
  rintro e w1 ⟨rfl, H1, F1⟩
  have k0 := H1.c0
  have k1 := H1.c1
  have k2 := H1.c2
  have e1 := H1.f 1
  have e2 := H1.f 2
  have kc := (F1.cell (World.block_lt_of_cell? _ _ HC.out) (fun q => q)).trans HC.out
  rw [HR.out, rowA_some] at k0
  have HA1 := Lib.hid H1
  have HF1 := Lib.hid F1
  clear H1 F1 hr
  go_wp2_with fail
  go_quiet (fail)
  go_wp2_with fail
  have HF2 := Lib.hid ((HF1.out.drewN nq).drew)
  have HA2 := Lib.hid ((HA1.out.drewN nq).drew)
  go_region_held3 (fun w' => w'.cell? ⟨b, 0, none⟩ = some (.slice (some ⟨r, 0, none⟩) g.len g.all.length) ∧ w'.cell? ⟨b, 1, none⟩ = some (.int .i64 (g.off : Int))) (go_keep) ((go_at_call 106; refine (HD.out _ HF2.out).mono ?_; rintro e w2 ⟨rfl, F3⟩; have A3 := HA2.out.fr F3 (fun _ _ q => q); have d0 := A3.c0; have d1 := A3.c1; have d2 := A3.c2; have g1 := A3.f 1; have g2 := A3.f 2; rw [HR.out, rowA_some] at d0; have HA3 := Lib.hid A3; have HF3 := Lib.hid (HF2.out.trans F3); clear A3 F3))
  have hA4 := HA3.out.off' (g.off + n) (by omega)
  have q2 := hA4.c2
  have q3 := hA4.f 2
  have HA5 := Lib.hid (hA4.lr0 (n : Int))
  clear hA4
  go_wp2_with fail
  go_ret3
  exact ⟨rfl, HA5.out, (((HF3.out.mono (S' := Just b) fun _ _ q => q.elim).setCell (fun _ => just_self b) _).setCell (fun _ => just_self b) _)⟩

theorem buf_readRune_some (w : World) (b : Nat) (g : Gh) (h : BufAt w b g) (ht : g.txt ≠ []) (hT : ∀ w', Fr (fun _ => False) w w' → Lib.Utf8Tabs 6 7 w') :
    Calls Tryz.prog 82 #[.pointer (some ⟨b, 0, none⟩)] w fun e w' => e = .returned (.tuple #[.int .i32 (dec g.txt).1, .int .i64 ((dec g.txt).2 : Int), .nilIface]) ∧ BufAt w' b (g.rr (dec g.txt).2) ∧ Fr (Just b) w w' := by
  cases hx : g.txt with
  | nil => exact absurd hx ht
  | cons x t =>
    by_cases h8 : x.toNat < 128
    · rw [dec_ascii x t h8]
      exact buf_readRune_ascii w b g x t h hx h8
    · rw [← hx]
      exact buf_readRune_slow w b g x t h hx (by omega) hT
end Go.Proofs.YtbodbajgpgaoeaaGreatDoor

namespace Go.Proofs.YtbodbajgpgaoeaaGreatDoor
open Go Go.RowKit

/-- What a builder is made of: the block of its bytes, what is built, the capacity, whether it knows its own address. -/
structure BG where
  row : Option Nat
  txt : List UInt8
  cap : Nat
  chk : Bool

def BG.ptr (d : Nat) (g : BG) : Value := .pointer (if g.chk then some ⟨d, 0, none⟩ else none)
/-- Block d is a strings.Builder with this state. -/
structure BldAt (w : World) (d : Nat) (g : BG) : Prop where
  st : w.heap[d]? = some (.cells #[g.ptr d, .slice (rowA g.row) g.txt.length g.cap] 90 (0, 0))
  row : ∀ r, g.row = some r → ∃ (rest : List Value) (fz : Nat × Nat), w.heap[r]? = some (.cells (bcs g.txt ++ rest).toArray 5 fz) ∧ g.txt.length + rest.length = g.cap ∧ fz.2 ≤ g.txt.length
  pos : ∀ r, g.row = some r → 0 < g.cap
  nil : g.row = none → g.txt = [] ∧ g.cap = 0
  sz : g.cap ≤ 9223372036854775807

/-- The blocks that a builder lies in. -/
def BG.foot (d : Nat) (g : BG) : Nat → Prop := fun x => x = d ∨ g.row = some x
section
variable {w w' : World} {d : Nat} {g : BG}
theorem BldAt.lt (h : BldAt w d g) : d < w.heap.size := lt_of_blk h.st
theorem BldAt.c0 (h : BldAt w d g) : w.cell? ⟨d, 0, none⟩ = some (g.ptr d) := by rw [cell_of_row w d 0 _ _ _ h.st]; rfl
theorem BldAt.c1 (h : BldAt w d g) : w.cell? ⟨d, 1, none⟩ = some (.slice (rowA g.row) g.txt.length g.cap) := by rw [cell_of_row w d 1 _ _ _ h.st]; rfl
theorem BldAt.f (h : BldAt w d g) (i : Nat) : w.frozen? ⟨d, i, none⟩ = false := by simp [World.frozen?, h.st]
theorem BldAt.rne (h : BldAt w d g) {r : Nat} (hr : g.row = some r) : r ≠ d := by
  rintro rfl
  obtain ⟨rest, fz, h1, _⟩ := h.row r hr
  rw [h.st] at h1
  injection h1 with h1
  injection h1 with _ h1
  exact absurd h1 (by decide)
theorem BldAt.lc (h : BldAt w d g) : g.txt.length ≤ g.cap := by
  cases hr : g.row with
  | none => have := h.nil hr; simp [this.1]
  | some r => obtain ⟨rest, fz, _, h2, _⟩ := h.row r hr; omega
theorem BldAt.fr {S : Nat → Prop} (h : BldAt w d g) (hf : Fr S w w') (hn : ∀ x, g.foot d x → ¬ S x) : BldAt w' d g := by
  refine ⟨hf.blk h.st (hn d (.inl rfl)), fun r hr => ?_, h.pos, h.nil, h.sz⟩
  obtain ⟨rest, fz, h1, h2⟩ := h.row r hr
  exact ⟨rest, fz, hf.blk h1 (hn r (.inr hr)), h2⟩
theorem BldAt.drew (h : BldAt w d g) : BldAt w.drew d g := ⟨h.st, h.row, h.pos, h.nil, h.sz⟩
theorem BldAt.drewN (h : BldAt w d g) (n : Nat) : BldAt (w.drewN n) d g := ⟨h.st, h.row, h.pos, h.nil, h.sz⟩
theorem BldAt.src (h : BldAt w d g) : Src w (.slice (rowA g.row) g.txt.length g.cap) g.txt := by
  refine .inr ⟨_, _, rfl, fun q => ?_⟩
  cases hr : g.row with
  | none => have := h.nil hr; simp [this.1] at q
  | some r =>
    obtain ⟨rest, fz, h1, _⟩ := h.row r hr
    refine ⟨_, rfl, fun j x hj => ?_⟩
    have hjl : j < g.txt.length := (List.getElem?_eq_some_iff.1 hj).1
    rw [addr_add, Nat.zero_add, cell_of_row w r j _ _ _ h1]
    simp only [List.getElem?_toArray]
    rw [List.getElem?_append_left (by simpa using hjl)]
    exact bcs_get hj
/-- The struct's first cell laid anew: it knows its address. -/
theorem BldAt.chk' (h : BldAt w d g) : BldAt (w.setCell ⟨d, 0, none⟩ (.pointer (some ⟨d, 0, none⟩))) d { g with chk := true } := by
  refine ⟨?_, fun r hr => ?_, h.pos, h.nil, h.sz⟩
  · have := h.st
    simp [World.setCell, Array.getElem?_modify, this, BG.ptr]
  · obtain ⟨rest, fz, h1, h2⟩ := h.row r hr
    exact ⟨rest, fz, (Below.heap_setCell w _ _ r (h.rne hr)).trans h1, h2⟩
end

theorem bld_lies : liesAt Tryz.prog Tryz.prog.depth 90 (2 / Tryz.prog.cellsOf 90) 0 90 1 = true := by kernel_rfl
theorem cells_byte : Tryz.prog.cellsOf 5 = 1 := by kernel_rfl
theorem bld_size : (Tryz.prog.info? 90).map (·.size) = some 2 := by kernel_rfl
section
variable (w : World) (d : Nat) (g : BG)
set_option maxRecDepth 100000 in
theorem bld_len (h : BldAt w d g) : Calls Tryz.prog 53 #[.pointer (some ⟨d, 0, none⟩)] w fun e w' => e = .returned (.int .i64 (g.txt.length : Int)) ∧ w' = w := by
  have c1 := h.c1
  clear h
  go_enter Tryz.func53, Tryz.ntmps53
  go_wp2
  go_ret
  exact ⟨rfl, rfl⟩
set_option maxRecDepth 100000 in
theorem bld_reset (h : BldAt w d g) : Calls Tryz.prog 72 #[.pointer (some ⟨d, 0, none⟩)] w fun e w' => e = .returned (.tuple #[]) ∧ BldAt w' d ⟨none, [], 0, false⟩ ∧ Fr (Just d) w w' := by
  have c0 := h.c0
  have c1 := h.c1
  have f0 := h.f 0
  have f1 := h.f 1
  have H := Lib.hid h
  clear h
  go_enter Tryz.func72, Tryz.ntmps72
  go_wp2
  go_end0
  refine ⟨rfl, ⟨?_, (fun r q => by cases q), (fun r q => by cases q), fun _ => ⟨rfl, rfl⟩, by simp⟩, ((Fr.refl _ w).setCell (fun _ => just_self d) _).setCell (fun _ => just_self d) _⟩
  have := H.out.st
  simp [World.setCell, Array.getElem?_modify, this, BG.ptr]
set_option maxRecDepth 100000 in
theorem bld_check (h : BldAt w d g) : Calls Tryz.prog 100 #[.pointer (some ⟨d, 0, none⟩)] w fun e w' => e = .returned (.tuple #[]) ∧ BldAt w' d { g with chk := true } ∧ Fr (Just d) w w' := by
  have c0 := h.c0
  have f0 := h.f 0
  have H := Lib.hid h
  obtain ⟨j, hj, hjs⟩ := Option.map_eq_some_iff.1 bld_size
  have hsh : w.shape? d = some (90, 2) := by simp [World.shape?, h.st]
  clear h
  cases hc : g.chk with
  | false =>
    unfold BG.ptr at c0
    rw [hc] at c0
    simp only [Bool.false_eq_true, if_false] at c0
    go_enter Tryz.func100, Tryz.ntmps100
    go_wp2_with fail
    rw [Lib.run_to_unsafe w ⟨d, 0, none⟩ Tryz.underlying74 Tryz.underlying154 hj (by rw [hjs]; decide) hsh (Nat.zero_lt_succ 1)]
    simp only [Result.andThen]
    rw [Oper.upon_value]
    go_wp2_with fail
    rw [run_callFunc_extern Tryz.func110 (by kernel_rfl) (by kernel_rfl) (by kernel_rfl) (e := Extern.AbiNoEscape.same) (by kernel_rfl)]
    rw [Lib.run_noEscape]
    simp only [Result.andThen]
    rw [Oper.upon_value]
    go_wp2_with fail
    rw [Lib.run_from_unsafe w ⟨d, 0, none⟩ Tryz.underlying154 Tryz.underlying74 hj hsh bld_lies]
    simp only [Result.andThen]
    rw [Oper.upon_value]
    go_wp2_with fail
    go_end0
    exact ⟨rfl, H.out.chk', just_set _ _ _ _⟩
  | true =>
    unfold BG.ptr at c0
    rw [hc] at c0
    simp only [if_true] at c0
    go_enter Tryz.func100, Tryz.ntmps100
    go_wp2_with fail
    rw [Lib.run_neq_ptr_same w _ Tryz.underlying74 hj]
    go_wp2_with fail
    go_end0
    refine ⟨rfl, ?_, Fr.refl _ _⟩
    have := H.out
    obtain ⟨a1, a2, a3, a4⟩ := g
    simp only at hc
    subst hc
    exact this
end
end Go.Proofs.YtbodbajgpgaoeaaGreatDoor

namespace Go.Proofs.YtbodbajgpgaoeaaGreatDoor
open Go Go.RowKit

/-- A step of a builder: where it lies then. -/
structure BldStep (w : World) (d : Nat) (g : BG) (w' : World) (g' : BG) : Prop where
  at' : BldAt w' d g'
  row : g'.row = g.row ∨ g'.row = none ∨ ∃ r, g'.row = some r ∧ w.heap.size ≤ r
  fr : Fr (g.foot d) w w'
/-- What a write of l leaves. -/
structure Built (g : BG) (l : List UInt8) (g' : BG) : Prop where
  txt : g'.txt = g.txt ++ l
  cap : g.txt.length + l.length ≤ g.cap → g'.cap = g.cap

theorem BldStep.trans {w w1 w2 : World} {d : Nat} {g g1 g2 : BG} (h : BldStep w d g w1 g1) (k : BldStep w1 d g1 w2 g2) : BldStep w d g w2 g2 := by
  refine ⟨k.at', ?_, h.fr.trans' k.fr ?_⟩
  · rcases k.row with e | e | ⟨r, e, hr⟩
    · rw [e]
      exact h.row
    · exact .inr (.inl e)
    · exact .inr (.inr ⟨r, e, Nat.le_trans h.fr.size hr⟩)
  · intro i hi q
    rcases q with q | q
    · exact .inl q
    · rcases h.row with e | e | ⟨r, e, hr⟩
      · exact .inr (e ▸ q)
      · rw [e] at q; cases q
      · rw [e] at q; injection q with q; omega
theorem BldStep.of_just {w w' : World} {d : Nat} {g g' : BG} (h : BldAt w' d g') (hr : g'.row = g.row) (hf : Fr (Just d) w w') : BldStep w d g w' g' := ⟨h, .inl hr, hf.mono fun _ _ q => .inl q⟩
theorem BldAt.toSrc {w w' : World} {d : Nat} {g : BG} {v : Value} {l : List UInt8} (hb : BldAt w d g) (h : Src w v l) (hf : Fr (Just d) w w') : Src w' v l := by
  refine h.fr hf fun i c E fz q hc j x hj => ?_
  obtain rfl : i = d := q
  rw [hb.st] at hc
  injection hc with hc
  injection hc with hc
  subst hc
  match j, hj with
  | 0, hj => simp [BG.ptr] at hj
  | 1, hj => simp at hj
  | j + 2, hj => simp at hj

/-- A new slice in the struct. -/
theorem BldAt.put {w w' : World} {d : Nat} {g : BG} {row : Option Nat} {txt : List UInt8} {cap : Nat} (h : BldAt w d g) (hf : Fr (fun x => g.row = some x) w w')
    (hrow : ∀ r, row = some r → r ≠ d ∧ 0 < cap ∧ ∃ (rest : List Value) (fz : Nat × Nat), w'.heap[r]? = some (.cells (bcs txt ++ rest).toArray 5 fz) ∧ txt.length + rest.length = cap ∧ fz.2 ≤ txt.length)
    (hnil : row = none → txt = [] ∧ cap = 0) (hc : cap ≤ 9223372036854775807) : BldAt (w'.setCell ⟨d, 1, none⟩ (.slice (rowA row) txt.length cap)) d ⟨row, txt, cap, g.chk⟩ := by
  have hst : w'.heap[d]? = _ := hf.blk h.st (fun q => h.rne q rfl)
  refine ⟨?_, fun r hr => ?_, fun r hr => (hrow r hr).2.1, hnil, hc⟩
  · simp [World.setCell, Array.getElem?_modify, hst, BG.ptr]
  · obtain ⟨h1, h2, rest, fz, h3, h4⟩ := hrow r hr
    exact ⟨rest, fz, (Below.heap_setCell w' _ _ r h1).trans h3, h4⟩

/-- append to a builder's bytes. -/
structure BldApp (w : World) (d : Nat) (g : BG) (l : List UInt8) (v : Value) (w' : World) (g' : BG) : Prop where
  val : v = .slice (rowA g'.row) g'.txt.length g'.cap
  at' : BldAt (w'.setCell ⟨d, 1, none⟩ v) d g'
  built : Built g l g'
  chk : g'.chk = g.chk
  row : g'.row = g.row ∨ g'.row = none ∨ ∃ r, g'.row = some r ∧ w.heap.size ≤ r
  fr : Fr (fun x => g.row = some x) w w'
theorem BldApp.c1 {w w' : World} {d : Nat} {g g' : BG} {l : List UInt8} {v : Value} (h : BldApp w d g l v w' g') (hb : BldAt w d g) : w'.cell? ⟨d, 1, none⟩ = some (.slice (rowA g.row) g.txt.length g.cap) :=
  (h.fr.cell hb.lt (fun q => hb.rne q rfl)).trans hb.c1
theorem BldApp.f1 {w w' : World} {d : Nat} {g g' : BG} {l : List UInt8} {v : Value} (h : BldApp w d g l v w' g') (hb : BldAt w d g) : w'.frozen? ⟨d, 1, none⟩ = false := by
  have := h.fr.blk hb.st (fun q => hb.rne q rfl)
  simp [World.frozen?, this]
theorem BldApp.step {w w' : World} {d : Nat} {g g' : BG} {l : List UInt8} {v : Value} (h : BldApp w d g l v w' g') : BldStep w d g (w'.setCell ⟨d, 1, none⟩ v) g' :=
  ⟨h.at', h.row, (h.fr.mono fun _ _ q => .inr q).setCell (fun _ => .inl rfl) _⟩

theorem bld_app {w : World} {d : Nat} {g : BG} {l : List UInt8} {x : Value} {xT ty : TypeId} {u : TypeDesc} (h : BldAt w d g) (hx : Tryz.prog.underlying xT = some u) (hnot : ∀ k, u ≠ .int k) (hs : Src w x l) (hl : g.txt.length + l.length ≤ 1099511627776) :
    ∃ v w' g', (Builtin.append_ #[40, xT] ty #[.slice (rowA g.row) g.txt.length g.cap, x]).run Tryz.prog w = .ok v w' ∧ BldApp w d g l v w' g' := by
  obtain ⟨i0, hi, hz0, hz1, hz2⟩ := info_parts info_u8
  have hlen := run_lenOf_src (P := Tryz.prog) hs
  have hf := run_firstCells_src (P := Tryz.prog) hs l.length (Nat.le_refl _)
  rw [List.take_length] at hf
  by_cases hfit : g.txt.length + l.length ≤ g.cap
  · cases hr : g.row with
    | none =>
      obtain ⟨h1, h2⟩ := h.nil hr
      obtain rfl : l = [] := by rw [h1, h2] at hfit; exact List.eq_nil_of_length_eq_zero (by simpa using hfit)
      refine ⟨.slice none 0 0, w, g, ?_, ⟨by rw [hr, h1, h2]; rfl, ?_, ⟨by simp, fun _ => rfl⟩, rfl, .inl rfl, Fr.refl _ _⟩⟩
      · rw [h1, h2]
        have hf0 : (Builtin.firstCells 1 0 x).run Tryz.prog w = .ok (bcs []).toArray w := hf
        simp [Builtin.append_, run_underlying Tryz.underlying40, run_underlying hx, sizeOf, typeInfo, hi, hz1, hlen, hf0]
      · have := h.put (row := none) (txt := []) (cap := 0) (Fr.refl _ w) (fun r q => by cases q) (fun _ => ⟨rfl, rfl⟩) (by simp)
        obtain ⟨a1, a2, a3, a4⟩ := g
        simp only at hr h1 h2
        subst hr h1 h2
        exact this
    | some r =>
      obtain ⟨rest, fz, hb, hc, hz⟩ := h.row r hr
      have hst := run_storeCells_free Tryz.prog r g.txt.length 5 fz (bcs l) 0 (bcs g.txt ++ rest).toArray w hb (fun j h3 h4 => by omega) (by simp; omega) (bcs_one _)
      have e : (bcs g.txt ++ rest).toArray.toList.take (g.txt.length + 0) ++ bcs l ++ (bcs g.txt ++ rest).toArray.toList.drop (g.txt.length + 0 + (bcs l).length) = bcs (g.txt ++ l) ++ rest.drop l.length := by
        simp only [Nat.add_zero, bcs_append]
        rw [List.take_append_of_le_length (by simp), List.take_of_length_le (by simp), List.drop_append]
        simp
      rw [e] at hst
      have hfr : Fr (fun x => g.row = some x) w (w.setRow r (bcs (g.txt ++ l) ++ rest.drop l.length).toArray) := (Fr.refl _ w).setRow (fun _ => hr) _
      refine ⟨.slice (some ⟨r, 0, none⟩) (g.txt ++ l).length g.cap, w.setRow r (bcs (g.txt ++ l) ++ rest.drop l.length).toArray, ⟨some r, g.txt ++ l, g.cap, g.chk⟩, ?_, ⟨rfl, ?_, ⟨rfl, fun _ => rfl⟩, rfl, .inl hr.symm, hfr⟩⟩
      · have hv : (rowA (some r)) = some ⟨r, 0, none⟩ := rfl
        rw [hv]
        simp [Builtin.append_, run_underlying Tryz.underlying40, run_underlying hx, sizeOf, typeInfo, hi, hz1, hlen, hfit, hf, addr_add, hst]
      · refine h.put (row := some r) (txt := g.txt ++ l) (cap := g.cap) hfr (fun r' q => ?_) (fun q => by cases q) h.sz
        injection q with q
        subst q
        refine ⟨h.rne hr, h.pos _ hr, rest.drop l.length, fz, setRow_heap w r _ _ _ _ hb, ?_, ?_⟩
        · simp; omega
        · simp; omega
  · obtain ⟨cap2, w', hrun, hblk, hge, hle, hfr, hsz⟩ := run_append_grow (P := Tryz.prog) (dT := 40) (xT := xT) (ty := ty) (n := g.txt.length) (c := g.cap) Tryz.underlying40 hx hnot hi hz1 hz2 hz0 h.src rfl hs (by omega) (by omega)
    have hne : ¬ l = [] := by
      rintro rfl
      have := h.lc
      simp at hfit
      omega
    have hlp := List.length_pos_iff.2 hne
    refine ⟨_, w', ⟨some w.heap.size, g.txt ++ l, cap2, g.chk⟩, hrun, ⟨by simp, ?_, ⟨rfl, fun q => absurd q hfit⟩, rfl, .inr (.inr ⟨_, rfl, Nat.le_refl _⟩), hfr.mono fun _ _ q => q.elim⟩⟩
    have := h.put (row := some w.heap.size) (txt := g.txt ++ l) (cap := cap2) (hfr.mono fun _ _ q => q.elim) (fun r q => ?_) (fun q => by cases q) hle
    · simpa using this
    · injection q with q
      subst q
      refine ⟨fun q => by have := h.lt; omega, by omega, bcs (List.replicate (cap2 - (g.txt.length + l.length)) 0), (0, 0), ?_, by simp; omega, Nat.zero_le _⟩
      rw [← bcs_append]
      exact hblk

def BWPost (w : World) (d : Nat) (g : BG) (l : List UInt8) (e : Ending) (w' : World) : Prop :=
  ∃ g', e = .returned (.tuple #[.int .i64 (l.length : Int), .nilIface]) ∧ BldStep w d g w' g' ∧ Built g l g'
theorem Built.chk {g g' : BG} {l : List UInt8} (h : Built { g with chk := true } l g') : Built g l g' := ⟨h.txt, h.cap⟩
theorem BldStep.chk {w w' : World} {d : Nat} {g : BG} (h : BldAt w' d { g with chk := true }) (hf : Fr (Just d) w w') : BldStep w d g w' { g with chk := true } := BldStep.of_just h rfl hf

set_option maxHeartbeats 800000 in
set_option maxRecDepth 100000 in
theorem bldWS (l : List UInt8) (w : World) (d : Nat) (g : BG) (h : BldAt w d g) (hl : g.txt.length + l.length ≤ 1099511627776) :
    Calls Tryz.prog 68 #[.pointer (some ⟨d, 0, none⟩), .string ⟨l.toArray⟩] w (BWPost w d g l) := by
  have H := Lib.hid h
  clear h
  go_enter Tryz.func68, Tryz.ntmps68
  go_wp2_with fail
  refine (bld_check w d g H.out).mono ?_
  rintro e w1 ⟨rfl, H1, F1⟩
  obtain ⟨v, w2, g2, hrun, ha⟩ := bld_app (xT := 9) (ty := 40) H1 Tryz.underlying9 (fun k q => by cases q) (Src.str w1 l) hl
  obtain rfl := ha.val
  have c1 := H1.c1
  have k1 := ha.c1 H1
  have k2 := ha.f1 H1
  have HA := Lib.hid ha
  have S1 := Lib.hid (BldStep.chk H1 F1)
  simp only at c1
  clear H1 F1 ha
  go_wp2_with (at_builtin; refine wpList_plain rfl (fun K hK => wp_append_of_run _ _ _ _ rfl rfl rfl hrun (hK _ _ ?_)))
  go_ret2
  exact ⟨g2, by simp, S1.out.trans HA.out.step, HA.out.built.chk⟩

set_option maxHeartbeats 800000 in
set_option maxRecDepth 100000 in
theorem bldW (A : Option Addr) (k c : Nat) (l : List UInt8) (w : World) (d : Nat) (g : BG) (h : BldAt w d g) (hs : Src w (.slice A k c) l) (hk : l.length = k) (hl : g.txt.length + l.length ≤ 1099511627776) :
    Calls Tryz.prog 66 #[.pointer (some ⟨d, 0, none⟩), .slice A k c] w (BWPost w d g l) := by
  have H := Lib.hid h
  have HS := Lib.hid hs
  have HK := Lib.hid hk
  clear h hs hk
  go_enter Tryz.func66, Tryz.ntmps66
  go_wp2_with fail
  refine (bld_check w d g H.out).mono ?_
  rintro e w1 ⟨rfl, H1, F1⟩
  obtain ⟨v, w2, g2, hrun, ha⟩ := bld_app (xT := 40) (ty := 40) H1 Tryz.underlying40 (fun k q => by cases q) (H.out.toSrc HS.out F1) hl
  obtain rfl := ha.val
  have c1 := H1.c1
  have k1 := ha.c1 H1
  have k2 := ha.f1 H1
  have HA := Lib.hid ha
  have S1 := Lib.hid (BldStep.chk H1 F1)
  simp only at c1
  clear H1 F1 ha
  go_wp2_with (at_builtin; refine wpList_plain rfl (fun K hK => wp_append_of_run _ _ _ _ rfl rfl rfl hrun (hK _ _ ?_)))
  go_ret2
  exact ⟨g2, by rw [HK.out]; rfl, S1.out.trans HA.out.step, HA.out.built.chk⟩

def BBPost (w : World) (d : Nat) (g : BG) (x : UInt8) (e : Ending) (w' : World) : Prop :=
  ∃ g', e = .returned .nilIface ∧ BldStep w d g w' g' ∧ Built g [x] g'
set_option maxHeartbeats 800000 in
set_option maxRecDepth 100000 in
theorem bldWB (x : UInt8) (w : World) (d : Nat) (g : BG) (h : BldAt w d g) (hl : g.txt.length + 1 ≤ 1099511627776) :
    Calls Tryz.prog 69 #[.pointer (some ⟨d, 0, none⟩), .int .u8 (x.toNat : Int)] w (BBPost w d g x) := by
  have H := Lib.hid h
  clear h
  go_enter Tryz.func69, Tryz.ntmps69
  go_wp2_with fail
  refine (bld_check w d g H.out).mono ?_
  rintro e w1 ⟨rfl, H1, F1⟩
  have hnew := Row.new w1 5 [x]
  have hH2 : BldAt (w1.alloc (.cells (bcs [x]).toArray 5)) d { g with chk := true } := H1.fr ((Fr.refl (fun _ => False) w1).alloc _) (fun _ _ q => q)
  have hsrc := Src.of_row (o := 0) (n := 1) (c := 1) (A := some ⟨w1.heap.size, 0, none⟩) hnew (fun _ => rfl) (by simp)
  obtain ⟨v, w2, g2, hrun, ha⟩ := bld_app (xT := 40) (ty := 40) hH2 Tryz.underlying40 (fun k q => by cases q) hsrc (by simpa using hl)
  obtain rfl := ha.val
  have c1 := H1.c1
  have k1 := ha.c1 hH2
  have k2 := ha.f1 hH2
  have HA := Lib.hid ha
  have S1 := Lib.hid ((BldStep.chk H1 F1).trans ⟨hH2, .inl rfl, (Fr.refl _ w1).alloc _⟩)
  simp only [bcs, List.map_cons, List.map_nil] at c1 hrun
  clear H1 F1 ha hnew hH2 hsrc
  go_wp2_with (at_builtin; refine wpList_plain rfl (fun K hK => wp_append_of_run _ _ _ _ rfl rfl rfl hrun (hK _ _ ?_)))
  go_ret
  exact ⟨g2, rfl, S1.out.trans HA.out.step, HA.out.built.chk⟩

/-- A rune's bytes behind a builder's. -/
theorem bld_rune {w : World} {d : Nat} {g : BG} (h : BldAt w d g) (r : Int) (hl : g.txt.length + 4 ≤ 1099511627776) :
    ∃ v w2 g2, RuneApp w (.slice (rowA g.row) g.txt.length g.cap) r v w2 ∧ BldApp (w.alloc (.cells (Lib.runeCells r).toArray 5)) d g (Lib.encodeRune r) v w2 g2 ∧ BldAt (w.alloc (.cells (Lib.runeCells r).toArray 5)) d g := by
  have hle := Lib.encodeRuneZ_length r
  have hlen : (Lib.encodeRune r).length = (Lib.encodeRuneZ r).length := by simp [Lib.encodeRune]
  have hnew : Row 5 (w.alloc (.cells (Lib.runeCells r).toArray 5)) w.heap.size (Lib.encodeRune r) := by
    have := Row.new w 5 (Lib.encodeRune r)
    rwa [bcs_rune] at this
  have hsrc : Src (w.alloc (.cells (Lib.runeCells r).toArray 5)) (.slice (some ⟨w.heap.size, 0, none⟩) (Lib.runeCells r).length (Lib.runeCells r).length) (Lib.encodeRune r) := by
    have := Src.of_row (o := 0) (n := (Lib.runeCells r).length) (c := (Lib.runeCells r).length) (A := some ⟨w.heap.size, 0, none⟩) hnew (fun _ => rfl) (by rw [Lib.runeCells_length]; omega)
    rwa [List.drop_zero, List.take_of_length_le (by rw [Lib.runeCells_length]; omega)] at this
  have hH2 : BldAt (w.alloc (.cells (Lib.runeCells r).toArray 5)) d g := h.fr ((Fr.refl (fun _ => False) w).alloc _) (fun _ _ q => q)
  obtain ⟨v, w2, g2, hrun, ha⟩ := bld_app (xT := 40) (ty := 40) hH2 Tryz.underlying40 (fun k q => by cases q) hsrc (by omega)
  exact ⟨v, w2, g2, hrun, ha, hH2⟩

set_option maxHeartbeats 800000 in
set_option maxRecDepth 100000 in
theorem bldWR (r : Int) (w : World) (d : Nat) (g : BG) (h : BldAt w d g) (hgood : ¬ badRune r) (hl : g.txt.length + 4 ≤ 1099511627776) :
    Calls Tryz.prog 70 #[.pointer (some ⟨d, 0, none⟩), .int .i32 r] w (BWPost w d g (enc r)) := by
  rw [enc_good hgood]
  have hlen := Lib.encodeRuneZ_length r
  have hlen' : (Lib.encodeRune r).length = (Lib.encodeRuneZ r).length := by simp [Lib.encodeRune]
  have H := Lib.hid h
  have HG := Lib.hid hgood
  clear h hgood
  go_enter Tryz.func70, Tryz.ntmps70
  go_wp2_with fail
  refine (bld_check w d g H.out).mono ?_
  rintro e w1 ⟨rfl, H1, F1⟩
  obtain ⟨v, w2, g2, hrun, ha, hH2⟩ := bld_rune H1 r hl
  obtain rfl := ha.val
  have hc := appendRune_of _ _ r w1 w2 HG.out hrun
  have c1 := H1.c1
  have k1 := ha.c1 hH2
  have k2 := ha.f1 hH2
  have k3 := ha.at'.c1
  have htx : g2.txt.length = g.txt.length + (Lib.encodeRune r).length := by rw [ha.built.txt]; simp
  have hsub : (g2.txt.length : Int) - (g.txt.length : Int) = ((Lib.encodeRune r).length : Int) := by omega
  have hb1 : g2.txt.length ≤ 1099511627776 := by omega
  have hb2 : g.txt.length ≤ g2.txt.length := by omega
  have HA := Lib.hid ha
  have S1 := Lib.hid ((BldStep.chk H1 F1).trans ⟨hH2, .inl rfl, (Fr.refl _ w1).alloc _⟩)
  have HC := Lib.hid hc
  simp only at c1 k1
  clear H1 F1 ha hH2 hrun hc htx hlen hlen'
  go_wp2_with fail
  refine HC.out.mono ?_
  rintro e w3 ⟨rfl, rfl⟩
  go_wp2_with fail
  go_ret2
  exact ⟨g2, rfl, S1.out.trans HA.out.step, HA.out.built.chk⟩
end Go.Proofs.YtbodbajgpgaoeaaGreatDoor

namespace Go.Proofs.YtbodbajgpgaoeaaGreatDoor
open Go Go.RowKit

theorem freeze_fr (w : World) (r n : Nat) : Fr (Just r) w (w.freeze ⟨r, 0, none⟩ n) := by
  unfold World.freeze
  split
  · exact Fr.refl _ _
  · refine ⟨rfl, rfl, rfl, by simp, fun i hi hn => ?_⟩
    have : r ≠ i := fun q => hn q.symm
    simp [Array.getElem?_modify, this]
theorem BldAt.freeze {w : World} {d : Nat} {g : BG} {r : Nat} (h : BldAt w d g) (hr : g.row = some r) (h0 : g.txt.length ≠ 0) : BldAt (w.freeze ⟨r, 0, none⟩ g.txt.length) d g := by
  have hf := freeze_fr w r g.txt.length
  refine ⟨hf.blk h.st (fun q => h.rne hr q.symm), fun r' hr' => ?_, h.pos, h.nil, h.sz⟩
  obtain rfl : r = r' := by rw [hr] at hr'; exact Option.some.inj hr'
  obtain ⟨rest, ⟨lo, hi⟩, h1, h2, h3⟩ := h.row r hr
  refine ⟨rest, (if lo == hi then (0, 0 + g.txt.length) else (min lo 0, max hi (0 + g.txt.length))), ?_, h2, ?_⟩
  · simp [World.freeze, h0, Array.getElem?_modify, h1]
  · simp only at h3 ⊢
    split
    · simp
    · simp; omega

set_option maxHeartbeats 800000 in
set_option maxRecDepth 100000 in
theorem bld_string_some (w : World) (d : Nat) (g : BG) (h : BldAt w d g) (h0 : g.txt ≠ []) :
    Calls Tryz.prog 36 #[.pointer (some ⟨d, 0, none⟩)] w fun e w' => e = .returned (.string ⟨g.txt.toArray⟩) ∧ BldAt w' d g ∧ Fr (fun x => g.row = some x) w w' := by
  cases hr : g.row with
  | none => exact absurd (h.nil hr).1 h0
  | some r =>
    have hlc := h.lc
    have hz := h.sz
    have hp := h.pos r hr
    have hlen : g.txt.length ≠ 0 := fun q => h0 (List.eq_nil_of_length_eq_zero q)
    have c1 := h.drew.c1
    rw [hr, rowA_some] at c1
    obtain ⟨rest, fz, hb, hc, hfz⟩ := h.row r hr
    have hSD : (Builtin.unsafeSliceData_ #[40] 97 #[.slice (some ⟨r, 0, none⟩) g.txt.length g.cap]).run Tryz.prog w.drew = .ok (.pointer (some ⟨r, 0, none⟩)) w.drew :=
      Lib.run_unsafeSliceData_row _ _ _ _ _ _ (by omega)
    have hUS : (Builtin.unsafeString_ #[97, 3] 9 #[.pointer (some ⟨r, 0, none⟩), .int .i64 g.txt.length]).run Tryz.prog w.drew = .ok (.string ⟨g.txt.toArray⟩) (w.drew.freeze ⟨r, 0, none⟩ g.txt.length) := by
      refine Lib.run_unsafeString_row w.drew 97 3 9 5 Tryz.underlying97 cells_byte r (bcs g.txt ++ rest).toArray.size (by have hg' : w.drew.heap[r]? = _ := hb; simp [World.shape?, hg']) g.txt h0 (by simp) (by omega) ?_
      intro j x hx
      have hjl : j < g.txt.length := (List.getElem?_eq_some_iff.1 hx).1
      rw [addr_add, Nat.zero_add, cell_of_row w.drew r j _ _ _ hb]
      simp only [List.getElem?_toArray]
      rw [List.getElem?_append_left (by simpa using hjl)]
      exact bcs_get hx
    have HB := Lib.hid (h.drew.freeze hr hlen)
    have HF := Lib.hid (((Fr.refl (fun x => some r = some x) w).drew).trans ((freeze_fr w.drew r g.txt.length).mono fun x _ q => by rw [q]))
    clear h hb
    go_enter Tryz.func36, Tryz.ntmps36
    go_wp2_with fail
    refine wp_region_mixed 10 (by kernel_rfl) (by kernel_rfl) (fun _ _ d _ _ h => by cases d <;> exact h) ?_
    simp only [List.take_succ_cons, List.take_zero, List.drop_succ_cons, List.drop_zero, List.filter_cons, List.filter_nil, isMv, Array.isEmpty_iff, Bool.not_false, Bool.and_true, Option.isNone_none, if_true, if_false, Bool.false_eq_true]
    repeat still_step
    refine wpStill_nil ?_
    go_wp2_with fail
    go_ret
    exact ⟨rfl, HB.out, HF.out⟩

set_option maxHeartbeats 800000 in
set_option maxRecDepth 100000 in
theorem bld_string_none (w : World) (d : Nat) (g : BG) (h : BldAt w d g) (h0 : g.txt = []) :
    Calls Tryz.prog 36 #[.pointer (some ⟨d, 0, none⟩)] w fun e w' => e = .returned (.string ⟨#[]⟩) ∧ BldAt w' d g ∧ Fr (fun x => g.row = some x) w w' := by
  have hUS : ∀ q, (Builtin.unsafeString_ #[97, 3] 9 #[.pointer q, .int .i64 0]).run Tryz.prog w.drew = .ok (.string .empty) w.drew := fun q => Lib.run_unsafeString_none w.drew _ _ _ q
  have c1 := h.drew.c1
  rw [h0] at c1
  simp only [List.length_nil] at c1
  have HB := Lib.hid h.drew
  have HF := Lib.hid ((Fr.refl (fun x => g.row = some x) w).drew)
  cases hr : g.row with
  | none =>
    have hSD : (Builtin.unsafeSliceData_ #[40] 97 #[.slice none 0 0]).run Tryz.prog w.drew = .ok (.pointer none) w.drew := rfl
    rw [hr, rowA_none, (h.nil hr).2] at c1
    rw [hr] at HF
    clear h
    go_enter Tryz.func36, Tryz.ntmps36
    go_wp2_with fail
    refine wp_region_mixed 10 (by kernel_rfl) (by kernel_rfl) (fun _ _ d _ _ h => by cases d <;> exact h) ?_
    simp only [List.take_succ_cons, List.take_zero, List.drop_succ_cons, List.drop_zero, List.filter_cons, List.filter_nil, isMv, Array.isEmpty_iff, Bool.not_false, Bool.and_true, Option.isNone_none, if_true, if_false, Bool.false_eq_true]
    repeat still_step
    refine wpStill_nil ?_
    go_wp2_with fail
    go_ret
    exact ⟨rfl, HB.out, HF.out⟩
  | some r =>
    have hp := h.pos r hr
    have hSD : (Builtin.unsafeSliceData_ #[40] 97 #[.slice (some ⟨r, 0, none⟩) 0 g.cap]).run Tryz.prog w.drew = .ok (.pointer (some ⟨r, 0, none⟩)) w.drew :=
      Lib.run_unsafeSliceData_row _ _ _ _ _ _ (by omega)
    rw [hr, rowA_some] at c1
    rw [hr] at HF
    clear h
    go_enter Tryz.func36, Tryz.ntmps36
    go_wp2_with fail
    refine wp_region_mixed 10 (by kernel_rfl) (by kernel_rfl) (fun _ _ d _ _ h => by cases d <;> exact h) ?_
    simp only [List.take_succ_cons, List.take_zero, List.drop_succ_cons, List.drop_zero, List.filter_cons, List.filter_nil, isMv, Array.isEmpty_iff, Bool.not_false, Bool.and_true, Option.isNone_none, if_true, if_false, Bool.false_eq_true]
    repeat still_step
    refine wpStill_nil ?_
    go_wp2_with fail
    go_ret
    exact ⟨rfl, HB.out, HF.out⟩
theorem bld_string (w : World) (d : Nat) (g : BG) (h : BldAt w d g) :
    Calls Tryz.prog 36 #[.pointer (some ⟨d, 0, none⟩)] w fun e w' => e = .returned (.string ⟨g.txt.toArray⟩) ∧ BldAt w' d g ∧ Fr (fun x => g.row = some x) w w' := by
  by_cases h0 : g.txt = []
  · have := bld_string_none w d g h h0
    rw [h0]
    exact this
  · exact bld_string_some w d g h h0

/-- MakeNoZero, as a step of a region that draws its order. -/
theorem step_mnz {w : World} {ops : Array Oper} {o : Oper} {a : Act} {K : Act → World → Prop} {Q : Exit → Act → World → Prop} {E0 : Prop} (hgd : o.guard = none) (s : Operand) (ho : o.op = .call { callee := .value (.func 114), args := #[s], argTypes := #[3] })
    (n : Nat) (hs : a.eval s = .int .i64 (n : Int)) (hn : n ≤ 281474976710656)
    (h : ∀ (cs : Array Value) w', w'.heap[w.heap.size]? = some (.cells cs 5 (0, 0)) → n ≤ cs.size → cs.size ≤ 9223372036854775807 → Fr (fun _ => False) w w' → K (a.put o.dst (.slice (some ⟨w.heap.size, 0, none⟩) n cs.size)) w') :
    if Region.wanted o (yielded ops a.tmps) = true then Oper.wp Tryz.prog o a w K Q else E0 := by
  refine step_of_wp hgd ?_
  obtain ⟨cs, hrun, hle, hmax⟩ := Lib.run_makeNoZero (P := Tryz.prog) w #[3] 40 5 Tryz.underlying40 n hn
  have hcall : (callFunc 114 #[.int .i64 (n : Int)]).run Tryz.prog w = .ok (.value (.slice (some ⟨w.heap.size, 0, none⟩) n cs.size)) (w.drew.drew.alloc (.cells cs 5)) := by
    rw [run_callFunc_extern Tryz.func114 (by kernel_rfl) (by kernel_rfl) (by kernel_rfl) (e := Extern.BytealgMakeNoZero.makeNoZero #[3] #[40]) (by kernel_rfl), hrun]
    rfl
  have hK := h cs (w.drew.drew.alloc (.cells cs 5)) (heap_alloc_new w.drew.drew _) hle (hmax (by unfold maxLen; omega)) (((Fr.refl _ w).drew.drew).alloc _)
  have he : a.eval (.func 114) = .func (.func 114) #[] #[] := rfl
  unfold Oper.wp
  rw [execOp, ho]
  simp [resolve, he, invoke, hs, Deferred.ofValue, hcall]
  exact hK

/-- copy into the head of a row of whatever cells. -/
theorem run_copy_cells {P : Program} {w : World} {E : TypeId} {dT sT ty : TypeId} {r c : Nat} {l : List UInt8} {cur : Array Value} {v : Value} {i : TypeInfo}
    (hu : P.underlying dT = some (.slice E)) (hi : P.info? E = some i) (hs1 : i.size = 1) (hb : w.heap[r]? = some (.cells cur E (0, 0))) (hsrc : Src w v l) (hfit : l.length ≤ cur.size) :
    ∃ w', (Builtin.copy_ #[dT, sT] ty #[.slice (some ⟨r, 0, none⟩) l.length c, v]).run P w = .ok (.int .i64 (l.length : Int)) w' ∧ w'.heap[r]? = some (.cells (bcs l ++ cur.toList.drop l.length).toArray E (0, 0)) ∧ Fr (Just r) w w' := by
  have hlen := run_lenOf_src (P := P) hsrc
  have hf := run_firstCells_src (P := P) hsrc l.length (Nat.le_refl _)
  rw [List.take_length] at hf
  have hst := run_storeCells_free P r 0 E (0, 0) (bcs l) 0 cur w hb (fun j h3 h4 => by omega) (by simpa using hfit) (bcs_one _)
  refine ⟨w.setRow r (bcs l ++ cur.toList.drop l.length).toArray, ?_, setRow_heap w r _ _ E _ hb, (Fr.refl _ w).setRow (fun _ => just_self r) _⟩
  have e : cur.toList.take (0 + 0) ++ bcs l ++ cur.toList.drop (0 + 0 + (bcs l).length) = bcs l ++ cur.toList.drop l.length := by simp
  rw [e] at hst
  simp [Builtin.copy_, run_underlying hu, sizeOf, typeInfo, hi, hs1, hlen, hf, hst, goInt]

/-- What grow leaves. -/
structure Roomy (g : BG) (n : Nat) (g' : BG) : Prop where
  txt : g'.txt = g.txt
  room : g.txt.length + n ≤ g'.cap
  cap : g.txt.length + n ≤ g.cap → g'.cap = g.cap
set_option maxHeartbeats 1600000 in
set_option maxRecDepth 100000 in
theorem bld_grow (n : Nat) (w : World) (d : Nat) (g : BG) (h : BldAt w d g) (hc : g.cap < g.txt.length + n) (hl : g.txt.length + n ≤ 1099511627776) :
    Calls Tryz.prog 103 #[.pointer (some ⟨d, 0, none⟩), .int .i64 (n : Int)] w fun e w' => ∃ g', e = .returned (.tuple #[]) ∧ BldStep w d g w' g' ∧ Roomy g n g' := by
  have hlc := h.lc
  have hn1 : 1 ≤ n := by omega
  have c1 := h.drew.c1
  have hw1 : IntKind.i64.wrap (2 * (g.cap : Int)) = 2 * (g.cap : Int) := IntWalk.i64_in _ (by omega)
  have hw2 : IntKind.i64.wrap (2 * (g.cap : Int) + (n : Int)) = 2 * (g.cap : Int) + (n : Int) := IntWalk.i64_in _ (by omega)
  have H := Lib.hid h
  clear h
  go_enter Tryz.func103, Tryz.ntmps103
  go_wp2_with fail
  go_region_held3 (fun w' => w'.cell? ⟨d, 1, none⟩ = some (.slice (rowA g.row) g.txt.length g.cap)) (go_keep) ((refine step_mnz rfl (.tmp 12) rfl (2 * g.cap + n) (by simp [Act.eval]) (by omega) ?_; intro cs w1 hblk hcs1 hcs2 hfr; have k1 : w1.cell? ⟨d, 1, none⟩ = some (.slice (rowA g.row) g.txt.length g.cap) := (hfr.cell H.out.lt (fun q => q)).trans c1; have hcs3 : (g.txt.length : Int) ≤ (cs.size : Int) := by omega))
  obtain ⟨i0, hi, hz0, hz1, hz2⟩ := info_parts info_u8
  rw [show w.drew.heap.size = w.heap.size from rfl] at hblk
  have hsrc : Src w1 (.slice (rowA g.row) g.txt.length g.cap) g.txt := (H.out.drew.fr hfr (fun _ _ q => q)).src
  obtain ⟨w2, hrun, hblk2, hfr2⟩ := run_copy_cells (P := Tryz.prog) (dT := 40) (sT := 40) (ty := 3) (c := cs.size) Tryz.underlying40 hi hz1 hblk hsrc (by omega)
  have hlt := H.out.lt
  have hF : Fr (fun _ => False) w w2 := ((Fr.refl _ w).drew.trans hfr).trans' hfr2 (fun i hi q => by
    have q : i = w.heap.size := q
    omega)
  have k2 := (H.out.fr hF (fun _ _ q => q)).c1
  have k3 := (H.out.fr hF (fun _ _ q => q)).f 1
  have HP := Lib.hid (H.out.put (row := some w.heap.size) (txt := g.txt) (cap := cs.size) (hF.mono fun _ _ q => q.elim) (fun r q => by
    injection q with q
    subst q
    exact ⟨by omega, by omega, cs.toList.drop g.txt.length, (0, 0), hblk2, by simp; omega, Nat.zero_le _⟩) (fun q => by cases q) hcs2)
  have HF := Lib.hid hF
  clear hsrc hfr2 hblk2 hfr hF hblk
  go_wp2_with (at_builtin; refine wpList_plain rfl (fun K hK => wp_copy_of_run _ _ _ _ rfl rfl rfl hrun (hK _ _ ?_)))
  go_end0
  refine ⟨_, rfl, ⟨HP.out, .inr (.inr ⟨_, rfl, Nat.le_refl _⟩), (HF.out.mono fun _ _ q => q.elim).setCell (fun _ => .inl rfl) _⟩, ⟨rfl, by simp only; omega, fun q => by omega⟩⟩

set_option maxHeartbeats 1600000 in
set_option maxRecDepth 100000 in
theorem bld_Grow (n : Nat) (w : World) (d : Nat) (g : BG) (h : BldAt w d g) (hl : g.txt.length + n ≤ 1099511627776) :
    Calls Tryz.prog 71 #[.pointer (some ⟨d, 0, none⟩), .int .i64 (n : Int)] w fun e w' => ∃ g', e = .returned (.tuple #[]) ∧ BldStep w d g w' g' ∧ Roomy g n g' := by
  have hlc := h.lc
  have hz := h.sz
  have H := Lib.hid h
  clear h
  by_cases hc : g.cap < g.txt.length + n
  · go_enter Tryz.func71, Tryz.ntmps71
    go_wp2_with fail
    refine (bld_check w d g H.out).mono ?_
    rintro e w1 ⟨rfl, H1, F1⟩
    have c1 := H1.c1
    have HH := Lib.hid H1
    have S1 := Lib.hid (BldStep.chk H1 F1)
    simp only at c1
    clear H1 F1
    go_wp2_with fail
    go_quiet (fail)
    go_wp2_with fail
    refine (bld_grow n _ d _ (HH.out.drewN _) hc hl).mono ?_
    rintro e w2 ⟨g2, rfl, S2, R2⟩
    go_wp2_with fail
    go_end0
    exact ⟨g2, rfl, (S1.out.trans ⟨HH.out.drewN _, .inl rfl, (Fr.refl _ _).drewN _⟩).trans S2, ⟨R2.txt, R2.room, R2.cap⟩⟩
  · go_enter Tryz.func71, Tryz.ntmps71
    go_wp2_with fail
    refine (bld_check w d g H.out).mono ?_
    rintro e w1 ⟨rfl, H1, F1⟩
    have c1 := H1.c1
    have HH := Lib.hid H1
    have S1 := Lib.hid (BldStep.chk H1 F1)
    simp only at c1
    clear H1 F1
    go_wp2_with fail
    go_quiet (fail)
    go_wp2_with fail
    go_end0
    exact ⟨_, rfl, S1.out.trans ⟨HH.out.drewN _, .inl rfl, (Fr.refl _ _).drewN _⟩, ⟨rfl, by simp only; omega, fun _ => rfl⟩⟩
end Go.Proofs.YtbodbajgpgaoeaaGreatDoor
