/- BufG, Drain. -/
import Derived.Test.YtkggebhkjgjijaaGreatDoorQ10
import Derived.Lib.BytesEntry
import Derived.Deep.RegionLaw
import Derived.Test.YtkggebhkjgjijaaGreatDoorQ09
import Derived.Test.YtkggebhkjgjijaaGreatDoorQ07
import Derived.Test.YtkggebhkjgjijaaGreatDoorQ08
namespace Go.Proofs.YtkggebhkjgjijaaGreatDoor
open Go Go.RowKit

theorem bytesOf_nat (l : List UInt8) : Lib.bytesOf (l.map fun x => (x.toNat : Int)) = l := by
  simp only [Lib.bytesOf, List.map_map]
  conv => rhs; rw [← List.map_id l]
  apply List.map_congr_left
  intro x _
  simp
set_option maxRecDepth 100000 in
/-- bytes.IndexByte of a slice that reads as l. -/
theorem indexByte_src {w : World} {row : Option Nat} {o n c : Nat} {l : List UInt8} (x : UInt8) (h : Src w (.slice (row.map fun r => ⟨r, o, none⟩) n c) l) :
    Calls Tryz.prog 89 #[.slice (row.map fun r => ⟨r, o, none⟩) n c, .int .u8 (x.toNat : Int)] w fun e w' => e = .returned (.int .i64 (Lib.indexByte l x)) ∧ w' = w := by
  have hrun : (Extern.BytealgIndexByte.indexByte #[.slice (row.map fun r => ⟨r, o, none⟩) n c, .int .u8 (x.toNat : Int)]).run Tryz.prog w = .ok (.int .i64 (Lib.indexByte l x)) w := by
    rcases h with h | ⟨A', c', h, k⟩
    · cases h
    · injection h with h1 h2 h3
      subst h1 h2 h3
      cases row with
      | none =>
        have : l = [] := by
          rcases Nat.eq_zero_or_pos l.length with q | q
          · exact List.eq_nil_of_length_eq_zero q
          · obtain ⟨ad, e, _⟩ := k q; cases e
        subst this
        exact Lib.run_indexByteNil (P := Tryz.prog) w 0 c _
      | some r =>
        have := Lib.run_indexByteSlice (P := Tryz.prog) w r o l.length c (l.map fun x => (x.toNat : Int)) (by simp) (fun i hi => by
          obtain ⟨ad, e, hc⟩ := k (by omega)
          simp only [Option.map_some, Option.some.injEq] at e
          subst e
          have := hc i _ (List.getElem?_eq_getElem hi)
          rw [addr_add] at this
          rw [this]
          simp [hi]) (x.toNat : Int)
        rw [bytesOf_nat] at this
        simp only [Option.map_some]
        rw [this]
        simp
  generalize row.map (fun r => (⟨r, o, none⟩ : Addr)) = A at *
  go_enter Tryz.func89, Tryz.ntmps89
  go_wp2_with fail
  rw [run_callFunc_extern Tryz.func92 (by kernel_rfl) (by kernel_rfl) (by kernel_rfl) (e := Extern.BytealgIndexByte.indexByte) (by kernel_rfl), hrun]
  simp only [Result.andThen]
  rw [Oper.upon_value]
  go_wp2_with fail
  go_ret
  exact ⟨rfl, rfl⟩

theorem upTo_some (c : UInt8) : ∀ (l : List UInt8) (k : Nat), upTo c l = some k → Lib.indexByte l c = (k : Int) - 1 ∧ 1 ≤ k ∧ k ≤ l.length
  | [], k, h => by cases h
  | x :: l, k, h => by
    unfold upTo at h
    unfold Lib.indexByte
    by_cases hx : x = c
    · subst hx
      simp only [if_true, Option.some.injEq] at h
      subst h
      simp
    · simp only [hx, if_false, Option.map_eq_some_iff] at h
      obtain ⟨j, hj, rfl⟩ := h
      obtain ⟨h1, h2, h3⟩ := upTo_some c l j hj
      have : (x == c) = false := by simp [hx]
      rw [this, h1]
      simp only [Bool.false_eq_true, if_false, List.length_cons]
      have : (((j : Int) - 1) == -1) = false := by simp; omega
      rw [this]
      simp only [Bool.false_eq_true, if_false]
      omega
theorem upTo_none (c : UInt8) : ∀ (l : List UInt8), upTo c l = none → Lib.indexByte l c = -1
  | [], _ => rfl
  | x :: l, h => by
    unfold upTo at h
    unfold Lib.indexByte
    by_cases hx : x = c
    · simp [hx] at h
    · simp only [hx, if_false, Option.map_eq_none_iff] at h
      have : (x == c) = false := by simp [hx]
      rw [this, upTo_none c l h]
      rfl

/-- Behind a read up to a byte. -/
def Gh.rl (g : Gh) (k : Nat) : Gh := { g with off := g.off + k, lr := -1 }
theorem Gh.rl_txt (g : Gh) (k : Nat) : (g.rl k).txt = g.txt.drop k := by simp [Gh.rl, Gh.txt, List.drop_drop]
theorem BufAt.rl {w : World} {b : Nat} {g : Gh} (h : BufAt w b g) (k : Nat) (hk : g.off + k ≤ g.len) : BufAt ((w.setCell ⟨b, 1, none⟩ (.int .i64 ((g.off + k : Nat) : Int))).setCell ⟨b, 2, none⟩ (.int .i8 (-1))) b (g.rl k) := (h.off' (g.off + k) hk).lr0 (-1)
theorem cutA_map (row : Option Nat) (o c : Nat) : ∃ o', cutA row o c = row.map fun r => (⟨r, o', none⟩ : Addr) := by
  unfold cutA
  split
  · exact ⟨0, rfl⟩
  · exact ⟨o, rfl⟩

set_option maxHeartbeats 1600000 in
set_option maxRecDepth 100000 in
theorem readSlice_some (w : World) (b : Nat) (g : Gh) (x : UInt8) (k : Nat) (h : BufAt w b g) (hk : upTo x g.txt = some k) :
    Calls Tryz.prog 79 #[.pointer (some ⟨b, 0, none⟩), .int .u8 (x.toNat : Int)] w fun e w' => e = .returned (.tuple #[.slice (cutA g.row g.off g.all.length) k (g.all.length - g.off), .nilIface]) ∧ BufAt w' b (g.rl k) ∧ Fr (Just b) w w' := by
  obtain ⟨hi, hk1, hk2⟩ := upTo_some x g.txt k hk
  have hz := h.sz
  have hl := h.lc
  have ho := h.ol
  have c0 := h.c0
  have c1 := h.c1
  have f1 := h.f 1
  have c2 := h.c2
  have f2 := h.f 2
  have htl := g.txt_length hl
  have hsl := fun w' => slice_from g.row g.len g.all.length g.off ho w'
  have hsl2 := fun w' => slice_lh g.row g.len g.all.length g.off (g.off + k) (by omega) (by omega) w'
  rw [Nat.add_sub_cancel_left, Int.natCast_add] at hsl2
  have hq : ∀ n, Calls Tryz.prog 89 #[.slice (cutA g.row g.off g.all.length) (g.len - g.off) (g.all.length - g.off), .int .u8 (x.toNat : Int)] (w.drewN n) fun e w' => e = .returned (.int .i64 ((k : Int) - 1)) ∧ w' = w.drewN n := by
    intro n
    have hs := Src.unread (h.drewN n)
    obtain ⟨o', e⟩ := cutA_map g.row g.off g.all.length
    rw [e] at hs ⊢
    rw [← hi]
    exact indexByte_src x hs
  have hadd : (g.off : Int) + ((k : Int) - 1) + 1 = (g.off : Int) + (k : Int) := by omega
  have hkn : ((k : Int) - 1 < 0) = False := by simp; omega
  have HB := Lib.hid (fun n => (h.drewN n).rl k (by omega))
  have HF := Lib.hid (fun n => (Fr.refl (Just b) w).drewN n)
  have HQ := Lib.hid hq
  clear h hi hq hk
  go_enter Tryz.func79, Tryz.ntmps79
  go_wp2_with fail
  go_quiet ((go_at_call 89; exact Calls.quiet_of_same (HQ.out _)))
  go_wp2_with fail
  go_quiet (fail)
  go_wp2_with fail
  go_ret2
  exact ⟨rfl, HB.out _, ((HF.out _).setCell (fun _ => just_self b) _).setCell (fun _ => just_self b) _⟩
set_option maxHeartbeats 1600000 in
set_option maxRecDepth 100000 in
theorem readSlice_none (w : World) (b : Nat) (g : Gh) (x : UInt8) (k : Nat) (ea : Addr) (h : BufAt w b g) (hk : upTo x g.txt = none) (hkl : g.off + k = g.len) (he : w.cell? ⟨0, 0, none⟩ = some (.iface 145 (.pointer (some ea)))) :
    Calls Tryz.prog 79 #[.pointer (some ⟨b, 0, none⟩), .int .u8 (x.toNat : Int)] w fun e w' => e = .returned (.tuple #[.slice (cutA g.row g.off g.all.length) k (g.all.length - g.off), .iface 145 (.pointer (some ea))]) ∧ BufAt w' b (g.rl k) ∧ Fr (Just b) w w' := by
  have hi := upTo_none x g.txt hk
  have hz := h.sz
  have hl := h.lc
  have ho := h.ol
  have c0 := h.c0
  have c1 := h.c1
  have f1 := h.f 1
  have c2 := h.c2
  have f2 := h.f 2
  have hsl := fun w' => slice_from g.row g.len g.all.length g.off ho w'
  have hsl2 := fun w' => slice_lh g.row g.len g.all.length g.off g.len (by omega) (by omega) w'
  rw [show g.len - g.off = k by omega] at hsl2
  have hq : ∀ n, Calls Tryz.prog 89 #[.slice (cutA g.row g.off g.all.length) (g.len - g.off) (g.all.length - g.off), .int .u8 (x.toNat : Int)] (w.drewN n) fun e w' => e = .returned (.int .i64 (-1)) ∧ w' = w.drewN n := by
    intro n
    have hs := Src.unread (h.drewN n)
    obtain ⟨o', e⟩ := cutA_map g.row g.off g.all.length
    rw [e] at hs ⊢
    rw [← hi]
    exact indexByte_src x hs
  have hb := fun n => (h.drewN n).rl k (by omega)
  rw [hkl] at hb
  have HB := Lib.hid hb
  have HF := Lib.hid (fun n => (Fr.refl (Just b) w).drewN n)
  have HQ := Lib.hid hq
  clear hb h hi hq hk
  go_enter Tryz.func79, Tryz.ntmps79
  go_wp2_with fail
  go_quiet ((go_at_call 89; exact Calls.quiet_of_same (HQ.out _)))
  go_wp2_with fail
  go_quiet (fail)
  go_wp2_with fail
  go_ret2
  exact ⟨rfl, HB.out _, ((HF.out _).setCell (fun _ => just_self b) _).setCell (fun _ => just_self b) _⟩

def LineOut (k : Option Nat) (ea : Addr) : Value := match k with | some _ => .nilIface | none => .iface 145 (.pointer (some ea))
/-- How many bytes a read up to a byte takes. -/
def takeN (x : UInt8) (l : List UInt8) : Nat := (upTo x l).getD l.length
theorem readSlice_any (w : World) (b : Nat) (g : Gh) (x : UInt8) (ea : Addr) (h : BufAt w b g) (he : w.cell? ⟨0, 0, none⟩ = some (.iface 145 (.pointer (some ea)))) :
    Calls Tryz.prog 79 #[.pointer (some ⟨b, 0, none⟩), .int .u8 (x.toNat : Int)] w fun e w' => e = .returned (.tuple #[.slice (cutA g.row g.off g.all.length) (takeN x g.txt) (g.all.length - g.off), LineOut (upTo x g.txt) ea]) ∧ BufAt w' b (g.rl (takeN x g.txt)) ∧ Fr (Just b) w w' := by
  cases hk : upTo x g.txt with
  | some k =>
    have e : takeN x g.txt = k := by simp [takeN, hk]
    rw [e]
    exact readSlice_some w b g x k h hk
  | none =>
    have e : takeN x g.txt = g.txt.length := by simp [takeN, hk]
    rw [e]
    exact readSlice_none w b g x _ ea h hk (by have := g.txt_length h.lc; have := h.ol; omega) he
theorem takeN_le (x : UInt8) (l : List UInt8) : takeN x l ≤ l.length := by
  unfold takeN
  cases hk : upTo x l with
  | some k => exact (upTo_some x l k hk).2.2
  | none => exact Nat.le_refl _

set_option maxHeartbeats 1600000 in
set_option maxRecDepth 100000 in
theorem buf_readString (w : World) (b : Nat) (g : Gh) (x : UInt8) (ea : Addr) (h : BufAt w b g) (he : w.cell? ⟨0, 0, none⟩ = some (.iface 145 (.pointer (some ea)))) :
    Calls Tryz.prog 55 #[.pointer (some ⟨b, 0, none⟩), .int .u8 (x.toNat : Int)] w fun e w' => e = .returned (.tuple #[.string ⟨(g.txt.take (takeN x g.txt)).toArray⟩, LineOut (upTo x g.txt) ea]) ∧ BufAt w' b (g.rl (takeN x g.txt)) ∧ Fr (Just b) w w' := by
  have hr := readSlice_any w b g x ea h he
  have hle := takeN_le x g.txt
  have htl := g.txt_length h.lc
  have hol := h.ol
  generalize LineOut (upTo x g.txt) ea = ev at *
  generalize takeN x g.txt = k at *
  have HR := Lib.hid hr
  clear hr he
  go_enter Tryz.func55, Tryz.ntmps55
  go_wp2_with fail
  refine HR.out.mono ?_
  rintro e w1 ⟨rfl, H1, F1⟩
  have hs : Src w1 (.slice (cutA g.row g.off g.all.length) k (g.all.length - g.off)) (g.txt.take k) := by
    rw [← Gh.txt_take g k (by omega)]
    have hl := h.lc
    exact Src.part H1 g.off k _ (by simp only [Gh.rl]; omega)
  have hcv := conv_str hs
  have HA1 := Lib.hid H1
  have HF1 := Lib.hid F1
  clear h H1 F1 hs
  go_wp2_with fail
  go_ret2
  exact ⟨rfl, HA1.out, HF1.out⟩

/-- append(nil, p..). -/
theorem app_nil_src {w : World} {A : Option Addr} {n c : Nat} {l : List UInt8} (h : Src w (.slice A n c) l) (hl : l.length ≤ 140737488355328) :
    ∃ (v : Value) (w' : World), (Builtin.append_ #[48, 48] 48 #[.slice none 0 0, .slice A n c]).run Tryz.prog w = .ok v w' ∧ Src w' v l ∧ (∃ A2 n2 c2, v = .slice A2 n2 c2) ∧ Fr (fun _ => False) w w' := by
  obtain ⟨i0, hi, hz0, hz1, hz2⟩ := info_parts info_u8
  rcases Nat.eq_zero_or_pos l.length with h0 | h0
  · obtain rfl : l = [] := List.eq_nil_of_length_eq_zero h0
    have hlen := run_lenOf_src (P := Tryz.prog) h
    have hf := run_firstCells_src (P := Tryz.prog) h 0 (Nat.le_refl _)
    refine ⟨.slice none 0 0, w, ?_, .inr ⟨_, _, rfl, fun q => absurd q (by simp)⟩, ⟨_, _, _, rfl⟩, Fr.refl _ _⟩
    simp [Builtin.append_, run_underlying Tryz.underlying48, sizeOf, typeInfo, hi, hz1, hlen, hf, bcs]
  · obtain ⟨cap2, w', hrun, hblk, hge, hle, hfr, hsz⟩ := run_append_grow (P := Tryz.prog) (dT := 48) (xT := 48) (ty := 48) (n := 0) (c := 0) (old := []) (D := none) Tryz.underlying48 Tryz.underlying48 (fun k q => by cases q) hi hz1 hz2 hz0 (.inr ⟨none, 0, rfl, fun q => absurd q (by simp)⟩) rfl h (by omega) (by omega)
    refine ⟨_, w', hrun, ?_, ⟨_, _, _, rfl⟩, hfr⟩
    have hrow : Row 5 w' w.heap.size ([] ++ l ++ List.replicate (cap2 - (0 + l.length)) 0) := ⟨_, hblk, .inl (Nat.le_refl _)⟩
    have := Src.of_row (o := 0) (n := l.length) (c := cap2) (A := some ⟨w.heap.size, 0, none⟩) hrow (fun _ => rfl) (by simp)
    simpa using this

def BytesPost (w : World) (b : Nat) (g : Gh) (x : UInt8) (ea : Addr) (e : Ending) (w' : World) : Prop :=
  ∃ A n c, e = .returned (.tuple #[.slice A n c, LineOut (upTo x g.txt) ea]) ∧ Src w' (.slice A n c) (g.txt.take (takeN x g.txt)) ∧ BufAt w' b (g.rl (takeN x g.txt)) ∧ Fr (Just b) w w'
set_option maxHeartbeats 1600000 in
set_option maxRecDepth 100000 in
theorem buf_readBytes (w : World) (b : Nat) (g : Gh) (x : UInt8) (ea : Addr) (h : BufAt w b g) (hlen : g.txt.length ≤ 140737488355328) (he : w.cell? ⟨0, 0, none⟩ = some (.iface 145 (.pointer (some ea)))) :
    Calls Tryz.prog 54 #[.pointer (some ⟨b, 0, none⟩), .int .u8 (x.toNat : Int)] w (BytesPost w b g x ea) := by
  have hr := readSlice_any w b g x ea h he
  have hle := takeN_le x g.txt
  have htl := g.txt_length h.lc
  have hol := h.ol
  unfold BytesPost
  generalize LineOut (upTo x g.txt) ea = ev at *
  generalize takeN x g.txt = k at *
  have HR := Lib.hid hr
  clear hr he
  go_enter Tryz.func54, Tryz.ntmps54
  go_wp2_with fail
  refine HR.out.mono ?_
  rintro e w1 ⟨rfl, H1, F1⟩
  have hs : Src w1 (.slice (cutA g.row g.off g.all.length) k (g.all.length - g.off)) (g.txt.take k) := by
    rw [← Gh.txt_take g k (by omega)]
    have hl := h.lc
    exact Src.part H1 g.off k _ (by simp only [Gh.rl]; omega)
  obtain ⟨v, w2, hrun, hs2, ⟨A2, n2, c2, rfl⟩, hfr⟩ := app_nil_src hs (by simp; omega)
  have HA1 := Lib.hid (H1.fr hfr (fun _ _ q => q))
  have HF1 := Lib.hid (F1.trans' hfr (fun _ _ q => q.elim))
  have HS := Lib.hid hs2
  clear h H1 F1 hs hs2 hfr
  go_wp2_with (at_builtin; refine wpList_plain rfl (fun K hK => wp_append_of_run _ _ _ _ rfl rfl rfl hrun (hK _ _ ?_)))
  go_ret2
  exact ⟨_, _, _, rfl, HS.out, HA1.out, HF1.out⟩
end Go.Proofs.YtkggebhkjgjijaaGreatDoor

namespace Go.Proofs.YtkggebhkjgjijaaGreatDoor
open Go Go.RowKit

theorem slice_toA (A : Option Addr) (n c h : Nat) (hh : h ≤ c) (w : World) : (Instr.slice 48 (.slice A n c) none (some (.int .i64 (h : Int))) none).run Tryz.prog w = .ok (.slice A h c) w := by
  obtain ⟨i0, hi, hz0, hz1, hz2⟩ := info_parts info_u8
  have h1 : (0 : Int) ≤ (h : Int) := by omega
  have h2 : (h : Int) ≤ (c : Int) := by omega
  cases A <;> simp [Instr.slice, run_underlying Tryz.underlying48, Instr.sliceBounds, run_sliceBound, sizeOf, typeInfo, hi, h1, h2, Addr.add]
def SinkPost (w : World) (sb m : Nat) (l : List UInt8) (e : Ending) (w' : World) : Prop :=
  ∃ A k c, e = .returned (.tuple #[.int .i64 (m : Int), .nilIface]) ∧ w'.cell? ⟨sb, 1, none⟩ = some (.slice A k c) ∧ Src w' (.slice A k c) l ∧ Fr (Just sb) w w'
set_option maxHeartbeats 1600000 in
set_option maxRecDepth 100000 in
/-- A sink that has room for all. -/
theorem sink_write (w : World) (sb room m c : Nat) (A : Option Addr) (l : List UInt8) (hst : w.heap[sb]? = some (.cells #[.int .i64 (room : Int), .slice none 0 0] 113 (0, 0))) (hs : Src w (.slice A m c) l) (hl : l.length = m) (hc : m ≤ c) (hr : room ≤ 65535) (hm : m ≤ room) :
    Calls Tryz.prog 109 #[.pointer (some ⟨sb, 0, none⟩), .slice A m c] w (SinkPost w sb m l) := by
  have c0 : w.drew.cell? ⟨sb, 0, none⟩ = some (.int .i64 (room : Int)) := by rw [cell_of_row w.drew sb 0 _ _ _ hst]; rfl
  have c1 : w.drew.cell? ⟨sb, 1, none⟩ = some (.slice none 0 0) := by rw [cell_of_row w.drew sb 1 _ _ _ hst]; rfl
  have hwm : IntKind.i64.wrap (room : Int) = (room : Int) := IntWalk.i64_in _ (by omega)
  have hmin : min (room : Int) (m : Int) = (m : Int) := by omega
  have hsl := fun w' => slice_toA A m c m (by omega) w'
  have hsd : Src w.drew.drew (.slice A m c) l := hs
  obtain ⟨v2, w2, hrun, hs2, ⟨A2, n2, c2, rfl⟩, hfr⟩ := app_nil_src hsd (by omega)
  have hfr' : Fr (fun _ => False) w w2 := (Fr.refl _ w).drew.drew.trans hfr
  have hst2 := hfr'.blk hst (fun q => q)
  have d1 : w2.cell? ⟨sb, 1, none⟩ = some (.slice none 0 0) := by rw [cell_of_row w2 sb 1 _ _ _ hst2]; rfl
  have g1 : w2.frozen? ⟨sb, 1, none⟩ = false := by simp [World.frozen?, hst2]
  have hs3 : Src (w2.setCell ⟨sb, 1, none⟩ (.slice A2 n2 c2)) (.slice A2 n2 c2) l := by
    refine (Src.fr (S := Just sb) hs2 ((Fr.refl _ w2).setCell (fun _ => just_self sb) _) ?_)
    intro i cc E fz q hcc j x hj
    obtain rfl : i = sb := q
    rw [hst2] at hcc
    injection hcc with hcc
    injection hcc with hcc
    subst hcc
    match j, hj with
    | 0, hj => simp at hj
    | 1, hj => simp at hj
    | j + 2, hj => simp at hj
  have hcl : (w2.setCell ⟨sb, 1, none⟩ (.slice A2 n2 c2)).cell? ⟨sb, 1, none⟩ = some (.slice A2 n2 c2) := by
    simp [World.cell?, World.setCell, Array.getElem?_modify, hst2]
  have HS3 := Lib.hid hs3
  have HCL := Lib.hid hcl
  have HF := Lib.hid ((hfr'.mono (S' := Just sb) fun _ _ q => q.elim).setCell (p := ⟨sb, 1, none⟩) (fun _ => just_self sb) (.slice A2 n2 c2))
  clear hs2 hs3 hcl hfr hfr' hsd hst hst2 hs hl
  go_enter Tryz.func109, Tryz.ntmps109
  go_wp2_with fail
  refine wp_region_mixed 13 (by kernel_rfl) (by kernel_rfl) (fun _ _ d _ _ h => by cases d <;> exact h) ?_
  simp only [List.take_succ_cons, List.take_zero, List.drop_succ_cons, List.drop_zero, List.filter_cons, List.filter_nil, isMv, Array.isEmpty_iff, Bool.not_false, Bool.and_true, Option.isNone_none, if_true, if_false, Bool.false_eq_true]
  repeat still_step
  refine wpStill_nil ?_
  go_wp2_with fail
  go_region_law ((refine step_of_wp rfl (wp_append_of_run _ _ _ _ rfl rfl rfl hrun ?_)))
  all_goals
    go_wp2_with fail
    go_ret2
    exact ⟨_, _, _, rfl, HCL.out, HS3.out, HF.out⟩
end Go.Proofs.YtkggebhkjgjijaaGreatDoor

namespace Go.Proofs.YtkggebhkjgjijaaGreatDoor
open Go Go.RowKit

theorem nil_sinkW (a : Addr) (w : World) : (nilAhead 291 111 (.pointer (some a)) "Write").run Tryz.prog w = .ok (some false) w := by kernel_rfl
theorem method_sinkW (a : Addr) (w : World) : (method 291 111 (.pointer (some a)) "Write").run Tryz.prog w = .ok (109, .pointer (some a)) w := by kernel_rfl

def DrainPost (w : World) (b : Nat) (g : Gh) (sb : Nat) (e : Ending) (w' : World) : Prop :=
  ∃ A k c, e = .returned (.tuple #[.int .i64 (g.txt.length : Int), .nilIface]) ∧ BufAt w' b g.rs ∧ w'.cell? ⟨sb, 1, none⟩ = some (.slice A k c) ∧ Src w' (.slice A k c) g.txt ∧ Fr (fun x => x = b ∨ x = sb) w w'

set_option maxHeartbeats 800000 in
set_option maxRecDepth 100000 in
theorem drain_empty (w : World) (b : Nat) (g : Gh) (sb room : Nat) (h : BufAt w b g) (hst : w.heap[sb]? = some (.cells #[.int .i64 (room : Int), .slice none 0 0] 113 (0, 0))) (ht : g.txt = []) :
    Calls Tryz.prog 60 #[.pointer (some ⟨b, 0, none⟩), .iface 111 (.pointer (some ⟨sb, 0, none⟩))] w (DrainPost w b g sb) := by
  have c2 := h.c2
  have f2 := h.f 2
  have htl := g.txt_length h.lc
  have hol := h.ol
  have hm : g.off + 0 = g.len := by rw [ht] at htl; simp at htl; omega
  have hne : sb ≠ b := by
    rintro rfl
    have := h.st
    rw [hst] at this
    injection this with this
    injection this with _ this
    exact absurd this (by decide)
  have H := Lib.hid h
  have HT := Lib.hid ht
  have HM := Lib.hid hm
  have HST := Lib.hid hst
  clear h ht htl hm hst
  go_enter Tryz.func60, Tryz.ntmps60
  go_wp2_with fail
  have S1 := BufStep.lr0 H.out 0
  refine (buf_len_m _ b _ 0 S1.at' HM.out).mono ?_
  rintro e w1 ⟨rfl, H1, F1⟩
  go_wp2_with fail
  refine (buf_reset _ b _ H1).mono ?_
  rintro e w2 ⟨rfl, A2, F2⟩
  have hF : Fr (Just b) w w2 := ((just_set w b 2 _).trans' F1 (fun _ _ q => q.elim)).trans F2
  have HF := Lib.hid hF
  have HA := Lib.hid A2
  clear S1 H1 F1 A2 F2 hF
  go_wp2_with fail
  go_ret2
  have hst2 := HF.out.blk HST.out (fun q => hne q)
  refine ⟨none, 0, 0, by rw [HT.out]; rfl, HA.out, ?_, by rw [HT.out]; exact .inr ⟨_, _, rfl, fun q => absurd q (by simp)⟩, HF.out.mono fun _ _ q => .inl q⟩
  rw [cell_of_row w2 sb 1 _ _ _ hst2]
  rfl

set_option maxHeartbeats 1600000 in
set_option maxRecDepth 100000 in
theorem drain_all (w : World) (b : Nat) (g : Gh) (sb room m : Nat) (h : BufAt w b g) (hst : w.heap[sb]? = some (.cells #[.int .i64 (room : Int), .slice none 0 0] 113 (0, 0))) (hm : g.txt.length = m) (hmp : 0 < m) (hroom : room ≤ 65535) (hn : m ≤ room) :
    Calls Tryz.prog 60 #[.pointer (some ⟨b, 0, none⟩), .iface 111 (.pointer (some ⟨sb, 0, none⟩))] w (DrainPost w b g sb) := by
  have c2 := h.c2
  have f2 := h.f 2
  have hl := h.lc
  have hz := h.sz
  have htl := g.txt_length h.lc
  have hol := h.ol
  have hml : g.off + m = g.len := by omega
  have hlm : g.len - g.off = m := by omega
  have hne : sb ≠ b := by
    rintro rfl
    have := h.st
    rw [hst] at this
    injection this with this
    injection this with _ this
    exact absurd this (by decide)
  have hner : ∀ r, g.row = some r → r ≠ sb := fun r hr => (h.row r hr).ne_blk hst (by decide)
  have hna := nil_sinkW ⟨sb, 0, none⟩
  have hme := method_sinkW ⟨sb, 0, none⟩
  have hsl := fun w' => slice_from g.row g.len g.all.length g.off hol w'
  rw [hlm] at hsl
  have H := Lib.hid h
  have HM := Lib.hid hm
  have HML := Lib.hid hml
  have HST := Lib.hid hst
  clear h hm htl hst hml
  go_enter Tryz.func60, Tryz.ntmps60
  go_wp2_with fail
  have S1 := BufStep.lr0 H.out 0
  refine (buf_len_m _ b _ m S1.at' HML.out).mono ?_
  rintro e w1 ⟨rfl, H1, F1⟩
  have hF1 : Fr (Just b) w w1 := (just_set w b 2 _).trans' F1 (fun _ _ q => q.elim)
  have k0 := H1.c0
  have k1 := H1.c1
  have hsrc : Src w1.drew (.slice (cutA g.row g.off g.all.length) m (g.all.length - g.off)) g.txt := by have hh := Src.unread H1.drew; rw [← hlm]; exact hh
  have hst1 := hF1.drew.blk HST.out (fun q => hne q)
  have hcall := sink_write w1.drew sb room m (g.all.length - g.off) (cutA g.row g.off g.all.length) g.txt hst1 hsrc HM.out (by omega) hroom hn
  have hst : ∀ w', Fr (Just sb) w1.drew w' → BufAt w' b { g with lr := 0 } := fun w' hf => H1.drew.fr hf (fun x q k => by
    have k : x = sb := k
    subst k
    rcases q with q | q
    · exact hne q
    · exact hner x q rfl)
  have HA1 := Lib.hid H1
  have HF1 := Lib.hid hF1
  have HC := Lib.hid hcall
  have HSB := Lib.hid hst
  simp only at k0 k1
  clear S1 H1 F1 hF1 hsrc hst1 hcall hst
  go_wp2_with fail
  go_region_held3 (fun w' => w'.cell? ⟨b, 0, none⟩ = some (.slice (rowA g.row) g.len g.all.length) ∧ w'.cell? ⟨b, 1, none⟩ = some (.int .i64 (g.off : Int))) (go_keep) ((go_at_call 109; refine HC.out.mono ?_; rintro e w2 ⟨A3, k3, c3, rfl, hcell, hs3, F2⟩; have A2 := HSB.out w2 F2; have d0 := A2.c0; have d1 := A2.c1; have e1 := A2.f 1; simp only at d0 d1; have HA2 := Lib.hid A2; have HF2 := Lib.hid F2; have HS3 := Lib.hid hs3; have HCE := Lib.hid hcell; clear A2 F2 hs3 hcell))
  have hA3 := HA2.out.off' (g.off + m) (by simp only; omega)
  have HA3 := Lib.hid hA3
  clear hA3
  go_wp2_with fail
  refine (buf_reset _ b _ HA3.out).mono ?_
  rintro e w4 ⟨rfl, A4, F4⟩
  have hF4 : Fr (Just b) w2 w4 := (just_set w2 b 1 _).trans F4
  have HA4 := Lib.hid A4
  have HF4 := Lib.hid hF4
  clear A4 F4 hF4
  go_wp2_with fail
  go_ret2
  refine ⟨A3, k3, c3, by rw [HM.out]; rfl, HA4.out, ?_, ?_, ?_⟩
  · exact (HF4.out.cell (World.block_lt_of_cell? _ _ HCE.out) (fun q => hne q)).trans HCE.out
  · exact HS3.out.struct HA2.out.toBufRaw HF4.out
  · exact (((HF1.out.mono fun _ _ q => .inl q).drew).trans (HF2.out.mono fun _ _ q => .inr q)).trans (HF4.out.mono fun _ _ q => .inl q)
end Go.Proofs.YtkggebhkjgjijaaGreatDoor
