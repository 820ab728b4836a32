/- BufF, Pure, Rune. -/
import Derived.Test.YtkggebhkjgjijaaGreatDoorQ05
import Derived.Test.YtkggebhkjgjijaaGreatDoorQ09
import Derived.WalkLawsBesides
import Derived.Lib.RuneBytes
import Derived.Lib.DecodeN
import Derived.Shelf.Spec.DecodeRune
namespace Go.Proofs.YtkggebhkjgjijaaGreatDoor
open Go Go.RowKit

/-- A slice of a buffer's bytes. -/
theorem Src.part {w : World} {b : Nat} {g : Gh} (h : BufAt w b g) (o k c : Nat) (ho : o + k ≤ g.all.length) : Src w (.slice (cutA g.row o g.all.length) k c) ((g.all.drop o).take k) := by
  cases hr : g.row with
  | none =>
    have ha := h.nil hr
    rw [ha] at ho
    simp only [List.length_nil, Nat.le_zero, Nat.add_eq_zero_iff] at ho
    obtain ⟨rfl, rfl⟩ := ho
    exact .inr ⟨_, _, rfl, fun q => absurd q (by simp)⟩
  | some r =>
    exact Src.of_row (h.row r hr) (fun q => cutA_some r o _ (by omega)) ho
theorem Gh.txt_take (g : Gh) (k : Nat) (h : g.off + k ≤ g.len) : (g.all.drop g.off).take k = g.txt.take k := by
  simp only [Gh.txt, List.drop_take, List.take_take]
  rw [Nat.min_eq_left (by omega)]
/-- The first k unread bytes. -/
theorem Src.first {w : World} {b : Nat} {g : Gh} (h : BufAt w b g) (k c : Nat) (hk : g.off + k ≤ g.len) : Src w (.slice (cutA g.row g.off g.all.length) k c) (g.txt.take k) := by
  have hl := h.lc
  rw [← Gh.txt_take g k hk]
  exact Src.part h g.off k c (by omega)

def NextPost (w : World) (b : Nat) (g : Gh) (k : Nat) (e : Ending) (w' : World) : Prop :=
  e = .returned (.slice (cutA g.row g.off g.all.length) k (g.all.length - g.off)) ∧ BufAt w' b (g.rd k) ∧ Fr (Just b) w w'
set_option maxHeartbeats 800000 in
set_option maxRecDepth 100000 in
theorem buf_next (w : World) (b : Nat) (g : Gh) (n m k : Nat) (h : BufAt w b g) (hm : g.off + m = g.len) (hk : k = min n m) (hn : n ≤ 9223372036854775807) :
    Calls Tryz.prog 52 #[.pointer (some ⟨b, 0, none⟩), .int .i64 (n : Int)] w (NextPost w b g k) := by
  have hz := h.sz
  have hl := h.lc
  have c2 := h.c2
  have f2 := h.f 2
  have hsl := fun w' => slice_lh g.row g.len g.all.length g.off (g.off + k) (by omega) (by omega) w'
  rw [Nat.add_sub_cancel_left, Int.natCast_add] at hsl
  have H := Lib.hid h
  have HM := Lib.hid hm
  clear h
  rcases (show (m < n ∧ m = k) ∨ (n ≤ m ∧ n = k) by omega) with ⟨hc, rfl⟩ | ⟨hc, rfl⟩
  all_goals
    clear hk
    go_enter Tryz.func52, Tryz.ntmps52
    go_wp2_with fail
    have S1 := BufStep.lr0 H.out 0
    refine (buf_len_m _ b _ _ S1.at' HM.out).mono ?_
    rintro e w1 ⟨rfl, H1, F1⟩
    have hF1 : Fr (Just b) w w1 := (just_set w b 2 _).trans' F1 (fun _ _ q => q.elim)
    have k0 := H1.c0
    have k1 := H1.c1
    have k2 := H1.c2
    have e1 := H1.f 1
    have e2 := H1.f 2
    simp only at k0 k1 k2
    have HA1 := Lib.hid H1
    have HF1 := Lib.hid hF1
    clear S1 H1 F1 hF1
    go_wp2_with fail
    go_quiet (fail)
  · skip
    have hA3 := (HA1.out.drewN nq).off' (g.off + m) (by simp only; omega)
    have HA3 := Lib.hid hA3
    have q2 := hA3.c2
    have q3 := hA3.f 2
    have HF2 := Lib.hid (HF1.out.drewN nq)
    by_cases hk0 : m = 0
    · subst hk0
      simp only [Nat.add_zero] at hA3 HA3 q2 q3
      clear hA3
      go_wp2_with fail
      go_ret
      exact ⟨rfl, HA3.out, HF2.out.setCell (fun _ => just_self b) _⟩
    · have hkp : (0 : Int) < (m : Int) := by omega
      have hA4 := hA3.lr0 (-1)
      have HA4 := Lib.hid hA4
      clear hA3 hA4
      go_wp2_with fail
      go_ret
      refine ⟨rfl, ?_, (HF2.out.setCell (fun _ => just_self b) _).setCell (fun _ => just_self b) _⟩
      have := HA4.out
      unfold Gh.rd
      rw [if_neg hk0]
      exact this
  · skip
    have hA3 := (HA1.out.drewN nq).off' (g.off + n) (by simp only; omega)
    have HA3 := Lib.hid hA3
    have q2 := hA3.c2
    have q3 := hA3.f 2
    have HF2 := Lib.hid (HF1.out.drewN nq)
    by_cases hk0 : n = 0
    · subst hk0
      simp only [Nat.add_zero] at hA3 HA3 q2 q3
      clear hA3
      go_wp2_with fail
      go_ret
      exact ⟨rfl, HA3.out, HF2.out.setCell (fun _ => just_self b) _⟩
    · have hkp : (0 : Int) < (n : Int) := by omega
      have hA4 := hA3.lr0 (-1)
      have HA4 := Lib.hid hA4
      clear hA3 hA4
      go_wp2_with fail
      go_ret
      refine ⟨rfl, ?_, (HF2.out.setCell (fun _ => just_self b) _).setCell (fun _ => just_self b) _⟩
      have := HA4.out
      unfold Gh.rd
      rw [if_neg hk0]
      exact this

set_option maxRecDepth 100000 in
theorem buf_bytes (w : World) (b : Nat) (g : Gh) (h : BufAt w b g) :
    Calls Tryz.prog 69 #[.pointer (some ⟨b, 0, none⟩)] w fun e w' => e = .returned (.slice (cutA g.row g.off g.all.length) (g.len - g.off) (g.all.length - g.off)) ∧ ∃ k, w' = w.drewN k := by
  have c0 := h.c0; have c1 := h.c1; have ho := h.ol; have hl := h.lc; have hz := h.sz
  have hsl := fun w' => slice_from g.row g.len g.all.length g.off ho w'
  clear h
  go_enter Tryz.func69, Tryz.ntmps69
  go_wp2_with fail
  go_quiet (fail)
  go_wp2_with fail
  go_ret
  exact ⟨rfl, _, rfl⟩
set_option maxRecDepth 100000 in
theorem buf_free (w : World) (b : Nat) (g : Gh) (h : BufAt w b g) :
    Calls Tryz.prog 50 #[.pointer (some ⟨b, 0, none⟩)] w fun e w' => e = .returned (.slice (cutA g.row g.len g.all.length) 0 (g.all.length - g.len)) ∧ ∃ k, w' = w.drewN k := by
  have c0 := h.c0; have c1 := h.c1; have ho := h.ol; have hl := h.lc; have hz := h.sz
  have hsl := fun w' => slice_from g.row g.len g.all.length g.len (Nat.le_refl _) w'
  rw [Nat.sub_self] at hsl
  clear h
  go_enter Tryz.func50, Tryz.ntmps50
  go_wp2_with fail
  go_quiet (fail)
  go_wp2_with fail
  go_ret
  exact ⟨rfl, _, rfl⟩
set_option maxHeartbeats 800000 in
set_option maxRecDepth 100000 in
theorem buf_readByte_eof (w : World) (b : Nat) (g : Gh) (ea : Addr) (h : BufAt w b g) (hlt : g.len ≤ g.off) (he : w.cell? ⟨0, 0, none⟩ = some (.iface 145 (.pointer (some ea)))) (hbe : b ≠ 0) :
    Calls Tryz.prog 53 #[.pointer (some ⟨b, 0, none⟩)] w fun e w' => e = .returned (.tuple #[.int .u8 0, .iface 145 (.pointer (some ea))]) ∧ BufAt w' b g.rs ∧ Fr (Just b) w w' := by
  have H := Lib.hid h
  have HE := Lib.hid he
  clear h he
  go_enter Tryz.func53, Tryz.ntmps53
  go_wp2_with fail
  refine (buf_empty_yes _ b _ H.out hlt).mono ?_
  rintro e w1 ⟨rfl, H1, F1⟩
  go_wp2_with fail
  refine (buf_reset _ b _ H1).mono ?_
  rintro e w2 ⟨rfl, H2, F2⟩
  have hF : Fr (Just b) w w2 := (F1.mono (fun _ _ q => q.elim)).trans F2
  have hE2 := (hF.cell (World.block_lt_of_cell? _ _ HE.out) (fun q => hbe q.symm)).trans HE.out
  have HF := Lib.hid hF
  have HA := Lib.hid H2
  clear H1 F1 H2 F2 hF
  go_wp2_with fail
  go_quiet (fail)
  go_wp2_with fail
  go_ret2
  exact ⟨rfl, HA.out.drewN _, HF.out.drewN _⟩

/-- The byte that is read next. -/
theorem BufAt.byte {w : World} {b : Nat} {g : Gh} {x : UInt8} {t : List UInt8} (h : BufAt w b g) (ht : g.txt = x :: t) : ∃ r, g.row = some r ∧ w.cell? ⟨r, g.off, none⟩ = some (.int .u8 (x.toNat : Int)) ∧ g.off < g.len ∧ g.txt.length = g.len - g.off := by
  have hl := h.lc
  have htl := g.txt_length hl
  have h2 : g.off < g.len := by rw [ht] at htl; simp at htl; omega
  cases hr : g.row with
  | none => have := h.nil hr; rw [this] at hl; simp at hl; omega
  | some r =>
    refine ⟨r, rfl, ?_, h2, htl⟩
    have hc := (h.row r hr).cell g.off (by omega)
    rw [hc]
    have : g.txt[0]? = some x := by rw [ht]; rfl
    simp only [Gh.txt, List.getElem?_drop, Nat.add_zero, List.getElem?_take, h2, if_true] at this
    rw [List.getElem?_eq_getElem (by omega)] at this
    injection this with this
    rw [this]

set_option maxHeartbeats 800000 in
set_option maxRecDepth 100000 in
theorem buf_readByte_some (w : World) (b : Nat) (g : Gh) (x : UInt8) (t : List UInt8) (h : BufAt w b g) (ht : g.txt = x :: t) :
    Calls Tryz.prog 53 #[.pointer (some ⟨b, 0, none⟩)] w fun e w' => e = .returned (.tuple #[.int .u8 (x.toNat : Int), .nilIface]) ∧ BufAt w' b (g.rd 1) ∧ Fr (Just b) w w' := by
  obtain ⟨r, hr, hc, hlt, htl⟩ := h.byte ht
  have hz := h.sz
  have hl := h.lc
  have H := Lib.hid h
  have HC := Lib.hid hc
  have HR := Lib.hid hr
  clear h hc
  go_enter Tryz.func53, Tryz.ntmps53
  go_wp2_with fail
  refine (buf_empty_no _ b _ H.out hlt).mono ?_
  rintro e w1 ⟨rfl, H1, F1⟩
  have k0 := H1.c0
  have k1 := H1.c1
  have k2 := H1.c2
  have e1 := H1.f 1
  have e2 := H1.f 2
  have kc := (F1.cell (World.block_lt_of_cell? _ _ HC.out) (fun q => q)).trans HC.out
  rw [HR.out, rowA_some] at k0
  have HA1 := Lib.hid H1
  have HF1 := Lib.hid F1
  clear H1 F1 hr
  go_wp2_with fail
  go_quiet (fail)
  have hA3 := (HA1.out.drewN nq).off' (g.off + 1) (by omega)
  have q2 := hA3.c2
  have q3 := hA3.f 2
  have HA4 := Lib.hid (hA3.lr0 (-1))
  have HF2 := Lib.hid (HF1.out.drewN nq)
  clear hA3
  go_wp2_with fail
  go_ret2
  exact ⟨rfl, HA4.out, (((HF2.out.mono (S' := Just b) fun _ _ q => q.elim).setCell (fun _ => just_self b) _).setCell (fun _ => just_self b) _)⟩

set_option maxHeartbeats 800000 in
set_option maxRecDepth 100000 in
theorem buf_peek (w : World) (b : Nat) (g : Gh) (n m : Nat) (h : BufAt w b g) (hm : g.off + m = g.len) (hn : n ≤ m) :
    Calls Tryz.prog 59 #[.pointer (some ⟨b, 0, none⟩), .int .i64 (n : Int)] w fun e w' => e = .returned (.tuple #[.slice (cutA g.row g.off g.all.length) n (g.all.length - g.off), .nilIface]) ∧ BufAt w' b g ∧ Fr (fun _ => False) w w' := by
  have hz := h.sz
  have hl := h.lc
  have hsl := fun w' => slice_lh g.row g.len g.all.length g.off (g.off + n) (by omega) (by omega) w'
  rw [Nat.add_sub_cancel_left, Int.natCast_add] at hsl
  have H := Lib.hid h
  have HM := Lib.hid hm
  clear h
  go_enter Tryz.func59, Tryz.ntmps59
  go_wp2_with fail
  refine (buf_len_m _ b _ _ H.out HM.out).mono ?_
  rintro e w1 ⟨rfl, H1, F1⟩
  have k0 := H1.c0
  have k1 := H1.c1
  have HA1 := Lib.hid H1
  have HF1 := Lib.hid F1
  clear H1 F1
  go_wp2_with fail
  go_quiet (fail)
  go_wp2_with fail
  go_ret2
  exact ⟨rfl, HA1.out.drewN _, HF1.out.drewN _⟩
end Go.Proofs.YtkggebhkjgjijaaGreatDoor

namespace Go.Proofs.YtkggebhkjgjijaaGreatDoor
open Go Go.RowKit

/-- A slice of the row up to h. -/
theorem slice_to (row : Option Nat) (n c h : Nat) (hh : h ≤ c) (w : World) : (Instr.slice 48 (.slice (rowA row) n c) none (some (.int .i64 (h : Int))) none).run Tryz.prog w = .ok (.slice (rowA row) h c) w := by
  obtain ⟨i0, hi, hz0, hz1, hz2⟩ := info_parts info_u8
  have h1 : (0 : Int) ≤ (h : Int) := by omega
  have h2 : (h : Int) ≤ (c : Int) := by omega
  cases row <;> simp [Instr.slice, run_underlying Tryz.underlying48, Instr.sliceBounds, run_sliceBound, sizeOf, typeInfo, hi, h1, h2, addr_add1]

set_option maxHeartbeats 800000 in
set_option maxRecDepth 100000 in
theorem buf_unreadByte_no (w : World) (b : Nat) (g : Gh) (ea : Addr) (h : BufAt w b g) (hlr : g.lr = 0) (he : w.cell? ⟨1, 0, none⟩ = some (.iface 145 (.pointer (some ea)))) :
    Calls Tryz.prog 57 #[.pointer (some ⟨b, 0, none⟩)] w fun e w' => e = .returned (.iface 145 (.pointer (some ea))) ∧ w' = w := by
  have c2 := h.c2
  rw [hlr] at c2
  clear h
  go_enter Tryz.func57, Tryz.ntmps57
  go_wp2_with fail
  go_ret
  exact ⟨rfl, rfl⟩
set_option maxHeartbeats 800000 in
set_option maxRecDepth 100000 in
theorem buf_unreadByte_yes (w : World) (b : Nat) (g : Gh) (h : BufAt w b g) (hlr : g.lr ≠ 0) (ho : 0 < g.off) :
    Calls Tryz.prog 57 #[.pointer (some ⟨b, 0, none⟩)] w fun e w' => e = .returned .nilIface ∧ BufAt w' b { g with off := g.off - 1, lr := 0 } ∧ Fr (Just b) w w' := by
  have c1 := h.c1
  have c2 := h.c2
  have f1 := h.f 1
  have f2 := h.f 2
  have hol := h.ol
  have hl := h.lc
  have hz := h.sz
  have hlr' : (g.lr == 0) = false := by simp [hlr]
  have hsub : (g.off : Int) - 1 = ((g.off - 1 : Nat) : Int) := by omega
  have H := Lib.hid (((h.lr0 0).off' (g.off - 1) (by simp only; omega)))
  clear h
  go_enter Tryz.func57, Tryz.ntmps57
  go_wp2_with fail
  go_ret
  refine ⟨rfl, ?_, ((Fr.refl _ w).setCell (fun _ => just_self b) _).setCell (fun _ => just_self b) _⟩
  exact H.out

set_option maxHeartbeats 800000 in
set_option maxRecDepth 100000 in
theorem buf_unreadRune_no (w : World) (b : Nat) (g : Gh) (h : BufAt w b g) (hlr : g.lr ≤ 0) :
    Calls Tryz.prog 58 #[.pointer (some ⟨b, 0, none⟩)] w fun e w' => ∃ s, e = .returned (.iface 145 (.pointer (some ⟨w.heap.size, 0, none⟩))) ∧ w' = w.alloc (.cells #[.string s] 147) := by
  have c2 := h.c2
  clear h
  go_enter Tryz.func58, Tryz.ntmps58
  go_wp2_with fail
  refine (errors_new _ _).mono ?_
  rintro e w' ⟨rfl, rfl⟩
  go_wp2_with fail
  go_ret
  exact ⟨_, rfl, rfl⟩
set_option maxHeartbeats 800000 in
set_option maxRecDepth 100000 in
theorem buf_unreadRune_yes (w : World) (b : Nat) (g : Gh) (k : Nat) (h : BufAt w b g) (hlr : g.lr = (k : Int)) (hk : 0 < k) (hk4 : k ≤ 4) (ho : k ≤ g.off) :
    Calls Tryz.prog 58 #[.pointer (some ⟨b, 0, none⟩)] w fun e w' => e = .returned .nilIface ∧ BufAt w' b { g with off := g.off - k, lr := 0 } ∧ Fr (Just b) w w' := by
  have c1 := h.c1
  have c2 := h.c2
  have f1 := h.f 1
  have f2 := h.f 2
  rw [hlr] at c2
  have hol := h.ol
  have hl := h.lc
  have hz := h.sz
  have hsub := Lib.hid (show (g.off : Int) - (k : Int) = ((g.off - k : Nat) : Int) by omega)
  have hwk : IntKind.i64.wrap (k : Int) = (k : Int) := IntWalk.i64_in _ (by omega)
  have hws : IntKind.i64.wrap ((g.off : Int) - (k : Int)) = (g.off : Int) - (k : Int) := IntWalk.i64_in _ (by omega)
  have H := Lib.hid (fun n => (h.drewN n).drew)
  clear h
  go_enter Tryz.func58, Tryz.ntmps58
  go_wp2_with fail
  go_quiet (fail)
  go_wp2_with fail
  refine wp_region_mixed 12 (by kernel_rfl) (by kernel_rfl) (fun _ _ d _ _ h => by cases d <;> exact h) ?_
  simp only [List.take_succ_cons, List.take_zero, List.drop_succ_cons, List.drop_zero, List.filter_cons, List.filter_nil, isMv, Array.isEmpty_iff, Bool.not_false, Bool.and_true, Option.isNone_none, if_true, if_false, Bool.false_eq_true]
  repeat still_step
  refine wpStill_nil ?_
  have hA := (H.out nq).off' (g.off - k) (by omega)
  rw [← hsub.out] at hA
  have q2 := hA.c2
  have q3 := hA.f 2
  have HB := Lib.hid (hA.lr0 0)
  rw [hlr] at q2
  clear hA
  go_wp2_with fail
  go_ret
  refine ⟨rfl, ?_, (((Fr.refl _ w).drewN nq).drew.setCell (fun _ => just_self b) _).setCell (fun _ => just_self b) _⟩
  exact HB.out

set_option maxHeartbeats 800000 in
set_option maxRecDepth 100000 in
theorem buf_truncate_zero (w : World) (b : Nat) (g : Gh) (h : BufAt w b g) :
    Calls Tryz.prog 64 #[.pointer (some ⟨b, 0, none⟩), .int .i64 0] w fun e w' => e = .returned (.tuple #[]) ∧ BufAt w' b g.rs ∧ Fr (Just b) w w' := by
  have H := Lib.hid h
  clear h
  go_enter Tryz.func64, Tryz.ntmps64
  go_wp2_with fail
  refine (buf_reset _ b _ H.out).mono ?_
  rintro e w1 ⟨rfl, H1, F1⟩
  go_wp2_with fail
  refine bodyPost_ret (results_none rfl _ _ _) rfl ?_
  exact ⟨rfl, H1, F1⟩
set_option maxHeartbeats 800000 in
set_option maxRecDepth 100000 in
theorem buf_truncate_some (w : World) (b : Nat) (g : Gh) (n m : Nat) (h : BufAt w b g) (hm : g.off + m = g.len) (hn : 0 < n) (hnm : n ≤ m) :
    Calls Tryz.prog 64 #[.pointer (some ⟨b, 0, none⟩), .int .i64 (n : Int)] w fun e w' => e = .returned (.tuple #[]) ∧ BufAt w' b { g with len := g.off + n, lr := 0 } ∧ Fr (Just b) w w' := by
  have hz := h.sz
  have hl := h.lc
  have c2 := h.c2
  have f2 := h.f 2
  have hn0 : ((n : Int) == 0) = false := by simp; omega
  have hsl := fun w' => slice_to g.row g.len g.all.length (g.off + n) (by omega) w'
  rw [Int.natCast_add] at hsl
  have hws : IntKind.i64.wrap ((g.off : Int) + (n : Int)) = (g.off : Int) + (n : Int) := IntWalk.i64_in _ (by omega)
  have H := Lib.hid h
  have HM := Lib.hid hm
  clear h
  go_enter Tryz.func64, Tryz.ntmps64
  go_wp2_with fail
  have S1 := BufStep.lr0 H.out 0
  refine (buf_len_m _ b _ _ S1.at' HM.out).mono ?_
  rintro e w1 ⟨rfl, H1, F1⟩
  have hF1 : Fr (Just b) w w1 := (just_set w b 2 _).trans' F1 (fun _ _ q => q.elim)
  have k0 := H1.c0
  have k1 := H1.c1
  have e1 := H1.f 0
  simp only at k0 k1
  have HA1 := Lib.hid H1
  have HF1 := Lib.hid hF1
  clear S1 H1 F1 hF1
  go_wp2_with fail
  refine wp_region_mixed 14 (by kernel_rfl) (by kernel_rfl) (fun _ _ d _ _ h => by cases d <;> exact h) ?_
  simp only [List.take_succ_cons, List.take_zero, List.drop_succ_cons, List.drop_zero, List.filter_cons, List.filter_nil, isMv, Array.isEmpty_iff, Bool.not_false, Bool.and_true, Option.isNone_none, if_true, if_false, Bool.false_eq_true]
  repeat still_step
  refine wpStill_nil ?_
  have HB := Lib.hid (HA1.out.drew.len' (g.off + n) (by simp only; omega) (by simp only; omega))
  go_wp2_with fail
  go_end0
  exact ⟨rfl, HB.out, HF1.out.drew.setCell (fun _ => just_self b) _⟩
end Go.Proofs.YtkggebhkjgjijaaGreatDoor

namespace Go.Proofs.YtkggebhkjgjijaaGreatDoor
open Go

/-- A step of a script. -/
structure Cl where
  op : Int
  a : Int
  b : Int
  size : Nat
  n : Int
  sign : UInt8
  char : Int
  text : List UInt8
  cuts : List Nat
  /-- Where the cuts lie, and their capacity. -/
  ad : Option Addr
  cap : Nat

/-- What a call tells. -/
structure Td where
  n : Int
  text : List UInt8
  char : Int
  said : Int

/-- How a buffer begins. -/
structure St where
  text : List UInt8
  way : Int
  space : Nat

/-- A buffer of the reference: what is unread, the most recent read or write (0 unknown, 1 single, 2 char, 3 empty, 4 written, 5 cut), what it returned last, whether there was a read. -/
structure SB where
  text : List UInt8
  recent : Int
  last : List UInt8
  begun : Bool

/-- All buffers and builders. -/
structure Yd where
  bufs : List SB
  blds : List (List UInt8)

def Td.said' (k : Int) : Td := ⟨0, [], 0, k⟩
def Td.ofN (k : Int) : Td := ⟨k, [], 0, 0⟩
def Td.ofText (t : List UInt8) : Td := ⟨0, t, 0, 0⟩
def Td.zero : Td := ⟨0, [], 0, 0⟩

/-- No code point. -/
def badRune (r : Int) : Prop := r < 0 ∨ 1114111 < r ∨ (55296 ≤ r ∧ r < 57344)
instance (r : Int) : Decidable (badRune r) := by unfold badRune; infer_instance

/-- The encoding of a code point; empty if it is none. -/
def enc (r : Int) : List UInt8 := if badRune r then [] else Lib.encodeRune r

/-- The code point that comes first, and its size. -/
def dec (s : List UInt8) : Int × Nat :=
  let q := Lib.decodeN s.length (s.getD 0 0).toNat (s.getD 1 0).toNat (s.getD 2 0).toNat (s.getD 3 0).toNat
  ((q.1 : Int), q.2)

def SB.write (b : SB) (s : List UInt8) : SB := ⟨b.text ++ s, 4, [], b.begun⟩
def SB.read (b : SB) (n : Nat) (recent : Int) : SB :=
  if n = 0 then ⟨b.text, 3, [], true⟩
  else ⟨b.text.drop n, recent, if recent = 2 then b.text.take n else (b.text.drop (n - 1)).take 1, true⟩
def SB.other (b : SB) (s : List UInt8) : SB := ⟨s, 0, [], b.begun⟩

/-- How many bytes a read up to a byte takes: up to and including its first place; none if it is not there. -/
def upTo (c : UInt8) : List UInt8 → Option Nat
  | [] => none
  | x :: l => if x = c then some 1 else (upTo c l).map (· + 1)

def SB.reads (b : SB) (c : Cl) : SB × Td × Bool :=
  let n := min c.size b.text.length
  if c.op = 6 then
    if b.text = [] ∧ 0 < c.size then (b.read 0 1, Td.said' 1, true)
    else (b.read n 1, ⟨n, b.text.take n, 0, 0⟩, true)
  else if c.op = 7 then (b.read n 1, Td.ofText (b.text.take n), true)
  else if c.op = 8 then
    match b.text with
    | [] => (b.read 0 1, Td.said' 1, true)
    | x :: _ => (b.read 1 1, ⟨0, [], x.toNat, 0⟩, true)
  else if c.op = 9 ∨ c.op = 10 then
    match upTo c.sign b.text with
    | some k => (b.read k 1, Td.ofText (b.text.take k), true)
    | none => if b.text = [] then (⟨[], 5, [], true⟩, Td.said' 1, true) else (b.read b.text.length 5, ⟨0, b.text, 0, 1⟩, true)
  else if b.text = [] then (b.read 0 2, Td.said' 1, true)
  else (b.read (dec b.text).2 2, ⟨(dec b.text).2, [], (dec b.text).1, 0⟩, true)

def SB.back (b : SB) (c : Cl) : SB × Td × Bool :=
  if c.op = 13 then
    if b.recent = 2 then (b.other (b.last ++ b.text), Td.zero, true)
    else (b, Td.said' 2, decide (b.recent ≠ 0))
  else if b.recent = 1 ∨ b.recent = 2 then (b.other (b.last.drop (b.last.length - 1) ++ b.text), Td.zero, true)
  else if b.recent = 3 then (b, Td.said' 2, true)
  else if b.recent = 4 then (b, Td.said' 2, b.begun)
  else (b, Td.said' 2, false)

def SB.look (b : SB) (c : Cl) : SB × Td × Bool :=
  let put (n : Int) : SB × Td × Bool :=
    if 0 ≤ n ∧ n < b.text.length then (b.other (b.text.take n.toNat ++ c.sign :: b.text.drop (n.toNat + 1)), Td.zero, true)
    else (b.other b.text, Td.zero, true)
  if c.op = 14 then
    if b.text.length < c.size then (b, Td.zero, false)
    else (b.other b.text, Td.ofText (b.text.take c.size), true)
  else if c.op = 22 then
    if b.text.length < c.size then (b, Td.zero, false) else put ((c.size : Int) - 1)
  else put (c.size : Int)

def SB.do (b : SB) (c : Cl) : SB × Td × Bool :=
  if c.op = 1 ∨ c.op = 2 ∨ c.op = 5 then (b.write c.text, Td.ofN c.text.length, true)
  else if c.op = 3 then (b.write [c.sign], Td.zero, true)
  else if c.op = 4 then (b.write (enc c.char), Td.ofN (enc c.char).length, decide (enc c.char ≠ []))
  else if c.op = 12 ∨ c.op = 13 then b.back c
  else if c.op = 18 then (b, Td.ofN b.text.length, true)
  else if c.op = 19 ∨ c.op = 20 then (b, Td.ofText b.text, true)
  else if c.op = 15 then
    if 0 ≤ c.n ∧ c.n ≤ b.text.length then (b.other (b.text.take c.n.toNat), Td.zero, true)
    else (b, Td.said' 3, true)
  else if c.op = 16 then (b.other [], Td.zero, true)
  else if c.op = 17 then
    if c.n < 0 then (b, Td.said' 3, true) else (b.other b.text, Td.zero, decide (c.n ≤ 65536))
  else if c.op = 21 ∨ c.op = 22 ∨ c.op = 14 then b.look c
  else b.reads c

def putS (s : List UInt8) (c : Cl) : List UInt8 × Td × Bool :=
  if c.op = 28 ∨ c.op = 29 then (s ++ c.text, Td.ofN c.text.length, true)
  else if c.op = 30 then (s ++ [c.sign], Td.zero, true)
  else if c.op = 31 then (s ++ enc c.char, Td.ofN (enc c.char).length, decide (enc c.char ≠ []))
  else if c.op = 32 then
    if c.n < 0 then (s, Td.said' 3, true) else (s, Td.zero, decide (c.n ≤ 65536))
  else if c.op = 33 then ([], Td.zero, true)
  else if c.op = 34 then (s, Td.ofN s.length, true)
  else (s, Td.ofText s, true)

def inR (i : Int) (n : Nat) : Prop := 0 ≤ i ∧ i < n
instance (i : Int) (n : Nat) : Decidable (inR i n) := by unfold inR; infer_instance

def SB.zero : SB := ⟨[], 0, [], false⟩
def Yd.buf (y : Yd) (i : Int) : SB := y.bufs.getD i.toNat SB.zero
def Yd.bld (y : Yd) (i : Int) : List UInt8 := y.blds.getD i.toNat []
def Yd.setBuf (y : Yd) (i : Int) (b : SB) : Yd := { y with bufs := y.bufs.set i.toNat b }
def Yd.setBld (y : Yd) (i : Int) (s : List UInt8) : Yd := { y with blds := y.blds.set i.toNat s }

def Yd.flow (y : Yd) (c : Cl) : Yd × Td × Bool :=
  let a := y.buf c.a
  let s := a.text
  if c.op = 26 then
    if c.size < s.length then (y, Td.zero, false)
    else (y.setBuf c.a (a.other []), ⟨s.length, s, 0, 0⟩, true)
  else if c.op = 27 then
    (y.setBuf c.a (a.other (s ++ c.text)), ⟨c.text.length, [], 0, if c.n = 0 then 0 else 2⟩, true)
  else if c.op = 25 then
    if inR c.b y.blds.length then ((y.setBuf c.a (a.other [])).setBld c.b (y.bld c.b ++ s), Td.ofN s.length, true)
    else (y, Td.said' 4, true)
  else if inR c.b y.bufs.length ∧ c.a ≠ c.b then
    let b := y.buf c.b
    if c.op = 24 then ((y.setBuf c.a (a.other (s ++ b.text))).setBuf c.b (b.other []), Td.ofN b.text.length, true)
    else ((y.setBuf c.a (a.other [])).setBuf c.b (if s = [] then b.other b.text else b.write s), Td.ofN s.length, true)
  else (y, Td.said' 4, true)

def Yd.do (y : Yd) (c : Cl) : Yd × Td × Bool :=
  if c.op < 1 ∨ 36 ≤ c.op then (y, Td.said' 4, true)
  else if 28 ≤ c.op then
    if inR c.a y.blds.length then
      let r := putS (y.bld c.a) c
      (y.setBld c.a r.1, r.2.1, r.2.2)
    else (y, Td.said' 4, true)
  else if inR c.a y.bufs.length then
    if 23 ≤ c.op then y.flow c
    else
      let r := (y.buf c.a).do c
      (y.setBuf c.a r.1, r.2.1, r.2.2)
  else (y, Td.said' 4, true)

def Yd.begin (starts : List St) (builders : Nat) : Yd :=
  ⟨starts.map fun s => ⟨s.text, if s.way = 2 then 4 else 0, [], false⟩, List.replicate builders []⟩
def Yd.texts (y : Yd) : List (List UInt8) := y.bufs.map (·.text)

/-- A script without the calls that are not settled, or panic. -/
def calmF : Yd → List Cl → List Cl
  | _, [] => []
  | y, c :: l =>
    let r := y.do c
    if r.2.2 = true ∧ r.2.1.said ≠ 3 then c :: calmF r.1 l else calmF y l
/-- What the reference tells of a script, and the yard behind it. -/
def runF : Yd → List Cl → List Td × Yd
  | y, [] => ([], y)
  | y, c :: l =>
    let r := y.do c
    if r.2.1.said = 3 then ([r.2.1], y)
    else
      let q := runF r.1 l
      (r.2.1 :: q.1, q.2)
end Go.Proofs.YtkggebhkjgjijaaGreatDoor

namespace Go.Proofs.YtkggebhkjgjijaaGreatDoor
open Go Go.RowKit

/-- The numbers of the shelf's names in this program. -/
def decRen : Go.Shelf.Ren := ⟨fun | 32 => 80 | 49 => 90 | n => n,
  fun | 0 => 0 | 3 => 3 | 4 => 4 | 5 => 5 | 21 => 21 | 25 => 65 | 30 => 48 | 33 => 120 | 66 => 158 | 68 => 160 | 69 => 161 | n => n,
  fun | 2 => 6 | 3 => 7 | n => n⟩
theorem decLays : Lays7.n32 Tryz.prog decRen :=
  { mixed := by kernel_rfl, f32 := Tryz.func80, f49 := Tryz.func90,
    t0 := by kernel_rfl, a0 := fun w => by kernel_rfl, z0 := fun w => by kernel_rfl, v0 := fun w => by kernel_rfl, i0 := by kernel_rfl, t3 := by kernel_rfl, a3 := fun w => by kernel_rfl, z3 := fun w => by kernel_rfl, v3 := fun w => by kernel_rfl, i3 := by kernel_rfl, t4 := by kernel_rfl, a4 := fun w => by kernel_rfl, z4 := fun w => by kernel_rfl, v4 := fun w => by kernel_rfl, i4 := by kernel_rfl, t5 := by kernel_rfl, a5 := fun w => by kernel_rfl, z5 := fun w => by kernel_rfl, v5 := fun w => by kernel_rfl, i5 := by kernel_rfl, t21 := by kernel_rfl, a21 := fun w => by kernel_rfl, z21 := fun w => by kernel_rfl, v21 := fun w => by kernel_rfl, i21 := by kernel_rfl, t25 := by kernel_rfl, a25 := fun w => by kernel_rfl, z25 := fun w => by kernel_rfl, v25 := fun w => by kernel_rfl, i25 := by kernel_rfl, t30 := by kernel_rfl, a30 := fun w => by kernel_rfl, z30 := fun w => by kernel_rfl, v30 := fun w => by kernel_rfl, i30 := by kernel_rfl, t33 := by kernel_rfl, a33 := fun w => by kernel_rfl, z33 := fun w => by kernel_rfl, v33 := fun w => by kernel_rfl, i33 := by kernel_rfl, t66 := by kernel_rfl, a66 := fun w => by kernel_rfl, z66 := fun w => by kernel_rfl, t68 := by kernel_rfl, a68 := fun w => by kernel_rfl, z68 := fun w => by kernel_rfl, v68 := fun w => by kernel_rfl, i68 := by kernel_rfl, t69 := by kernel_rfl, a69 := fun w => by kernel_rfl, z69 := fun w => by kernel_rfl, v69 := fun w => by kernel_rfl, i69 := by kernel_rfl, g2 := by kernel_rfl, g3 := by kernel_rfl }
end Go.Proofs.YtkggebhkjgjijaaGreatDoor

namespace Go.Proofs.YtkggebhkjgjijaaGreatDoor
open Go Go.RowKit

theorem bcs_rune (r : Int) : bcs (Lib.encodeRune r) = Lib.runeCells r := Lib.byteCells_encodeRune r
/-- The append that AppendRune comes to. -/
def RuneApp (w : World) (v : Value) (r : Int) (v' : Value) (w2 : World) : Prop :=
  (Builtin.append_ #[48, 48] 48 #[v, .slice (some ⟨w.heap.size, 0, none⟩) (Lib.runeCells r).length (Lib.runeCells r).length]).run Tryz.prog (w.alloc (.cells (Lib.runeCells r).toArray 5)) = .ok v' w2
theorem RuneApp.at {w w2 : World} {v v' : Value} {r : Int} {l : List Int} (h : RuneApp w v r v' w2) (hl : Lib.encodeRuneZ r = l) :
    (Builtin.append_ #[48, 48] 48 #[v, .slice (some ⟨w.heap.size, 0, none⟩) l.length l.length]).run Tryz.prog (w.alloc (.cells (l.map fun x => Value.int .u8 x).toArray 5)) = .ok v' w2 := by
  subst hl
  have := h
  unfold RuneApp Lib.runeCells at this
  rw [List.length_map] at this
  exact this

set_option maxHeartbeats 1600000 in
set_option maxRecDepth 100000 in
theorem appendNonASCII_of (v v' : Value) (r : Int) (w w2 : World) (hr : ¬ badRune r) (hr8 : 128 ≤ r) (happ : RuneApp w v r v' w2) :
    Calls Tryz.prog 87 #[v, .int .i32 r] w fun e w' => e = .returned v' ∧ w' = w2 := by
  unfold badRune at hr
  rcases (show (128 ≤ r ∧ r ≤ 2047) ∨ (2048 ≤ r ∧ r < 55296) ∨ (57343 < r ∧ r ≤ 65535) ∨ (65536 ≤ r ∧ r ≤ 1114111) by omega) with ⟨h0, h1⟩ | ⟨h0, h1⟩ | ⟨h0, h1⟩ | ⟨h0, h1⟩
  · have ha := happ.at (Lib.encodeRuneZ_two h0 h1)
    simp only [List.map_cons, List.map_nil, List.length_cons, List.length_nil] at ha
    clear happ hr hr8
    go_enter Tryz.func87, Tryz.ntmps87
    go_wp2_with (at_builtin; refine wpList_plain rfl (fun K hK => wp_append_of_run _ _ _ _ rfl rfl rfl ha (hK _ _ ?_)))
    go_ret
    exact ⟨rfl, rfl⟩
  · have ha := happ.at (Lib.encodeRuneZ_three (.inl ⟨h0, h1⟩))
    simp only [List.map_cons, List.map_nil, List.length_cons, List.length_nil] at ha
    clear happ hr hr8
    go_enter Tryz.func87, Tryz.ntmps87
    go_wp2_with (at_builtin; refine wpList_plain rfl (fun K hK => wp_append_of_run _ _ _ _ rfl rfl rfl ha (hK _ _ ?_)))
    go_ret
    exact ⟨rfl, rfl⟩
  · have ha := happ.at (Lib.encodeRuneZ_three (.inr ⟨h0, h1⟩))
    simp only [List.map_cons, List.map_nil, List.length_cons, List.length_nil] at ha
    clear happ hr hr8
    go_enter Tryz.func87, Tryz.ntmps87
    go_wp2_with (at_builtin; refine wpList_plain rfl (fun K hK => wp_append_of_run _ _ _ _ rfl rfl rfl ha (hK _ _ ?_)))
    go_ret
    exact ⟨rfl, rfl⟩
  · have ha := happ.at (Lib.encodeRuneZ_four h0 h1)
    simp only [List.map_cons, List.map_nil, List.length_cons, List.length_nil] at ha
    clear happ hr hr8
    go_enter Tryz.func87, Tryz.ntmps87
    go_wp2_with (at_builtin; refine wpList_plain rfl (fun K hK => wp_append_of_run _ _ _ _ rfl rfl rfl ha (hK _ _ ?_)))
    go_ret
    exact ⟨rfl, rfl⟩

set_option maxHeartbeats 1600000 in
set_option maxRecDepth 100000 in
theorem appendRune_of (v v' : Value) (r : Int) (w w2 : World) (hr : ¬ badRune r) (happ : RuneApp w v r v' w2) :
    Calls Tryz.prog 76 #[v, .int .i32 r] w fun e w' => e = .returned v' ∧ w' = w2 := by
  by_cases h1 : r ≤ 127
  · have h0 : 0 ≤ r := by unfold badRune at hr; omega
    have ha := happ.at (Lib.encodeRuneZ_one h0 h1)
    simp only [List.map_cons, List.map_nil, List.length_cons, List.length_nil] at ha
    clear happ hr
    go_enter Tryz.func76, Tryz.ntmps76
    go_wp2_with (at_builtin; refine wpList_plain rfl (fun K hK => wp_append_of_run _ _ _ _ rfl rfl rfl ha (hK _ _ ?_)))
    go_ret
    exact ⟨rfl, rfl⟩
  · have h2 : r ≤ 1114111 := by unfold badRune at hr; omega
    have hc := appendNonASCII_of v v' r w w2 hr (by omega) happ
    clear happ hr
    go_enter Tryz.func76, Tryz.ntmps76
    go_wp2_with fail
    refine hc.mono ?_
    rintro e w' ⟨rfl, rfl⟩
    go_wp2_with fail
    go_ret
    exact ⟨rfl, rfl⟩
end Go.Proofs.YtkggebhkjgjijaaGreatDoor
