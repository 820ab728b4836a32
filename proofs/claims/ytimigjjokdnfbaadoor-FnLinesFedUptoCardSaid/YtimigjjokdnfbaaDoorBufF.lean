/- (*bytes.Buffer).Next, ReadByte, Bytes, AvailableBuffer, Available, Peek, Truncate, UnreadByte, UnreadRune. (*bytes.Buffer).UnreadByte, UnreadRune, Truncate. -/
import Derived.Test.YtimigjjokdnfbaaDoorBufD
import Derived.Test.YtimigjjokdnfbaaDoorSaid
import Derived.WalkLawsBesides
namespace Go.Proofs.YtimigjjokdnfbaaDoor
open Go Go.RowKit

/-- A slice of a buffer's bytes. -/
theorem Src.part {w : World} {b : Nat} {g : Gh} (h : BufAt w b g) (o k c : Nat) (ho : o + k ≤ g.all.length) : Src w (.slice (cutA g.row o g.all.length) k c) ((g.all.drop o).take k) := by
  cases hr : g.row with
  | none =>
    have ha := h.nil hr
    rw [ha] at ho
    simp only [List.length_nil, Nat.le_zero, Nat.add_eq_zero_iff] at ho
    obtain ⟨rfl, rfl⟩ := ho
    exact .inr ⟨_, _, rfl, fun q => absurd q (by simp)⟩
  | some r =>
    exact Src.of_row (h.row r hr) (fun q => cutA_some r o _ (by omega)) ho
theorem Gh.txt_take (g : Gh) (k : Nat) (h : g.off + k ≤ g.len) : (g.all.drop g.off).take k = g.txt.take k := by
  simp only [Gh.txt, List.drop_take, List.take_take]
  rw [Nat.min_eq_left (by omega)]
/-- The first k unread bytes. -/
theorem Src.first {w : World} {b : Nat} {g : Gh} (h : BufAt w b g) (k c : Nat) (hk : g.off + k ≤ g.len) : Src w (.slice (cutA g.row g.off g.all.length) k c) (g.txt.take k) := by
  have hl := h.lc
  rw [← Gh.txt_take g k hk]
  exact Src.part h g.off k c (by omega)

def NextPost (w : World) (b : Nat) (g : Gh) (k : Nat) (e : Ending) (w' : World) : Prop :=
  e = .returned (.slice (cutA g.row g.off g.all.length) k (g.all.length - g.off)) ∧ BufAt w' b (g.rd k) ∧ Fr (Just b) w w'
set_option maxHeartbeats 800000 in
set_option maxRecDepth 100000 in
theorem buf_next (w : World) (b : Nat) (g : Gh) (n m k : Nat) (h : BufAt w b g) (hm : g.off + m = g.len) (hk : k = min n m) (hn : n ≤ 9223372036854775807) :
    Calls Tryd.prog 37 #[.pointer (some ⟨b, 0, none⟩), .int .i64 (n : Int)] w (NextPost w b g k) := by
  have hz := h.sz
  have hl := h.lc
  have c2 := h.c2
  have f2 := h.f 2
  have hsl := fun w' => slice_lh g.row g.len g.all.length g.off (g.off + k) (by omega) (by omega) w'
  rw [Nat.add_sub_cancel_left, Int.natCast_add] at hsl
  have H := Lib.hid h
  have HM := Lib.hid hm
  clear h
  rcases (show (m < n ∧ m = k) ∨ (n ≤ m ∧ n = k) by omega) with ⟨hc, rfl⟩ | ⟨hc, rfl⟩
  all_goals
    clear hk
    go_enter Tryd.func37, Tryd.ntmps37
    go_wp2_with fail
    have S1 := BufStep.lr0 H.out 0
    refine (buf_len_m _ b _ _ S1.at' HM.out).mono ?_
    rintro e w1 ⟨rfl, H1, F1⟩
    have hF1 : Fr (Just b) w w1 := (just_set w b 2 _).trans' F1 (fun _ _ q => q.elim)
    have k0 := H1.c0
    have k1 := H1.c1
    have k2 := H1.c2
    have e1 := H1.f 1
    have e2 := H1.f 2
    simp only at k0 k1 k2
    have HA1 := Lib.hid H1
    have HF1 := Lib.hid hF1
    clear S1 H1 F1 hF1
    go_wp2_with fail
    go_quiet (fail)
  · skip
    have hA3 := (HA1.out.drewN nq).off' (g.off + m) (by simp only; omega)
    have HA3 := Lib.hid hA3
    have q2 := hA3.c2
    have q3 := hA3.f 2
    have HF2 := Lib.hid (HF1.out.drewN nq)
    by_cases hk0 : m = 0
    · subst hk0
      simp only [Nat.add_zero] at hA3 HA3 q2 q3
      clear hA3
      go_wp2_with fail
      go_ret
      exact ⟨rfl, HA3.out, HF2.out.setCell (fun _ => just_self b) _⟩
    · have hkp : (0 : Int) < (m : Int) := by omega
      have hA4 := hA3.lr0 (-1)
      have HA4 := Lib.hid hA4
      clear hA3 hA4
      go_wp2_with fail
      go_ret
      refine ⟨rfl, ?_, (HF2.out.setCell (fun _ => just_self b) _).setCell (fun _ => just_self b) _⟩
      have := HA4.out
      unfold Gh.rd
      rw [if_neg hk0]
      exact this
  · skip
    have hA3 := (HA1.out.drewN nq).off' (g.off + n) (by simp only; omega)
    have HA3 := Lib.hid hA3
    have q2 := hA3.c2
    have q3 := hA3.f 2
    have HF2 := Lib.hid (HF1.out.drewN nq)
    by_cases hk0 : n = 0
    · subst hk0
      simp only [Nat.add_zero] at hA3 HA3 q2 q3
      clear hA3
      go_wp2_with fail
      go_ret
      exact ⟨rfl, HA3.out, HF2.out.setCell (fun _ => just_self b) _⟩
    · have hkp : (0 : Int) < (n : Int) := by omega
      have hA4 := hA3.lr0 (-1)
      have HA4 := Lib.hid hA4
      clear hA3 hA4
      go_wp2_with fail
      go_ret
      refine ⟨rfl, ?_, (HF2.out.setCell (fun _ => just_self b) _).setCell (fun _ => just_self b) _⟩
      have := HA4.out
      unfold Gh.rd
      rw [if_neg hk0]
      exact this

set_option maxRecDepth 100000 in
theorem buf_bytes (w : World) (b : Nat) (g : Gh) (h : BufAt w b g) :
    Calls Tryd.prog 53 #[.pointer (some ⟨b, 0, none⟩)] w fun e w' => e = .returned (.slice (cutA g.row g.off g.all.length) (g.len - g.off) (g.all.length - g.off)) ∧ ∃ k, w' = w.drewN k := by
  have c0 := h.c0; have c1 := h.c1; have ho := h.ol; have hl := h.lc; have hz := h.sz
  have hsl := fun w' => slice_from g.row g.len g.all.length g.off ho w'
  clear h
  go_enter Tryd.func53, Tryd.ntmps53
  go_wp2_with fail
  go_quiet (fail)
  go_wp2_with fail
  go_ret
  exact ⟨rfl, _, rfl⟩
set_option maxRecDepth 100000 in
theorem buf_free (w : World) (b : Nat) (g : Gh) (h : BufAt w b g) :
    Calls Tryd.prog 35 #[.pointer (some ⟨b, 0, none⟩)] w fun e w' => e = .returned (.slice (cutA g.row g.len g.all.length) 0 (g.all.length - g.len)) ∧ ∃ k, w' = w.drewN k := by
  have c0 := h.c0; have c1 := h.c1; have ho := h.ol; have hl := h.lc; have hz := h.sz
  have hsl := fun w' => slice_from g.row g.len g.all.length g.len (Nat.le_refl _) w'
  rw [Nat.sub_self] at hsl
  clear h
  go_enter Tryd.func35, Tryd.ntmps35
  go_wp2_with fail
  go_quiet (fail)
  go_wp2_with fail
  go_ret
  exact ⟨rfl, _, rfl⟩
set_option maxHeartbeats 800000 in
set_option maxRecDepth 100000 in
theorem buf_readByte_eof (w : World) (b : Nat) (g : Gh) (ea : Addr) (h : BufAt w b g) (hlt : g.len ≤ g.off) (he : w.cell? ⟨0, 0, none⟩ = some (.iface 119 (.pointer (some ea)))) (hbe : b ≠ 0) :
    Calls Tryd.prog 38 #[.pointer (some ⟨b, 0, none⟩)] w fun e w' => e = .returned (.tuple #[.int .u8 0, .iface 119 (.pointer (some ea))]) ∧ BufAt w' b g.rs ∧ Fr (Just b) w w' := by
  have H := Lib.hid h
  have HE := Lib.hid he
  clear h he
  go_enter Tryd.func38, Tryd.ntmps38
  go_wp2_with fail
  refine (buf_empty_yes _ b _ H.out hlt).mono ?_
  rintro e w1 ⟨rfl, H1, F1⟩
  go_wp2_with fail
  refine (buf_reset _ b _ H1).mono ?_
  rintro e w2 ⟨rfl, H2, F2⟩
  have hF : Fr (Just b) w w2 := (F1.mono (fun _ _ q => q.elim)).trans F2
  have hE2 := (hF.cell (World.block_lt_of_cell? _ _ HE.out) (fun q => hbe q.symm)).trans HE.out
  have HF := Lib.hid hF
  have HA := Lib.hid H2
  clear H1 F1 H2 F2 hF
  go_wp2_with fail
  go_quiet (fail)
  go_wp2_with fail
  go_ret2
  exact ⟨rfl, HA.out.drewN _, HF.out.drewN _⟩

/-- The byte that is read next. -/
theorem BufAt.byte {w : World} {b : Nat} {g : Gh} {x : UInt8} {t : List UInt8} (h : BufAt w b g) (ht : g.txt = x :: t) : ∃ r, g.row = some r ∧ w.cell? ⟨r, g.off, none⟩ = some (.int .u8 (x.toNat : Int)) ∧ g.off < g.len ∧ g.txt.length = g.len - g.off := by
  have hl := h.lc
  have htl := g.txt_length hl
  have h2 : g.off < g.len := by rw [ht] at htl; simp at htl; omega
  cases hr : g.row with
  | none => have := h.nil hr; rw [this] at hl; simp at hl; omega
  | some r =>
    refine ⟨r, rfl, ?_, h2, htl⟩
    have hc := (h.row r hr).cell g.off (by omega)
    rw [hc]
    have : g.txt[0]? = some x := by rw [ht]; rfl
    simp only [Gh.txt, List.getElem?_drop, Nat.add_zero, List.getElem?_take, h2, if_true] at this
    rw [List.getElem?_eq_getElem (by omega)] at this
    injection this with this
    rw [this]

set_option maxHeartbeats 800000 in
set_option maxRecDepth 100000 in
theorem buf_readByte_some (w : World) (b : Nat) (g : Gh) (x : UInt8) (t : List UInt8) (h : BufAt w b g) (ht : g.txt = x :: t) :
    Calls Tryd.prog 38 #[.pointer (some ⟨b, 0, none⟩)] w fun e w' => e = .returned (.tuple #[.int .u8 (x.toNat : Int), .nilIface]) ∧ BufAt w' b (g.rd 1) ∧ Fr (Just b) w w' := by
  obtain ⟨r, hr, hc, hlt, htl⟩ := h.byte ht
  have hz := h.sz
  have hl := h.lc
  have H := Lib.hid h
  have HC := Lib.hid hc
  have HR := Lib.hid hr
  clear h hc
  go_enter Tryd.func38, Tryd.ntmps38
  go_wp2_with fail
  refine (buf_empty_no _ b _ H.out hlt).mono ?_
  rintro e w1 ⟨rfl, H1, F1⟩
  have k0 := H1.c0
  have k1 := H1.c1
  have k2 := H1.c2
  have e1 := H1.f 1
  have e2 := H1.f 2
  have kc := (F1.cell (World.block_lt_of_cell? _ _ HC.out) (fun q => q)).trans HC.out
  rw [HR.out, rowA_some] at k0
  have HA1 := Lib.hid H1
  have HF1 := Lib.hid F1
  clear H1 F1 hr
  go_wp2_with fail
  go_quiet (fail)
  have hA3 := (HA1.out.drewN nq).off' (g.off + 1) (by omega)
  have q2 := hA3.c2
  have q3 := hA3.f 2
  have HA4 := Lib.hid (hA3.lr0 (-1))
  have HF2 := Lib.hid (HF1.out.drewN nq)
  clear hA3
  go_wp2_with fail
  go_ret2
  exact ⟨rfl, HA4.out, (((HF2.out.mono (S' := Just b) fun _ _ q => q.elim).setCell (fun _ => just_self b) _).setCell (fun _ => just_self b) _)⟩

set_option maxHeartbeats 800000 in
set_option maxRecDepth 100000 in
theorem buf_peek (w : World) (b : Nat) (g : Gh) (n m : Nat) (h : BufAt w b g) (hm : g.off + m = g.len) (hn : n ≤ m) :
    Calls Tryd.prog 44 #[.pointer (some ⟨b, 0, none⟩), .int .i64 (n : Int)] w fun e w' => e = .returned (.tuple #[.slice (cutA g.row g.off g.all.length) n (g.all.length - g.off), .nilIface]) ∧ BufAt w' b g ∧ Fr (fun _ => False) w w' := by
  have hz := h.sz
  have hl := h.lc
  have hsl := fun w' => slice_lh g.row g.len g.all.length g.off (g.off + n) (by omega) (by omega) w'
  rw [Nat.add_sub_cancel_left, Int.natCast_add] at hsl
  have H := Lib.hid h
  have HM := Lib.hid hm
  clear h
  go_enter Tryd.func44, Tryd.ntmps44
  go_wp2_with fail
  refine (buf_len_m _ b _ _ H.out HM.out).mono ?_
  rintro e w1 ⟨rfl, H1, F1⟩
  have k0 := H1.c0
  have k1 := H1.c1
  have HA1 := Lib.hid H1
  have HF1 := Lib.hid F1
  clear H1 F1
  go_wp2_with fail
  go_quiet (fail)
  go_wp2_with fail
  go_ret2
  exact ⟨rfl, HA1.out.drewN _, HF1.out.drewN _⟩
set_option maxHeartbeats 800000 in
set_option maxRecDepth 100000 in
theorem buf_peek_eof (w : World) (b : Nat) (g : Gh) (n m : Nat) (ea : Addr) (h : BufAt w b g) (hm : g.off + m = g.len) (hn : m < n) (he : w.cell? ⟨0, 0, none⟩ = some (.iface 119 (.pointer (some ea)))) :
    Calls Tryd.prog 44 #[.pointer (some ⟨b, 0, none⟩), .int .i64 (n : Int)] w fun e w' => e = .returned (.tuple #[.slice (cutA g.row g.off g.all.length) m (g.all.length - g.off), .iface 119 (.pointer (some ea))]) ∧ BufAt w' b g ∧ Fr (fun _ => False) w w' := by
  have hz := h.sz
  have hl := h.lc
  have hsl := fun w' => slice_from g.row g.len g.all.length g.off (by omega) w'
  rw [show g.len - g.off = m by omega] at hsl
  have H := Lib.hid h
  have HM := Lib.hid hm
  have HE := Lib.hid he
  clear h he
  go_enter Tryd.func44, Tryd.ntmps44
  go_wp2_with fail
  refine (buf_len_m _ b _ _ H.out HM.out).mono ?_
  rintro e w1 ⟨rfl, H1, F1⟩
  have k0 := H1.c0
  have k1 := H1.c1
  have hE2 := (F1.cell (World.block_lt_of_cell? _ _ HE.out) (fun q => q)).trans HE.out
  have HA1 := Lib.hid H1
  have HF1 := Lib.hid F1
  clear H1 F1
  go_wp2_with fail
  go_quiet (fail)
  go_wp2_with fail
  go_ret2
  exact ⟨rfl, HA1.out.drewN _, HF1.out.drewN _⟩
end Go.Proofs.YtimigjjokdnfbaaDoor

namespace Go.Proofs.YtimigjjokdnfbaaDoor
open Go Go.RowKit

/-- A slice of the row up to h. -/
theorem slice_to (row : Option Nat) (n c h : Nat) (hh : h ≤ c) (w : World) : (Instr.slice 52 (.slice (rowA row) n c) none (some (.int .i64 (h : Int))) none).run Tryd.prog w = .ok (.slice (rowA row) h c) w := by
  obtain ⟨i0, hi, hz0, hz1, hz2⟩ := info_parts info_u8
  have h1 : (0 : Int) ≤ (h : Int) := by omega
  have h2 : (h : Int) ≤ (c : Int) := by omega
  cases row <;> simp [Instr.slice, run_underlying Tryd.underlying52, Instr.sliceBounds, run_sliceBound, sizeOf, typeInfo, hi, h1, h2, addr_add1]

set_option maxHeartbeats 800000 in
set_option maxRecDepth 100000 in
theorem buf_unreadByte_no (w : World) (b : Nat) (g : Gh) (ea : Addr) (h : BufAt w b g) (hlr : g.lr = 0) (he : w.cell? ⟨1, 0, none⟩ = some (.iface 119 (.pointer (some ea)))) :
    Calls Tryd.prog 42 #[.pointer (some ⟨b, 0, none⟩)] w fun e w' => e = .returned (.iface 119 (.pointer (some ea))) ∧ w' = w := by
  have c2 := h.c2
  rw [hlr] at c2
  clear h
  go_enter Tryd.func42, Tryd.ntmps42
  go_wp2_with fail
  go_ret
  exact ⟨rfl, rfl⟩
set_option maxHeartbeats 800000 in
set_option maxRecDepth 100000 in
theorem buf_unreadByte_yes (w : World) (b : Nat) (g : Gh) (h : BufAt w b g) (hlr : g.lr ≠ 0) (ho : 0 < g.off) :
    Calls Tryd.prog 42 #[.pointer (some ⟨b, 0, none⟩)] w fun e w' => e = .returned .nilIface ∧ BufAt w' b { g with off := g.off - 1, lr := 0 } ∧ Fr (Just b) w w' := by
  have c1 := h.c1
  have c2 := h.c2
  have f1 := h.f 1
  have f2 := h.f 2
  have hol := h.ol
  have hl := h.lc
  have hz := h.sz
  have hlr' : (g.lr == 0) = false := by simp [hlr]
  have hsub : (g.off : Int) - 1 = ((g.off - 1 : Nat) : Int) := by omega
  have H := Lib.hid (((h.lr0 0).off' (g.off - 1) (by simp only; omega)))
  clear h
  go_enter Tryd.func42, Tryd.ntmps42
  go_wp2_with fail
  go_ret
  refine ⟨rfl, ?_, ((Fr.refl _ w).setCell (fun _ => just_self b) _).setCell (fun _ => just_self b) _⟩
  exact H.out

set_option maxHeartbeats 800000 in
set_option maxRecDepth 100000 in
theorem buf_unreadRune_no (w : World) (b : Nat) (g : Gh) (h : BufAt w b g) (hlr : g.lr ≤ 0) :
    Calls Tryd.prog 43 #[.pointer (some ⟨b, 0, none⟩)] w fun e w' => ∃ s, e = .returned (.iface 119 (.pointer (some ⟨w.heap.size, 0, none⟩))) ∧ w' = w.alloc (.cells #[.string s] 121) := by
  have c2 := h.c2
  clear h
  go_enter Tryd.func43, Tryd.ntmps43
  go_wp2_with fail
  refine (errors_new _ _).mono ?_
  rintro e w' ⟨rfl, rfl⟩
  go_wp2_with fail
  go_ret
  exact ⟨_, rfl, rfl⟩
set_option maxHeartbeats 800000 in
set_option maxRecDepth 100000 in
theorem buf_unreadRune_yes (w : World) (b : Nat) (g : Gh) (k : Nat) (h : BufAt w b g) (hlr : g.lr = (k : Int)) (hk : 0 < k) (hk4 : k ≤ 4) (ho : k ≤ g.off) :
    Calls Tryd.prog 43 #[.pointer (some ⟨b, 0, none⟩)] w fun e w' => e = .returned .nilIface ∧ BufAt w' b { g with off := g.off - k, lr := 0 } ∧ Fr (Just b) w w' := by
  have c1 := h.c1
  have c2 := h.c2
  have f1 := h.f 1
  have f2 := h.f 2
  rw [hlr] at c2
  have hol := h.ol
  have hl := h.lc
  have hz := h.sz
  have hsub := Lib.hid (show (g.off : Int) - (k : Int) = ((g.off - k : Nat) : Int) by omega)
  have hwk : IntKind.i64.wrap (k : Int) = (k : Int) := IntWalk.i64_in _ (by omega)
  have hws : IntKind.i64.wrap ((g.off : Int) - (k : Int)) = (g.off : Int) - (k : Int) := IntWalk.i64_in _ (by omega)
  have H := Lib.hid (fun n => (h.drewN n).drew)
  clear h
  go_enter Tryd.func43, Tryd.ntmps43
  go_wp2_with fail
  go_quiet (fail)
  go_wp2_with fail
  refine wp_region_mixed 12 (by kernel_rfl) (by kernel_rfl) (fun _ _ d _ _ h => by cases d <;> exact h) ?_
  simp only [List.take_succ_cons, List.take_zero, List.drop_succ_cons, List.drop_zero, List.filter_cons, List.filter_nil, isMv, Array.isEmpty_iff, Bool.not_false, Bool.and_true, Option.isNone_none, if_true, if_false, Bool.false_eq_true]
  repeat still_step
  refine wpStill_nil ?_
  have hA := (H.out nq).off' (g.off - k) (by omega)
  rw [← hsub.out] at hA
  have q2 := hA.c2
  have q3 := hA.f 2
  have HB := Lib.hid (hA.lr0 0)
  rw [hlr] at q2
  clear hA
  go_wp2_with fail
  go_ret
  refine ⟨rfl, ?_, (((Fr.refl _ w).drewN nq).drew.setCell (fun _ => just_self b) _).setCell (fun _ => just_self b) _⟩
  exact HB.out

set_option maxHeartbeats 800000 in
set_option maxRecDepth 100000 in
theorem buf_truncate_zero (w : World) (b : Nat) (g : Gh) (h : BufAt w b g) :
    Calls Tryd.prog 49 #[.pointer (some ⟨b, 0, none⟩), .int .i64 0] w fun e w' => e = .returned (.tuple #[]) ∧ BufAt w' b g.rs ∧ Fr (Just b) w w' := by
  have H := Lib.hid h
  clear h
  go_enter Tryd.func49, Tryd.ntmps49
  go_wp2_with fail
  refine (buf_reset _ b _ H.out).mono ?_
  rintro e w1 ⟨rfl, H1, F1⟩
  go_wp2_with fail
  refine bodyPost_ret (results_none rfl _ _ _) rfl ?_
  exact ⟨rfl, H1, F1⟩
set_option maxHeartbeats 800000 in
set_option maxRecDepth 100000 in
theorem buf_truncate_some (w : World) (b : Nat) (g : Gh) (n m : Nat) (h : BufAt w b g) (hm : g.off + m = g.len) (hn : 0 < n) (hnm : n ≤ m) :
    Calls Tryd.prog 49 #[.pointer (some ⟨b, 0, none⟩), .int .i64 (n : Int)] w fun e w' => e = .returned (.tuple #[]) ∧ BufAt w' b { g with len := g.off + n, lr := 0 } ∧ Fr (Just b) w w' := by
  have hz := h.sz
  have hl := h.lc
  have c2 := h.c2
  have f2 := h.f 2
  have hn0 : ((n : Int) == 0) = false := by simp; omega
  have hsl := fun w' => slice_to g.row g.len g.all.length (g.off + n) (by omega) w'
  rw [Int.natCast_add] at hsl
  have hws : IntKind.i64.wrap ((g.off : Int) + (n : Int)) = (g.off : Int) + (n : Int) := IntWalk.i64_in _ (by omega)
  have H := Lib.hid h
  have HM := Lib.hid hm
  clear h
  go_enter Tryd.func49, Tryd.ntmps49
  go_wp2_with fail
  have S1 := BufStep.lr0 H.out 0
  refine (buf_len_m _ b _ _ S1.at' HM.out).mono ?_
  rintro e w1 ⟨rfl, H1, F1⟩
  have hF1 : Fr (Just b) w w1 := (just_set w b 2 _).trans' F1 (fun _ _ q => q.elim)
  have k0 := H1.c0
  have k1 := H1.c1
  have e1 := H1.f 0
  simp only at k0 k1
  have HA1 := Lib.hid H1
  have HF1 := Lib.hid hF1
  clear S1 H1 F1 hF1
  go_wp2_with fail
  refine wp_region_mixed 14 (by kernel_rfl) (by kernel_rfl) (fun _ _ d _ _ h => by cases d <;> exact h) ?_
  simp only [List.take_succ_cons, List.take_zero, List.drop_succ_cons, List.drop_zero, List.filter_cons, List.filter_nil, isMv, Array.isEmpty_iff, Bool.not_false, Bool.and_true, Option.isNone_none, if_true, if_false, Bool.false_eq_true]
  repeat still_step
  refine wpStill_nil ?_
  have HB := Lib.hid (HA1.out.drew.len' (g.off + n) (by simp only; omega) (by simp only; omega))
  go_wp2_with fail
  go_end0
  exact ⟨rfl, HB.out, HF1.out.drew.setCell (fun _ => just_self b) _⟩
set_option maxHeartbeats 800000 in
set_option maxRecDepth 100000 in
theorem buf_truncate_bad (w : World) (b : Nat) (g : Gh) (z : Int) (m : Nat) (h : BufAt w b g) (hm : g.off + m = g.len) (hz0 : z < 0 ∨ (m : Int) < z) :
    Calls Tryd.prog 49 #[.pointer (some ⟨b, 0, none⟩), .int .i64 z] w fun e w' => (∃ v, e = .panicked [{ v := v, recovered := false }] ∧ v ≠ .nilIface) ∧ BufAt w' b { g with lr := 0 } ∧ Fr (Just b) w w' := by
  have hz := h.sz
  have hl := h.lc
  have c2 := h.c2
  have f2 := h.f 2
  have hn0 : (z == 0) = false := by simp; omega
  have H := Lib.hid h
  have HM := Lib.hid hm
  clear h
  rcases hz0 with hz0 | hz0
  · go_enter Tryd.func49, Tryd.ntmps49
    go_wp2_with fail
    exact ⟨rfl, ⟨_, rfl, by simp⟩, H.out.lr0 0, just_set _ _ _ _⟩
  · go_enter Tryd.func49, Tryd.ntmps49
    go_wp2_with fail
    have S1 := BufStep.lr0 H.out 0
    refine (buf_len_m _ b _ _ S1.at' HM.out).mono ?_
    rintro e w1 ⟨rfl, H1, F1⟩
    have hF1 : Fr (Just b) w w1 := (just_set w b 2 _).trans' F1 (fun _ _ q => q.elim)
    have HA1 := Lib.hid H1
    have HF1 := Lib.hid hF1
    clear S1 H1 F1 hF1
    go_wp2_with fail
    exact ⟨rfl, ⟨_, rfl, by simp⟩, HA1.out, HF1.out⟩
end Go.Proofs.YtimigjjokdnfbaaDoor
