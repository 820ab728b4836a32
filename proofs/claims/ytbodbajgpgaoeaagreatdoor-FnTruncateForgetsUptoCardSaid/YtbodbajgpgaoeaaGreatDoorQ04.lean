/- Take, Said, BufF, Pure, Rune, BufG. -/
import Derived.Test.YtbodbajgpgaoeaaGreatDoorQ02
import Derived.Test.YtbodbajgpgaoeaaGreatDoorQ03
import Derived.Test.YtbodbajgpgaoeaaGreatDoorQ01
import Derived.Test.YtbodbajgpgaoeaaGreatDoorProg
import Derived.WalkKit
import Derived.LaidEql
import Derived.Stop.Asserts
import Derived.RowKitTokens
import Derived.WalkLawsBesides
import Derived.Lib.RuneBytes
import Derived.Lib.DecodeN
import Derived.Shelf.Spec.DecodeRune
import Derived.Lib.BytesEntry
namespace Go.Proofs.YtbodbajgpgaoeaaGreatDoor
open Go Go.RowKit

theorem nil_bufW (a : Addr) (w : World) : (nilAhead 307 72 (.pointer (some a)) "Write").run Tryz.prog w = .ok (some false) w := by kernel_rfl
theorem method_bufW (a : Addr) (w : World) : (method 307 72 (.pointer (some a)) "Write").run Tryz.prog w = .ok (73, .pointer (some a)) w := by kernel_rfl

/-- Two buffers lie apart. -/
structure Apart (b : Nat) (g : Gh) (b2 : Nat) (g2 : Gh) : Prop where
  blk : b ≠ b2
  row : ∀ r, g.row = some r → g2.row ≠ some r
/-- What of b and its row lies outside of the other one. -/
theorem Apart.foot {w : World} {b b2 x : Nat} {g g2 : Gh} (h : Apart b g b2 g2) (h1 : BufAt w b g) (h2 : BufAt w b2 g2) (hx : g.foot b x) : ¬ g2.foot b2 x := by
  rcases hx with rfl | hr
  · rintro (q | q)
    · exact h.blk q
    · exact (h2.row x q).ne_blk h1.st (by decide) rfl
  · rintro (q | q)
    · subst q
      exact (h1.row x hr).ne_blk h2.st (by decide) rfl
    · exact h.row x hr q
theorem Apart.symm {b b2 : Nat} {g g2 : Gh} (h : Apart b g b2 g2) : Apart b2 g2 b g := ⟨Ne.symm h.blk, fun r h1 h2 => h.row r h2 h1⟩

def WriteToPost (w : World) (b : Nat) (g : Gh) (b2 : Nat) (g2 : Gh) (e : Ending) (w' : World) : Prop :=
  ∃ g2', e = .returned (.tuple #[.int .i64 (g.txt.length : Int), .nilIface]) ∧ BufAt w' b g.rs ∧ BufAt w' b2 g2' ∧ (g2'.row = g2.row ∨ ∃ r, g2'.row = some r ∧ w.heap.size ≤ r) ∧ (g.txt = [] → g2' = g2) ∧ (g.txt ≠ [] → Wrote g2 g.txt g2') ∧ Fr (fun x => x = b ∨ g2.foot b2 x) w w'

set_option maxHeartbeats 800000 in
set_option maxRecDepth 100000 in
theorem writeTo_buf_empty (w : World) (b : Nat) (g : Gh) (b2 : Nat) (g2 : Gh) (h : BufAt w b g) (h2 : BufAt w b2 g2) (hap : Apart b g b2 g2) (ht : g.txt = []) :
    Calls Tryz.prog 86 #[.pointer (some ⟨b, 0, none⟩), .iface 72 (.pointer (some ⟨b2, 0, none⟩))] w (WriteToPost w b g b2 g2) := by
  have c2 := h.c2
  have f2 := h.f 2
  have htl := g.txt_length h.lc
  have hol := h.ol
  have hm : g.off + 0 = g.len := by rw [ht] at htl; simp at htl; omega
  have H := Lib.hid h
  have H2 := Lib.hid h2
  have HT := Lib.hid ht
  have HM := Lib.hid hm
  clear h h2 ht htl hm
  go_enter Tryz.func86, Tryz.ntmps86
  go_wp2_with fail
  have S1 := BufStep.lr0 H.out 0
  refine (buf_len_m _ b _ 0 S1.at' HM.out).mono ?_
  rintro e w1 ⟨rfl, H1, F1⟩
  go_wp2_with fail
  refine (buf_reset _ b _ H1).mono ?_
  rintro e w2 ⟨rfl, A2, F2⟩
  have hF : Fr (Just b) w w2 := ((just_set w b 2 _).trans' F1 (fun _ _ q => q.elim)).trans F2
  have HF := Lib.hid hF
  have HA := Lib.hid A2
  clear S1 H1 F1 A2 F2 hF
  go_wp2_with fail
  go_ret2
  refine ⟨g2, by rw [HT.out]; rfl, HA.out, H2.out.fr HF.out (fun x q k => ?_), .inl rfl, fun _ => rfl, fun q => absurd HT.out q, HF.out.mono fun _ _ q => .inl q⟩
  exact hap.symm.foot H2.out H.out q (.inl k)

set_option maxHeartbeats 1600000 in
set_option maxRecDepth 100000 in
theorem writeTo_buf_some (w : World) (b : Nat) (g : Gh) (b2 : Nat) (g2 : Gh) (h : BufAt w b g) (h2 : BufAt w b2 g2) (hap : Apart b g b2 g2) (ht : g.txt ≠ []) (hsz : g2.txt.length + g.txt.length ≤ 1099511627776) :
    Calls Tryz.prog 86 #[.pointer (some ⟨b, 0, none⟩), .iface 72 (.pointer (some ⟨b2, 0, none⟩))] w (WriteToPost w b g b2 g2) := by
  have c2 := h.c2
  have f2 := h.f 2
  have hl := h.lc
  have hz := h.sz
  have htl := g.txt_length h.lc
  have hol := h.ol
  obtain ⟨m, hm⟩ : ∃ m, g.txt.length = m := ⟨_, rfl⟩
  have hmp : 0 < m := by rw [← hm]; exact List.length_pos_iff.2 ht
  have hml : g.off + m = g.len := by omega
  have hoi : (0 : Int) ≤ (g.off : Int) := by omega
  have hoj : (g.off : Int) ≤ (g.len : Int) := by omega
  have hmb : m ≤ 1099511627776 := by omega
  have H := Lib.hid h
  have H2 := Lib.hid h2
  have HT := Lib.hid ht
  have HM := Lib.hid hm
  have HML := Lib.hid hml
  have hlm : g.len - g.off = m := by omega
  have hna := nil_bufW ⟨b2, 0, none⟩
  have hme := method_bufW ⟨b2, 0, none⟩
  have hsl := fun w' => slice_from g.row g.len g.all.length g.off hol w'
  rw [hlm] at hsl
  have hbb := hap.blk
  clear h h2 ht htl hm hml
  go_enter Tryz.func86, Tryz.ntmps86
  go_wp2_with fail
  have S1 := BufStep.lr0 H.out 0
  refine (buf_len_m _ b _ m S1.at' HML.out).mono ?_
  rintro e w1 ⟨rfl, H1, F1⟩
  have hF1 : Fr (Just b) w w1 := (just_set w b 2 _).trans' F1 (fun _ _ q => q.elim)
  have hB1 : BufAt w1 b2 g2 := H2.out.fr hF1 (fun x q k => hap.symm.foot H2.out H.out q (.inl k))
  have k0 := H1.c0
  have k1 := H1.c1
  have hsrc : Src w1.drew (.slice (cutA g.row g.off g.all.length) m (g.all.length - g.off)) g.txt := by have hh := Src.unread H1.drew; rw [← hlm]; exact hh
  have hap1 : Apart b { g with lr := 0 } b2 g2 := ⟨hap.blk, hap.row⟩
  have hst : ∀ w', Fr (g2.foot b2) w1.drew w' → BufAt w' b { g with lr := 0 } := fun w' hf => H1.drew.fr hf (fun x q => hap1.foot H1.drew hB1.drew q)
  have HA1 := Lib.hid H1
  have HF1 := Lib.hid hF1
  have HB1 := Lib.hid hB1
  have HSR := Lib.hid hsrc
  have HST := Lib.hid hst
  simp only at k0 k1
  clear S1 H1 F1 hF1 hB1 hsrc hst
  go_wp2_with fail
  go_region_held3 (fun w' => w'.cell? ⟨b, 0, none⟩ = some (.slice (rowA g.row) g.len g.all.length) ∧ w'.cell? ⟨b, 1, none⟩ = some (.int .i64 (g.off : Int))) (go_keep) ((go_at_call 73; refine (bufW _ _ _ g.txt _ b2 g2 HB1.out.drew HSR.out HM.out (by rw [← HM.out]; exact hsz) (fun _ w' hf => by have := Src.unread (HST.out w' hf); simp only at this; rw [hlm] at this; exact this)).mono ?_; rintro e w2 ⟨g2', rfl, S2, W2⟩; have A2 := HST.out w2 S2.fr; have d0 := A2.c0; have d1 := A2.c1; have e1 := A2.f 1; simp only at d0 d1; rw [HM.out]; have HA2 := Lib.hid A2; have HS2 := Lib.hid S2; have HW2 := Lib.hid W2; clear A2 S2 W2))
  have hA3 := HA2.out.off' (g.off + m) (by simp only; omega)
  have HA3 := Lib.hid hA3
  clear hA3
  go_wp2_with fail
  refine (buf_reset _ b _ HA3.out).mono ?_
  rintro e w4 ⟨rfl, A4, F4⟩
  have hF4 : Fr (Just b) w2 w4 := (just_set w2 b 1 _).trans F4
  have HA4 := Lib.hid A4
  have HF4 := Lib.hid hF4
  clear A4 F4 hF4
  go_wp2_with fail
  go_ret2
  refine ⟨g2', by rw [HM.out]; rfl, HA4.out, HS2.out.at'.fr HF4.out (fun x q k => ?_), ?_, fun q => absurd q HT.out, fun _ => HW2.out, ?_⟩
  · rcases q with q | q
    · exact hbb (by unfold Just at k; omega)
    · have k : x = b := k
      subst k
      exact (HS2.out.at'.row x q).ne_blk HA2.out.st (by decide) rfl
  · rcases HS2.out.row with e | ⟨r, e, hr⟩
    · exact .inl e
    · exact .inr ⟨r, e, Nat.le_trans HF1.out.size hr⟩
  · refine ((HF1.out.drew.mono fun _ _ q => .inl q).trans (HS2.out.fr.mono fun _ _ q => .inr q)).trans (HF4.out.mono fun _ _ q => .inl q)
end Go.Proofs.YtbodbajgpgaoeaaGreatDoor

namespace Go.Proofs.YtbodbajgpgaoeaaGreatDoor
open Go Go.RowKit

theorem nil_bufR (a : Addr) (w : World) : (nilAhead 307 72 (.pointer (some a)) "Read").run Tryz.prog w = .ok (some false) w := by kernel_rfl
theorem method_bufR (a : Addr) (w : World) : (method 307 72 (.pointer (some a)) "Read").run Tryz.prog w = .ok (77, .pointer (some a)) w := by kernel_rfl

/-- How far ReadFrom has come. -/
structure TK (w0 : World) (b : Nat) (g0 : Gh) (b2 : Nat) (g20 : Gh) (wr : World) (cnt : Nat) (g g2 : Gh) : Prop where
  a1 : BufAt wr b g
  a2 : BufAt wr b2 g2
  ap : Apart b g b2 g2
  r1 : g.row = g0.row ∨ ∃ r, g.row = some r ∧ w0.heap.size ≤ r
  r2 : g2.row = g20.row
  lr : g.lr = 0
  txt : g.txt ++ g2.txt = g0.txt ++ g20.txt
  cnt : cnt + g2.txt.length = g20.txt.length
  fr : Fr (fun x => g0.foot b x ∨ g20.foot b2 x) w0 wr

def TKPost (w0 : World) (b : Nat) (g0 : Gh) (b2 : Nat) (g20 : Gh) (e : Ending) (w' : World) : Prop :=
  ∃ g g2, e = .returned (.tuple #[.int .i64 (g20.txt.length : Int), .nilIface]) ∧ BufAt w' b g ∧ BufAt w' b2 g2 ∧ (g.row = g0.row ∨ ∃ r, g.row = some r ∧ w0.heap.size ≤ r) ∧ g2.row = g20.row ∧
    g.txt = g0.txt ++ g20.txt ∧ g2.txt = [] ∧ Fr (fun x => g0.foot b x ∨ g20.foot b2 x) w0 w'

/-- The first buffer has been grown. -/
theorem TK.grown {w0 : World} {b : Nat} {g0 : Gh} {b2 : Nat} {g20 : Gh} {wr w2 : World} {cnt : Nat} {g g2 g1 : Gh} {i : Nat} (h : TK w0 b g0 b2 g20 wr cnt g g2) (hG : Grown g 512 i g1) (S : BufStep wr b g w2 { g1 with len := i }) :
    TK w0 b g0 b2 g20 w2 cnt { g1 with len := i } g2 := by
  have hrow : g1.row = g.row ∨ ∃ r, g1.row = some r ∧ wr.heap.size ≤ r := S.row
  refine ⟨S.at', h.a2.fr S.fr (fun x q => h.ap.symm.foot h.a2 h.a1 q), ⟨h.ap.blk, fun r hr k => ?_⟩, ?_, h.r2, ?_, ?_, h.cnt, h.fr.trans' S.fr ?_⟩
  · rcases hrow with e | ⟨r', e, hr'⟩
    · exact h.ap.row r (by rw [← e]; exact hr) k
    · have := h.a2.rlt k
      simp only at hr
      rw [e] at hr
      injection hr with hr
      omega
  · rcases hrow with e | ⟨r', e, hr'⟩
    · simp only
      rw [e]
      exact h.r1
    · exact .inr ⟨r', e, Nat.le_trans h.fr.size hr'⟩
  · rcases hG.lr with e | e
    · simp only at e ⊢; rw [e]; exact h.lr
    · exact e
  · rw [← h.txt, ← hG.txt]
    rfl
  · intro x hx q
    rcases q with q | q
    · exact .inl (.inl q)
    · rcases h.r1 with e | ⟨r', e, hr'⟩
      · exact .inl (.inr (e ▸ q))
      · rw [e] at q
        injection q with q
        omega

set_option maxHeartbeats 3200000 in
set_option maxRecDepth 100000 in
theorem readFrom_buf (w0 : World) (b : Nat) (g0 : Gh) (b2 : Nat) (g20 : Gh) (ea : Addr) (h : BufAt w0 b g0) (h2 : BufAt w0 b2 g20) (hap : Apart b g0 b2 g20)
    (he : w0.cell? ⟨0, 0, none⟩ = some (errV ea)) (hsz : g0.txt.length + g20.txt.length + 512 ≤ 1099511627776) :
    Calls Tryz.prog 87 #[.pointer (some ⟨b, 0, none⟩), .iface 72 (.pointer (some ⟨b2, 0, none⟩))] w0 (TKPost w0 b g0 b2 g20) := by
  have c2 := h.c2
  have f2 := h.f 2
  have H := Lib.hid h
  have H2 := Lib.hid h2
  have hne1 := h.ne_err he
  have hne2 := h2.ne_err he
  clear h h2
  have hna := nil_bufR ⟨b2, 0, none⟩
  have hme := method_bufR ⟨b2, 0, none⟩
  go_enter Tryz.func87, Tryz.ntmps87
  go_wp2_with fail
  go_loopg [4] (g20.txt.length + 1) (fun k n wr => ∃ (cnt : Nat) (g g2 : Gh), n = .int .i64 (cnt : Int) ∧ g2.txt.length + 1 ≤ k ∧ TK w0 b g0 b2 g20 wr cnt g g2)
  case atStart =>
    have S0 := BufStep.lr0 H.out 0
    refine ⟨0, _, g20, rfl, Nat.le_refl _, S0.at', H2.out.fr S0.fr (fun x q => hap.symm.foot H2.out H.out q), ⟨hap.blk, hap.row⟩, .inl rfl, rfl, rfl, rfl, Nat.zero_add _, S0.fr.mono fun _ _ q => .inl q⟩
  case round =>
    obtain ⟨cnt, g, g2, rfl, hk, hI⟩ := hrel
    have htl : g.txt.length + 512 ≤ 1099511627776 := by
      have := congrArg List.length hI.txt
      simp only [List.length_append] at this
      omega
    have ht2 : g2.txt.length ≤ 1099511627776 := by
      have := congrArg List.length hI.txt
      simp only [List.length_append] at this
      omega
    go_wp2_with fail
    refine (grow_any 512 _ b g hI.a1 htl).mono ?_
    rintro e w1 ⟨i, g1, rfl, S1, G1⟩
    have A1 := S1.at'
    have c0 := A1.c0
    have f0 := A1.f 0
    have hz1 := A1.sz
    have hi : i + 512 ≤ g1.all.length := by have := G1.len; have := A1.lc; omega
    have A2 : BufAt (w1.setCell ⟨b, 0, none⟩ (.slice (rowA g1.row) i g1.all.length)) b { g1 with len := i } := ⟨A1.toBufRaw.put0 i, G1.off, by simp only; omega⟩
    have S2 : BufStep wr b g (w1.setCell ⟨b, 0, none⟩ (.slice (rowA g1.row) i g1.all.length)) { g1 with len := i } := S1.trans (BufStep.of_just A2 rfl ((Fr.refl _ w1).setCell (fun _ => just_self b) _))
    have hI2 := hI.grown G1 S2
    obtain ⟨row, all, len, off, lr⟩ := g1
    simp only at *
    cases row with
    | none => have := A1.nil rfl; simp only at this; subst this; simp at hi
    | some r =>
    simp only [rowA_some] at *
    generalize hw2 : w1.setCell ⟨b, 0, none⟩ (.slice (some ⟨r, 0, none⟩) i all.length) = w2 at *
    have d0 := A2.c0
    have e0 := A2.f 0
    have hsl := fun w' => slice_lh (some r) i all.length i all.length (by omega) (Nat.le_refl _) w'
    rw [cutA_some r i all.length (by omega)] at hsl
    simp only [rowA_some] at hsl d0
    have hE2 : w2.cell? ⟨0, 0, none⟩ = some (errV ea) := (hI2.fr.cell (World.block_lt_of_cell? _ _ he) (fun q => q.elim hne1 hne2)).trans he
    have HI := Lib.hid hI2
    have HE2 := Lib.hid hE2
    have hlg : all.length - i ≤ 9223372036854775807 := by omega
    have hcnt : cnt ≤ 1099511627776 := by have := hI2.cnt; omega
    have hb2e : b2 ≠ 0 := fun q => hne2 (.inl q.symm)
    have hbe : b ≠ 0 := fun q => hne1 (.inl q.symm)
    have HG := Lib.hid G1
    clear A1 A2 S2 S1 G1 hI hI2 hE2 he
    cases ht : g2.txt with
    | nil =>
      have hlt2 : g2.len ≤ g2.off := by have := g2.txt_length HI.out.a2.lc; rw [ht] at this; simp at this; omega
      have herr := err_same ea
      go_wp2_with fail
      go_region_held3 (fun w' => w'.cell? ⟨b, 0, none⟩ = some (.slice (some ⟨r, 0, none⟩) i all.length)) (go_keep) ((go_at_call 77; refine (buf_read_eof _ b2 g2 _ _ _ ea HI.out.a2.drew hlt2 (by omega) hlg HE2.out hb2e).mono ?_; rintro e w3 ⟨rfl, A3, F3⟩; have B3 := HI.out.a1.drew.fr F3 (fun x q k => HI.out.ap.foot HI.out.a1 HI.out.a2 q (.inl k)); have d3 := B3.c0; have e3 := B3.f 0; have hE3 := (F3.cell (World.block_lt_of_cell? _ _ HE2.out) (fun q => hb2e q.symm)).trans HE2.out; simp only [rowA_some] at d3; have HA3 := Lib.hid A3; have HF3 := Lib.hid F3; have HB3 := Lib.hid B3; clear B3 A3 F3))
      have B4 : BufAt (w3.setCell ⟨b, 0, none⟩ (.slice (some ⟨r, 0, none⟩) i all.length)) b { row := some r, all := all, len := i, off := off, lr := lr } := ⟨HB3.out.toBufRaw.put0 i, HG.out.off, by simp only; omega⟩
      have hF4 : Fr (Just b) w3 (w3.setCell ⟨b, 0, none⟩ (.slice (some ⟨r, 0, none⟩) i all.length)) := (Fr.refl _ w3).setCell (fun _ => just_self b) _
      have hE4 := (hF4.cell (World.block_lt_of_cell? _ _ hE3) (fun q => hbe q.symm)).trans hE3
      generalize hw4 : w3.setCell ⟨b, 0, none⟩ (.slice (some ⟨r, 0, none⟩) i all.length) = w4 at *
      have HB4 := Lib.hid B4
      have HF4 := Lib.hid hF4
      clear B4 hF4
      go_wp2_with fail
      go_ret2
      have k := HI.out
      refine ⟨_, _, by have := k.cnt; rw [ht] at this; rw [← this]; rfl, HB4.out, HA3.out.fr HF4.out (fun x q j => ?_), k.r1, k.r2, ?_, g2.rs_txt, (k.fr.drew.trans' HF3.out ?_).trans' HF4.out ?_⟩
      · have j : x = b := j
        subst j
        exact (show Apart x { row := some r, all := all, len := i, off := off, lr := lr } b2 g2.rs from ⟨k.ap.blk, k.ap.row⟩).foot HB3.out HA3.out (.inl rfl) q
      · have := k.txt
        rw [ht, List.append_nil] at this
        exact this
      · exact fun x _ q => .inr (.inl q)
      · exact fun x _ q => .inl (.inl q)
    | cons p rest =>
      have hlt2 : g2.off < g2.len := by have := g2.txt_length HI.out.a2.lc; rw [ht] at this; simp at this; omega
      have htp : 0 < g2.txt.length := by rw [ht]; simp
      clear ht
      have hrw := Lib.hid (HI.out.a1.drew.row r rfl)
      obtain ⟨n, hn⟩ : ∃ n, n = all.length - i := ⟨_, rfl⟩
      obtain ⟨m, hm⟩ : ∃ m, m = min g2.txt.length n := ⟨_, rfl⟩
      have hmi : m ≤ n := by omega
      have hmp : 0 < m := by omega
      have hm2 : m ≤ g2.txt.length := by omega
      have hin : i + n ≤ all.length := by omega
      have hml : m ≤ 1099511627776 := by omega
      have hn1 : all.length - i = n := hn.symm
      have hm1 : min g2.txt.length n = m := hm.symm
      have HM := Lib.hid hm
      rw [hn1] at hsl
      have hen := err_nil ea
      have hgn := guard_nil (.tmp 59) (.tmp 60) ea
      have hb3 : ¬ (b = b2 ∨ b = r) := by
        rintro (q | q)
        · exact HI.out.ap.blk q
        · exact (HI.out.a1.row r rfl).ne_blk HI.out.a1.st (by decide) q.symm
      have hspl : (splice all i (g2.txt.take n)).length = all.length := length_splice _ _ _ (by rw [List.length_take]; omega)
      have HSP := Lib.hid hspl
      clear hn hm hspl
      go_wp2_with fail
      go_region_held3 (fun w' => w'.cell? ⟨b, 0, none⟩ = some (.slice (some ⟨r, 0, none⟩) i all.length)) (go_keep) ((go_at_call 77; refine (buf_read_some _ b2 g2 r i n _ all _ HI.out.a2.drew hlt2 hrw.out (fun _ => rfl) hin (HI.out.ap.row r rfl)).mono ?_; rintro e w3 ⟨rfl, A3, hr3, F3⟩; have R3 := (HI.out.a1.drew).toBufRaw.putAllS rfl F3 hb3 hr3 HSP.out; have d3 := R3.c0; have e3 := R3.f 0; have hE3 := (F3.cell (World.block_lt_of_cell? _ _ HE2.out) (fun q => q.elim (fun q => hb2e q.symm) (fun q => HI.out.a1.ne_err HE2.out (.inr (congrArg some q.symm))))).trans HE2.out; simp only [rowA_some] at d3; rw [HSP.out] at d3; have HA3 := Lib.hid A3; have HF3 := Lib.hid F3; have HR3 := Lib.hid R3; clear R3 A3 F3 hr3))
      have hA3 : BufAt w3 b { row := some r, all := splice all i (g2.txt.take n), len := i, off := off, lr := lr } := ⟨HR3.out, HG.out.off, by simp only; rw [HSP.out]; omega⟩
      have B4 := HR3.out.put0 (i + m)
      have hF4 : Fr (Just b) w3 (w3.setCell ⟨b, 0, none⟩ (.slice (some ⟨r, 0, none⟩) (i + m) all.length)) := (Fr.refl _ w3).setCell (fun _ => just_self b) _
      have hE4 := (hF4.cell (World.block_lt_of_cell? _ _ hE3) (fun q => hbe q.symm)).trans hE3
      simp only [rowA_some] at B4
      rw [HSP.out] at B4
      generalize hw4 : w3.setCell ⟨b, 0, none⟩ (.slice (some ⟨r, 0, none⟩) (i + m) all.length) = w4 at *
      have HR : Hid (TK w0 b g0 b2 g20 w4 (cnt + m) { row := some r, all := splice all i (g2.txt.take n), len := i + m, off := off, lr := lr } (g2.rd m)) := by
        have k := HI.out
        have hA3' := HA3.out
        rw [← HM.out] at hA3'
        have htk : (g2.txt.take n).length = m := by rw [List.length_take, HM.out, Nat.min_comm]
        have hrn : some r = g0.row ∨ ∃ r', some r = some r' ∧ w0.heap.size ≤ r' := k.r1
        refine ⟨⟨B4, Nat.le_trans HG.out.off (Nat.le_add_right _ _), by simp only; rw [HSP.out]; omega⟩, hA3'.fr hF4 (fun x q j => ?_), ⟨k.ap.blk, k.ap.row⟩, k.r1, k.r2, k.lr, ?_, ?_, (k.fr.drew.trans' HF3.out ?_).trans' hF4 ?_⟩
        · have j : x = b := j
          subst j
          exact (show Apart x { row := some r, all := splice all i (g2.txt.take n), len := i, off := off, lr := lr } b2 (g2.rd m) from ⟨k.ap.blk, k.ap.row⟩).foot hA3 hA3' (.inl rfl) q
        · rw [← k.txt, Gh.rd_txt]
          simp only [Gh.txt] at htk ⊢
          rw [← htk, splice_txt _ _ _ _ HG.out.off (by rw [htk]; omega), List.append_assoc]
          congr 1
          rw [htk]
          have : List.take n (List.drop g2.off (List.take g2.len g2.all)) = List.take m (List.drop g2.off (List.take g2.len g2.all)) := by
            have hh := HM.out
            simp only [Gh.txt] at hh
            rw [hh, Nat.min_comm, ← List.take_eq_take_min]
          rw [this, List.take_append_drop]
        · have := k.cnt
          rw [Gh.rd_txt, List.length_drop]
          omega
        · intro x hx q
          rcases q with q | q
          · exact .inr (.inl q)
          · rcases hrn with e | ⟨r', e, hr'⟩
            · exact .inl (.inr (by rw [q, ← e]))
            · injection e with e
              omega
        · exact fun x _ q => .inl (.inl q)
      have hmeas : (g2.rd m).txt.length < g2.txt.length := by rw [Gh.rd_txt, List.length_drop]; omega
      clear hA3 B4 hF4 hE3
      go_wp2_with fail
      go_roundg ((g2.rd m).txt.length + 1)
      case measure => omega
      case rel => exact ⟨cnt + m, _, _, by go_num, Nat.le_refl _, HR.out⟩
end Go.Proofs.YtbodbajgpgaoeaaGreatDoor

namespace Go.Proofs.YtbodbajgpgaoeaaGreatDoor
open Go Go.RowKit Go.Extern.Stop Go.Stop Go.Extern

theorem is_typeOf (v : Value) (w : World) : (Extern.ReflectliteType.typeOf #[.iface 161 v]).run Tryz.prog w = .ok (.iface 165 (.agg #[.pointer (some ⟨9, 161, none⟩)])) w := by kernel_rfl
/-- What the model says of Comparable. -/
def compExt : Array Value → Sem Value := Extern.ReflectliteType.method fun t => do Extern.Rtype.noPackHeld "Comparable" t; pure (.bool (← typeInfo t).comparable)
theorem is_comparable (w : World) : (compExt #[.agg #[.pointer (some ⟨9, 161, none⟩)]]).run Tryz.prog w = .ok (.bool true) w := by kernel_rfl
theorem is_methodComparable (v : Value) (w : World) : (Go.method 307 165 v "Comparable").run Tryz.prog w = .ok (141, v) w := by kernel_rfl
theorem is_comp : (Tryz.prog.info? 161).map (·.comparable) = some true := by kernel_rfl
theorem is_size : (Tryz.prog.info? 163).map (·.size) = some 1 := by kernel_rfl
theorem noIsE (v : Value) (xT : TypeId) (w : World) : (Instr.typeAssert (.iface 161 v) xT 167 true).run Tryz.prog w = .ok (.tuple #[.nilIface, .bool false]) w := run_typeAssert_lacksB Tryz.underlying167 (by kernel_rfl) (by kernel_rfl) v xT w
theorem noUnwrapE (v : Value) (xT : TypeId) (w : World) : (Instr.typeAssert (.iface 161 v) xT 170 true).run Tryz.prog w = .ok (.tuple #[.nilIface, .bool false]) w := run_typeAssert_lacksB Tryz.underlying170 (by kernel_rfl) (by kernel_rfl) v xT w
theorem noUnwrapsE (v : Value) (xT : TypeId) (w : World) : (Instr.typeAssert (.iface 161 v) xT 171 true).run Tryz.prog w = .ok (.tuple #[.nilIface, .bool false]) w := run_typeAssert_lacksB Tryz.underlying171 (by kernel_rfl) (by kernel_rfl) v xT w

set_option maxRecDepth 100000 in
/-- errors.Is(x, x), x a pointer to an errors.errorString. -/
theorem is_same (a : Addr) (w : World) :
    Calls Tryz.prog 101 #[.iface 161 (.pointer (some a)), .iface 161 (.pointer (some a))] w fun e w' => e = .returned (.bool true) ∧ w' = w := by
  obtain ⟨i, hi, hcmp⟩ := Option.map_eq_some_iff.1 is_comp
  obtain ⟨j, hj, hjs⟩ := Option.map_eq_some_iff.1 is_size
  have h8 := @run_callFunc_extern Tryz.prog 111 _ Extern.ReflectliteType.typeOf Tryz.func111 (by kernel_rfl) (by kernel_rfl) (by kernel_rfl) (by kernel_rfl)
  have h32 := @run_callFunc_extern Tryz.prog 141 _ compExt Tryz.func141 (by kernel_rfl) (by kernel_rfl) (by kernel_rfl) (by kernel_rfl)
  have tT := is_typeOf
  have cT := is_comparable
  have mR := is_methodComparable
  have heq := run_eql_iface_ptr_same (P := Tryz.prog) w a Tryz.underlying104 Tryz.underlying161 hi hcmp hj
  go_enter Tryz.func101, Tryz.ntmps101
  go_wp2
  refine wp_loop_rounds 1 ?_
  rw [rounds_succ]
  go_wp2
  go_ret
  exact ⟨rfl, rfl⟩

set_option maxRecDepth 100000 in
/-- errors.Is(x, y), two different pointers to errors.errorString: false. -/
theorem is_other (a b : Addr) (ca cb : Array Value) (ta tb : TypeId) (w : World) (hne : a ≠ b) (ha : w.heap[a.block]? = some (.cells ca ta (0, 0))) (hb : w.heap[b.block]? = some (.cells cb tb (0, 0))) :
    Calls Tryz.prog 101 #[.iface 161 (.pointer (some a)), .iface 161 (.pointer (some b))] w fun e w' => e = .returned (.bool false) ∧ w' = w := by
  obtain ⟨i, hi, hcmp⟩ := Option.map_eq_some_iff.1 is_comp
  obtain ⟨j, hj, hjs⟩ := Option.map_eq_some_iff.1 is_size
  have h8 := @run_callFunc_extern Tryz.prog 111 _ Extern.ReflectliteType.typeOf Tryz.func111 (by kernel_rfl) (by kernel_rfl) (by kernel_rfl) (by kernel_rfl)
  have h32 := @run_callFunc_extern Tryz.prog 141 _ compExt Tryz.func141 (by kernel_rfl) (by kernel_rfl) (by kernel_rfl) (by kernel_rfl)
  have tT := is_typeOf
  have cT := is_comparable
  have mR := is_methodComparable
  have nE := noIsE
  have uE := noUnwrapE
  have vE := noUnwrapsE
  have heq := run_eql_iface_ptr_other (P := Tryz.prog) w Tryz.underlying104 Tryz.underlying161 hi hcmp hj (by rw [hjs]; decide) hne ha hb
  go_enter Tryz.func101, Tryz.ntmps101
  go_wp2
  refine wp_loop_rounds 1 ?_
  rw [rounds_succ]
  go_wp2
  go_ret
  exact ⟨rfl, rfl⟩

set_option maxRecDepth 100000 in
/-- What an error says. -/
theorem said_nil (w : World) : Calls Tryz.prog 67 #[.nilIface] w fun e w' => e = .returned (.int .i64 0) ∧ w' = w := by
  go_enter Tryz.func67, Tryz.ntmps67
  go_wp2
  go_ret
  exact ⟨rfl, rfl⟩
set_option maxRecDepth 100000 in
theorem said_eof (w : World) (ea : Addr) (he : w.cell? ⟨0, 0, none⟩ = some (.iface 161 (.pointer (some ea)))) :
    Calls Tryz.prog 67 #[.iface 161 (.pointer (some ea))] w fun e w' => e = .returned (.int .i64 1) ∧ w' = w := by
  go_enter Tryz.func67, Tryz.ntmps67
  go_wp2_with fail
  refine (is_same ea w).mono ?_
  rintro e w' ⟨rfl, rfl⟩
  go_wp2
  go_ret
  exact ⟨rfl, rfl⟩
set_option maxRecDepth 100000 in
theorem said_other (w : World) (ea eb : Addr) (ca cb : Array Value) (ta tb : TypeId) (he : w.cell? ⟨0, 0, none⟩ = some (.iface 161 (.pointer (some eb)))) (hne : ea ≠ eb) (ha : w.heap[ea.block]? = some (.cells ca ta (0, 0))) (hb : w.heap[eb.block]? = some (.cells cb tb (0, 0))) :
    Calls Tryz.prog 67 #[.iface 161 (.pointer (some ea))] w fun e w' => e = .returned (.int .i64 2) ∧ w' = w := by
  go_enter Tryz.func67, Tryz.ntmps67
  go_wp2_with fail
  refine (is_other ea eb ca cb ta tb w hne ha hb).mono ?_
  rintro e w' ⟨rfl, rfl⟩
  go_wp2
  go_ret
  exact ⟨rfl, rfl⟩

set_option maxRecDepth 100000 in
theorem errors_new (w : World) (s : ByteArray) : Calls Tryz.prog 107 #[.string s] w fun e w' => e = .returned (.iface 161 (.pointer (some ⟨w.heap.size, 0, none⟩))) ∧ w' = w.alloc (.cells #[.string s] 163) := by
  go_enter Tryz.func107, Tryz.ntmps107
  go_wp2
  go_ret
  exact ⟨rfl, rfl⟩
end Go.Proofs.YtbodbajgpgaoeaaGreatDoor

namespace Go.Proofs.YtbodbajgpgaoeaaGreatDoor
open Go Go.RowKit

/-- A slice of a buffer's bytes. -/
theorem Src.part {w : World} {b : Nat} {g : Gh} (h : BufAt w b g) (o k c : Nat) (ho : o + k ≤ g.all.length) : Src w (.slice (cutA g.row o g.all.length) k c) ((g.all.drop o).take k) := by
  cases hr : g.row with
  | none =>
    have ha := h.nil hr
    rw [ha] at ho
    simp only [List.length_nil, Nat.le_zero, Nat.add_eq_zero_iff] at ho
    obtain ⟨rfl, rfl⟩ := ho
    exact .inr ⟨_, _, rfl, fun q => absurd q (by simp)⟩
  | some r =>
    exact Src.of_row (h.row r hr) (fun q => cutA_some r o _ (by omega)) ho
theorem Gh.txt_take (g : Gh) (k : Nat) (h : g.off + k ≤ g.len) : (g.all.drop g.off).take k = g.txt.take k := by
  simp only [Gh.txt, List.drop_take, List.take_take]
  rw [Nat.min_eq_left (by omega)]
/-- The first k unread bytes. -/
theorem Src.first {w : World} {b : Nat} {g : Gh} (h : BufAt w b g) (k c : Nat) (hk : g.off + k ≤ g.len) : Src w (.slice (cutA g.row g.off g.all.length) k c) (g.txt.take k) := by
  have hl := h.lc
  rw [← Gh.txt_take g k hk]
  exact Src.part h g.off k c (by omega)

def NextPost (w : World) (b : Nat) (g : Gh) (k : Nat) (e : Ending) (w' : World) : Prop :=
  e = .returned (.slice (cutA g.row g.off g.all.length) k (g.all.length - g.off)) ∧ BufAt w' b (g.rd k) ∧ Fr (Just b) w w'
set_option maxHeartbeats 800000 in
set_option maxRecDepth 100000 in
theorem buf_next (w : World) (b : Nat) (g : Gh) (n m k : Nat) (h : BufAt w b g) (hm : g.off + m = g.len) (hk : k = min n m) (hn : n ≤ 9223372036854775807) :
    Calls Tryz.prog 78 #[.pointer (some ⟨b, 0, none⟩), .int .i64 (n : Int)] w (NextPost w b g k) := by
  have hz := h.sz
  have hl := h.lc
  have c2 := h.c2
  have f2 := h.f 2
  have hsl := fun w' => slice_lh g.row g.len g.all.length g.off (g.off + k) (by omega) (by omega) w'
  rw [Nat.add_sub_cancel_left, Int.natCast_add] at hsl
  have H := Lib.hid h
  have HM := Lib.hid hm
  clear h
  rcases (show (m < n ∧ m = k) ∨ (n ≤ m ∧ n = k) by omega) with ⟨hc, rfl⟩ | ⟨hc, rfl⟩
  all_goals
    clear hk
    go_enter Tryz.func78, Tryz.ntmps78
    go_wp2_with fail
    have S1 := BufStep.lr0 H.out 0
    refine (buf_len_m _ b _ _ S1.at' HM.out).mono ?_
    rintro e w1 ⟨rfl, H1, F1⟩
    have hF1 : Fr (Just b) w w1 := (just_set w b 2 _).trans' F1 (fun _ _ q => q.elim)
    have k0 := H1.c0
    have k1 := H1.c1
    have k2 := H1.c2
    have e1 := H1.f 1
    have e2 := H1.f 2
    simp only at k0 k1 k2
    have HA1 := Lib.hid H1
    have HF1 := Lib.hid hF1
    clear S1 H1 F1 hF1
    go_wp2_with fail
    go_quiet (fail)
  · skip
    have hA3 := (HA1.out.drewN nq).off' (g.off + m) (by simp only; omega)
    have HA3 := Lib.hid hA3
    have q2 := hA3.c2
    have q3 := hA3.f 2
    have HF2 := Lib.hid (HF1.out.drewN nq)
    by_cases hk0 : m = 0
    · subst hk0
      simp only [Nat.add_zero] at hA3 HA3 q2 q3
      clear hA3
      go_wp2_with fail
      go_ret
      exact ⟨rfl, HA3.out, HF2.out.setCell (fun _ => just_self b) _⟩
    · have hkp : (0 : Int) < (m : Int) := by omega
      have hA4 := hA3.lr0 (-1)
      have HA4 := Lib.hid hA4
      clear hA3 hA4
      go_wp2_with fail
      go_ret
      refine ⟨rfl, ?_, (HF2.out.setCell (fun _ => just_self b) _).setCell (fun _ => just_self b) _⟩
      have := HA4.out
      unfold Gh.rd
      rw [if_neg hk0]
      exact this
  · skip
    have hA3 := (HA1.out.drewN nq).off' (g.off + n) (by simp only; omega)
    have HA3 := Lib.hid hA3
    have q2 := hA3.c2
    have q3 := hA3.f 2
    have HF2 := Lib.hid (HF1.out.drewN nq)
    by_cases hk0 : n = 0
    · subst hk0
      simp only [Nat.add_zero] at hA3 HA3 q2 q3
      clear hA3
      go_wp2_with fail
      go_ret
      exact ⟨rfl, HA3.out, HF2.out.setCell (fun _ => just_self b) _⟩
    · have hkp : (0 : Int) < (n : Int) := by omega
      have hA4 := hA3.lr0 (-1)
      have HA4 := Lib.hid hA4
      clear hA3 hA4
      go_wp2_with fail
      go_ret
      refine ⟨rfl, ?_, (HF2.out.setCell (fun _ => just_self b) _).setCell (fun _ => just_self b) _⟩
      have := HA4.out
      unfold Gh.rd
      rw [if_neg hk0]
      exact this

set_option maxRecDepth 100000 in
theorem buf_bytes (w : World) (b : Nat) (g : Gh) (h : BufAt w b g) :
    Calls Tryz.prog 94 #[.pointer (some ⟨b, 0, none⟩)] w fun e w' => e = .returned (.slice (cutA g.row g.off g.all.length) (g.len - g.off) (g.all.length - g.off)) ∧ ∃ k, w' = w.drewN k := by
  have c0 := h.c0; have c1 := h.c1; have ho := h.ol; have hl := h.lc; have hz := h.sz
  have hsl := fun w' => slice_from g.row g.len g.all.length g.off ho w'
  clear h
  go_enter Tryz.func94, Tryz.ntmps94
  go_wp2_with fail
  go_quiet (fail)
  go_wp2_with fail
  go_ret
  exact ⟨rfl, _, rfl⟩
set_option maxRecDepth 100000 in
theorem buf_free (w : World) (b : Nat) (g : Gh) (h : BufAt w b g) :
    Calls Tryz.prog 76 #[.pointer (some ⟨b, 0, none⟩)] w fun e w' => e = .returned (.slice (cutA g.row g.len g.all.length) 0 (g.all.length - g.len)) ∧ ∃ k, w' = w.drewN k := by
  have c0 := h.c0; have c1 := h.c1; have ho := h.ol; have hl := h.lc; have hz := h.sz
  have hsl := fun w' => slice_from g.row g.len g.all.length g.len (Nat.le_refl _) w'
  rw [Nat.sub_self] at hsl
  clear h
  go_enter Tryz.func76, Tryz.ntmps76
  go_wp2_with fail
  go_quiet (fail)
  go_wp2_with fail
  go_ret
  exact ⟨rfl, _, rfl⟩
set_option maxHeartbeats 800000 in
set_option maxRecDepth 100000 in
theorem buf_readByte_eof (w : World) (b : Nat) (g : Gh) (ea : Addr) (h : BufAt w b g) (hlt : g.len ≤ g.off) (he : w.cell? ⟨0, 0, none⟩ = some (.iface 161 (.pointer (some ea)))) (hbe : b ≠ 0) :
    Calls Tryz.prog 79 #[.pointer (some ⟨b, 0, none⟩)] w fun e w' => e = .returned (.tuple #[.int .u8 0, .iface 161 (.pointer (some ea))]) ∧ BufAt w' b g.rs ∧ Fr (Just b) w w' := by
  have H := Lib.hid h
  have HE := Lib.hid he
  clear h he
  go_enter Tryz.func79, Tryz.ntmps79
  go_wp2_with fail
  refine (buf_empty_yes _ b _ H.out hlt).mono ?_
  rintro e w1 ⟨rfl, H1, F1⟩
  go_wp2_with fail
  refine (buf_reset _ b _ H1).mono ?_
  rintro e w2 ⟨rfl, H2, F2⟩
  have hF : Fr (Just b) w w2 := (F1.mono (fun _ _ q => q.elim)).trans F2
  have hE2 := (hF.cell (World.block_lt_of_cell? _ _ HE.out) (fun q => hbe q.symm)).trans HE.out
  have HF := Lib.hid hF
  have HA := Lib.hid H2
  clear H1 F1 H2 F2 hF
  go_wp2_with fail
  go_quiet (fail)
  go_wp2_with fail
  go_ret2
  exact ⟨rfl, HA.out.drewN _, HF.out.drewN _⟩

/-- The byte that is read next. -/
theorem BufAt.byte {w : World} {b : Nat} {g : Gh} {x : UInt8} {t : List UInt8} (h : BufAt w b g) (ht : g.txt = x :: t) : ∃ r, g.row = some r ∧ w.cell? ⟨r, g.off, none⟩ = some (.int .u8 (x.toNat : Int)) ∧ g.off < g.len ∧ g.txt.length = g.len - g.off := by
  have hl := h.lc
  have htl := g.txt_length hl
  have h2 : g.off < g.len := by rw [ht] at htl; simp at htl; omega
  cases hr : g.row with
  | none => have := h.nil hr; rw [this] at hl; simp at hl; omega
  | some r =>
    refine ⟨r, rfl, ?_, h2, htl⟩
    have hc := (h.row r hr).cell g.off (by omega)
    rw [hc]
    have : g.txt[0]? = some x := by rw [ht]; rfl
    simp only [Gh.txt, List.getElem?_drop, Nat.add_zero, List.getElem?_take, h2, if_true] at this
    rw [List.getElem?_eq_getElem (by omega)] at this
    injection this with this
    rw [this]

set_option maxHeartbeats 800000 in
set_option maxRecDepth 100000 in
theorem buf_readByte_some (w : World) (b : Nat) (g : Gh) (x : UInt8) (t : List UInt8) (h : BufAt w b g) (ht : g.txt = x :: t) :
    Calls Tryz.prog 79 #[.pointer (some ⟨b, 0, none⟩)] w fun e w' => e = .returned (.tuple #[.int .u8 (x.toNat : Int), .nilIface]) ∧ BufAt w' b (g.rd 1) ∧ Fr (Just b) w w' := by
  obtain ⟨r, hr, hc, hlt, htl⟩ := h.byte ht
  have hz := h.sz
  have hl := h.lc
  have H := Lib.hid h
  have HC := Lib.hid hc
  have HR := Lib.hid hr
  clear h hc
  go_enter Tryz.func79, Tryz.ntmps79
  go_wp2_with fail
  refine (buf_empty_no _ b _ H.out hlt).mono ?_
  rintro e w1 ⟨rfl, H1, F1⟩
  have k0 := H1.c0
  have k1 := H1.c1
  have k2 := H1.c2
  have e1 := H1.f 1
  have e2 := H1.f 2
  have kc := (F1.cell (World.block_lt_of_cell? _ _ HC.out) (fun q => q)).trans HC.out
  rw [HR.out, rowA_some] at k0
  have HA1 := Lib.hid H1
  have HF1 := Lib.hid F1
  clear H1 F1 hr
  go_wp2_with fail
  go_quiet (fail)
  have hA3 := (HA1.out.drewN nq).off' (g.off + 1) (by omega)
  have q2 := hA3.c2
  have q3 := hA3.f 2
  have HA4 := Lib.hid (hA3.lr0 (-1))
  have HF2 := Lib.hid (HF1.out.drewN nq)
  clear hA3
  go_wp2_with fail
  go_ret2
  exact ⟨rfl, HA4.out, (((HF2.out.mono (S' := Just b) fun _ _ q => q.elim).setCell (fun _ => just_self b) _).setCell (fun _ => just_self b) _)⟩

set_option maxHeartbeats 800000 in
set_option maxRecDepth 100000 in
theorem buf_peek (w : World) (b : Nat) (g : Gh) (n m : Nat) (h : BufAt w b g) (hm : g.off + m = g.len) (hn : n ≤ m) :
    Calls Tryz.prog 85 #[.pointer (some ⟨b, 0, none⟩), .int .i64 (n : Int)] w fun e w' => e = .returned (.tuple #[.slice (cutA g.row g.off g.all.length) n (g.all.length - g.off), .nilIface]) ∧ BufAt w' b g ∧ Fr (fun _ => False) w w' := by
  have hz := h.sz
  have hl := h.lc
  have hsl := fun w' => slice_lh g.row g.len g.all.length g.off (g.off + n) (by omega) (by omega) w'
  rw [Nat.add_sub_cancel_left, Int.natCast_add] at hsl
  have H := Lib.hid h
  have HM := Lib.hid hm
  clear h
  go_enter Tryz.func85, Tryz.ntmps85
  go_wp2_with fail
  refine (buf_len_m _ b _ _ H.out HM.out).mono ?_
  rintro e w1 ⟨rfl, H1, F1⟩
  have k0 := H1.c0
  have k1 := H1.c1
  have HA1 := Lib.hid H1
  have HF1 := Lib.hid F1
  clear H1 F1
  go_wp2_with fail
  go_quiet (fail)
  go_wp2_with fail
  go_ret2
  exact ⟨rfl, HA1.out.drewN _, HF1.out.drewN _⟩
end Go.Proofs.YtbodbajgpgaoeaaGreatDoor

namespace Go.Proofs.YtbodbajgpgaoeaaGreatDoor
open Go Go.RowKit

/-- A slice of the row up to h. -/
theorem slice_to (row : Option Nat) (n c h : Nat) (hh : h ≤ c) (w : World) : (Instr.slice 40 (.slice (rowA row) n c) none (some (.int .i64 (h : Int))) none).run Tryz.prog w = .ok (.slice (rowA row) h c) w := by
  obtain ⟨i0, hi, hz0, hz1, hz2⟩ := info_parts info_u8
  have h1 : (0 : Int) ≤ (h : Int) := by omega
  have h2 : (h : Int) ≤ (c : Int) := by omega
  cases row <;> simp [Instr.slice, run_underlying Tryz.underlying40, Instr.sliceBounds, run_sliceBound, sizeOf, typeInfo, hi, h1, h2, addr_add1]

set_option maxHeartbeats 800000 in
set_option maxRecDepth 100000 in
theorem buf_unreadByte_no (w : World) (b : Nat) (g : Gh) (ea : Addr) (h : BufAt w b g) (hlr : g.lr = 0) (he : w.cell? ⟨1, 0, none⟩ = some (.iface 161 (.pointer (some ea)))) :
    Calls Tryz.prog 83 #[.pointer (some ⟨b, 0, none⟩)] w fun e w' => e = .returned (.iface 161 (.pointer (some ea))) ∧ w' = w := by
  have c2 := h.c2
  rw [hlr] at c2
  clear h
  go_enter Tryz.func83, Tryz.ntmps83
  go_wp2_with fail
  go_ret
  exact ⟨rfl, rfl⟩
set_option maxHeartbeats 800000 in
set_option maxRecDepth 100000 in
theorem buf_unreadByte_yes (w : World) (b : Nat) (g : Gh) (h : BufAt w b g) (hlr : g.lr ≠ 0) (ho : 0 < g.off) :
    Calls Tryz.prog 83 #[.pointer (some ⟨b, 0, none⟩)] w fun e w' => e = .returned .nilIface ∧ BufAt w' b { g with off := g.off - 1, lr := 0 } ∧ Fr (Just b) w w' := by
  have c1 := h.c1
  have c2 := h.c2
  have f1 := h.f 1
  have f2 := h.f 2
  have hol := h.ol
  have hl := h.lc
  have hz := h.sz
  have hlr' : (g.lr == 0) = false := by simp [hlr]
  have hsub : (g.off : Int) - 1 = ((g.off - 1 : Nat) : Int) := by omega
  have H := Lib.hid (((h.lr0 0).off' (g.off - 1) (by simp only; omega)))
  clear h
  go_enter Tryz.func83, Tryz.ntmps83
  go_wp2_with fail
  go_ret
  refine ⟨rfl, ?_, ((Fr.refl _ w).setCell (fun _ => just_self b) _).setCell (fun _ => just_self b) _⟩
  exact H.out

set_option maxHeartbeats 800000 in
set_option maxRecDepth 100000 in
theorem buf_unreadRune_no (w : World) (b : Nat) (g : Gh) (h : BufAt w b g) (hlr : g.lr ≤ 0) :
    Calls Tryz.prog 84 #[.pointer (some ⟨b, 0, none⟩)] w fun e w' => ∃ s, e = .returned (.iface 161 (.pointer (some ⟨w.heap.size, 0, none⟩))) ∧ w' = w.alloc (.cells #[.string s] 163) := by
  have c2 := h.c2
  clear h
  go_enter Tryz.func84, Tryz.ntmps84
  go_wp2_with fail
  refine (errors_new _ _).mono ?_
  rintro e w' ⟨rfl, rfl⟩
  go_wp2_with fail
  go_ret
  exact ⟨_, rfl, rfl⟩
set_option maxHeartbeats 800000 in
set_option maxRecDepth 100000 in
theorem buf_unreadRune_yes (w : World) (b : Nat) (g : Gh) (k : Nat) (h : BufAt w b g) (hlr : g.lr = (k : Int)) (hk : 0 < k) (hk4 : k ≤ 4) (ho : k ≤ g.off) :
    Calls Tryz.prog 84 #[.pointer (some ⟨b, 0, none⟩)] w fun e w' => e = .returned .nilIface ∧ BufAt w' b { g with off := g.off - k, lr := 0 } ∧ Fr (Just b) w w' := by
  have c1 := h.c1
  have c2 := h.c2
  have f1 := h.f 1
  have f2 := h.f 2
  rw [hlr] at c2
  have hol := h.ol
  have hl := h.lc
  have hz := h.sz
  have hsub := Lib.hid (show (g.off : Int) - (k : Int) = ((g.off - k : Nat) : Int) by omega)
  have hwk : IntKind.i64.wrap (k : Int) = (k : Int) := IntWalk.i64_in _ (by omega)
  have hws : IntKind.i64.wrap ((g.off : Int) - (k : Int)) = (g.off : Int) - (k : Int) := IntWalk.i64_in _ (by omega)
  have H := Lib.hid (fun n => (h.drewN n).drew)
  clear h
  go_enter Tryz.func84, Tryz.ntmps84
  go_wp2_with fail
  go_quiet (fail)
  go_wp2_with fail
  refine wp_region_mixed 12 (by kernel_rfl) (by kernel_rfl) (fun _ _ d _ _ h => by cases d <;> exact h) ?_
  simp only [List.take_succ_cons, List.take_zero, List.drop_succ_cons, List.drop_zero, List.filter_cons, List.filter_nil, isMv, Array.isEmpty_iff, Bool.not_false, Bool.and_true, Option.isNone_none, if_true, if_false, Bool.false_eq_true]
  repeat still_step
  refine wpStill_nil ?_
  have hA := (H.out nq).off' (g.off - k) (by omega)
  rw [← hsub.out] at hA
  have q2 := hA.c2
  have q3 := hA.f 2
  have HB := Lib.hid (hA.lr0 0)
  rw [hlr] at q2
  clear hA
  go_wp2_with fail
  go_ret
  refine ⟨rfl, ?_, (((Fr.refl _ w).drewN nq).drew.setCell (fun _ => just_self b) _).setCell (fun _ => just_self b) _⟩
  exact HB.out

set_option maxHeartbeats 800000 in
set_option maxRecDepth 100000 in
theorem buf_truncate_zero (w : World) (b : Nat) (g : Gh) (h : BufAt w b g) :
    Calls Tryz.prog 90 #[.pointer (some ⟨b, 0, none⟩), .int .i64 0] w fun e w' => e = .returned (.tuple #[]) ∧ BufAt w' b g.rs ∧ Fr (Just b) w w' := by
  have H := Lib.hid h
  clear h
  go_enter Tryz.func90, Tryz.ntmps90
  go_wp2_with fail
  refine (buf_reset _ b _ H.out).mono ?_
  rintro e w1 ⟨rfl, H1, F1⟩
  go_wp2_with fail
  refine bodyPost_ret (results_none rfl _ _ _) rfl ?_
  exact ⟨rfl, H1, F1⟩
set_option maxHeartbeats 800000 in
set_option maxRecDepth 100000 in
theorem buf_truncate_some (w : World) (b : Nat) (g : Gh) (n m : Nat) (h : BufAt w b g) (hm : g.off + m = g.len) (hn : 0 < n) (hnm : n ≤ m) :
    Calls Tryz.prog 90 #[.pointer (some ⟨b, 0, none⟩), .int .i64 (n : Int)] w fun e w' => e = .returned (.tuple #[]) ∧ BufAt w' b { g with len := g.off + n, lr := 0 } ∧ Fr (Just b) w w' := by
  have hz := h.sz
  have hl := h.lc
  have c2 := h.c2
  have f2 := h.f 2
  have hn0 : ((n : Int) == 0) = false := by simp; omega
  have hsl := fun w' => slice_to g.row g.len g.all.length (g.off + n) (by omega) w'
  rw [Int.natCast_add] at hsl
  have hws : IntKind.i64.wrap ((g.off : Int) + (n : Int)) = (g.off : Int) + (n : Int) := IntWalk.i64_in _ (by omega)
  have H := Lib.hid h
  have HM := Lib.hid hm
  clear h
  go_enter Tryz.func90, Tryz.ntmps90
  go_wp2_with fail
  have S1 := BufStep.lr0 H.out 0
  refine (buf_len_m _ b _ _ S1.at' HM.out).mono ?_
  rintro e w1 ⟨rfl, H1, F1⟩
  have hF1 : Fr (Just b) w w1 := (just_set w b 2 _).trans' F1 (fun _ _ q => q.elim)
  have k0 := H1.c0
  have k1 := H1.c1
  have e1 := H1.f 0
  simp only at k0 k1
  have HA1 := Lib.hid H1
  have HF1 := Lib.hid hF1
  clear S1 H1 F1 hF1
  go_wp2_with fail
  refine wp_region_mixed 14 (by kernel_rfl) (by kernel_rfl) (fun _ _ d _ _ h => by cases d <;> exact h) ?_
  simp only [List.take_succ_cons, List.take_zero, List.drop_succ_cons, List.drop_zero, List.filter_cons, List.filter_nil, isMv, Array.isEmpty_iff, Bool.not_false, Bool.and_true, Option.isNone_none, if_true, if_false, Bool.false_eq_true]
  repeat still_step
  refine wpStill_nil ?_
  have HB := Lib.hid (HA1.out.drew.len' (g.off + n) (by simp only; omega) (by simp only; omega))
  go_wp2_with fail
  go_end0
  exact ⟨rfl, HB.out, HF1.out.drew.setCell (fun _ => just_self b) _⟩
end Go.Proofs.YtbodbajgpgaoeaaGreatDoor

namespace Go.Proofs.YtbodbajgpgaoeaaGreatDoor
open Go

/-- A step of a script. -/
structure Cl where
  op : Int
  a : Int
  b : Int
  size : Nat
  n : Int
  sign : UInt8
  char : Int
  text : List UInt8
  cuts : List Nat
  /-- Where the cuts lie, and their capacity. -/
  ad : Option Addr
  cap : Nat

/-- What a call tells. -/
structure Td where
  n : Int
  text : List UInt8
  char : Int
  said : Int

/-- How a buffer begins. -/
structure St where
  text : List UInt8
  way : Int
  space : Nat

/-- A buffer of the reference: what is unread, the most recent read or write (0 unknown, 1 single, 2 char, 3 empty, 4 written, 5 cut), what it returned last, whether there was a read. -/
structure SB where
  text : List UInt8
  recent : Int
  last : List UInt8
  begun : Bool

/-- All buffers and builders. -/
structure Yd where
  bufs : List SB
  blds : List (List UInt8)

def Td.said' (k : Int) : Td := ⟨0, [], 0, k⟩
def Td.ofN (k : Int) : Td := ⟨k, [], 0, 0⟩
def Td.ofText (t : List UInt8) : Td := ⟨0, t, 0, 0⟩
def Td.zero : Td := ⟨0, [], 0, 0⟩

/-- No code point. -/
def badRune (r : Int) : Prop := r < 0 ∨ 1114111 < r ∨ (55296 ≤ r ∧ r < 57344)
instance (r : Int) : Decidable (badRune r) := by unfold badRune; infer_instance

/-- The encoding of a code point; empty if it is none. -/
def enc (r : Int) : List UInt8 := if badRune r then [] else Lib.encodeRune r

/-- The code point that comes first, and its size. -/
def dec (s : List UInt8) : Int × Nat :=
  let q := Lib.decodeN s.length (s.getD 0 0).toNat (s.getD 1 0).toNat (s.getD 2 0).toNat (s.getD 3 0).toNat
  ((q.1 : Int), q.2)

def SB.write (b : SB) (s : List UInt8) : SB := ⟨b.text ++ s, 4, [], b.begun⟩
def SB.read (b : SB) (n : Nat) (recent : Int) : SB :=
  if n = 0 then ⟨b.text, 3, [], true⟩
  else ⟨b.text.drop n, recent, if recent = 2 then b.text.take n else (b.text.drop (n - 1)).take 1, true⟩
def SB.other (b : SB) (s : List UInt8) : SB := ⟨s, 0, [], b.begun⟩

/-- How many bytes a read up to a byte takes: up to and including its first place; none if it is not there. -/
def upTo (c : UInt8) : List UInt8 → Option Nat
  | [] => none
  | x :: l => if x = c then some 1 else (upTo c l).map (· + 1)

def SB.reads (b : SB) (c : Cl) : SB × Td × Bool :=
  let n := min c.size b.text.length
  if c.op = 6 then
    if b.text = [] ∧ 0 < c.size then (b.read 0 1, Td.said' 1, true)
    else (b.read n 1, ⟨n, b.text.take n, 0, 0⟩, true)
  else if c.op = 7 then (b.read n 1, Td.ofText (b.text.take n), true)
  else if c.op = 8 then
    match b.text with
    | [] => (b.read 0 1, Td.said' 1, true)
    | x :: _ => (b.read 1 1, ⟨0, [], x.toNat, 0⟩, true)
  else if c.op = 9 ∨ c.op = 10 then
    match upTo c.sign b.text with
    | some k => (b.read k 1, Td.ofText (b.text.take k), true)
    | none => if b.text = [] then (⟨[], 5, [], true⟩, Td.said' 1, true) else (b.read b.text.length 5, ⟨0, b.text, 0, 1⟩, true)
  else if b.text = [] then (b.read 0 2, Td.said' 1, true)
  else (b.read (dec b.text).2 2, ⟨(dec b.text).2, [], (dec b.text).1, 0⟩, true)

def SB.back (b : SB) (c : Cl) : SB × Td × Bool :=
  if c.op = 13 then
    if b.recent = 2 then (b.other (b.last ++ b.text), Td.zero, true)
    else (b, Td.said' 2, decide (b.recent ≠ 0))
  else if b.recent = 1 ∨ b.recent = 2 then (b.other (b.last.drop (b.last.length - 1) ++ b.text), Td.zero, true)
  else if b.recent = 3 then (b, Td.said' 2, true)
  else if b.recent = 4 then (b, Td.said' 2, b.begun)
  else (b, Td.said' 2, false)

def SB.look (b : SB) (c : Cl) : SB × Td × Bool :=
  let put (n : Int) : SB × Td × Bool :=
    if 0 ≤ n ∧ n < b.text.length then (b.other (b.text.take n.toNat ++ c.sign :: b.text.drop (n.toNat + 1)), Td.zero, true)
    else (b.other b.text, Td.zero, true)
  if c.op = 14 then
    if b.text.length < c.size then (b, Td.zero, false)
    else (b.other b.text, Td.ofText (b.text.take c.size), true)
  else if c.op = 22 then
    if b.text.length < c.size then (b, Td.zero, false) else put ((c.size : Int) - 1)
  else put (c.size : Int)

def SB.do (b : SB) (c : Cl) : SB × Td × Bool :=
  if c.op = 1 ∨ c.op = 2 ∨ c.op = 5 then (b.write c.text, Td.ofN c.text.length, true)
  else if c.op = 3 then (b.write [c.sign], Td.zero, true)
  else if c.op = 4 then (b.write (enc c.char), Td.ofN (enc c.char).length, decide (enc c.char ≠ []))
  else if c.op = 12 ∨ c.op = 13 then b.back c
  else if c.op = 18 then (b, Td.ofN b.text.length, true)
  else if c.op = 19 ∨ c.op = 20 then (b, Td.ofText b.text, true)
  else if c.op = 15 then
    if 0 ≤ c.n ∧ c.n ≤ b.text.length then (b.other (b.text.take c.n.toNat), Td.zero, true)
    else (b, Td.said' 3, true)
  else if c.op = 16 then (b.other [], Td.zero, true)
  else if c.op = 17 then
    if c.n < 0 then (b, Td.said' 3, true) else (b.other b.text, Td.zero, decide (c.n ≤ 65536))
  else if c.op = 21 ∨ c.op = 22 ∨ c.op = 14 then b.look c
  else b.reads c

def putS (s : List UInt8) (c : Cl) : List UInt8 × Td × Bool :=
  if c.op = 28 ∨ c.op = 29 then (s ++ c.text, Td.ofN c.text.length, true)
  else if c.op = 30 then (s ++ [c.sign], Td.zero, true)
  else if c.op = 31 then (s ++ enc c.char, Td.ofN (enc c.char).length, decide (enc c.char ≠ []))
  else if c.op = 32 then
    if c.n < 0 then (s, Td.said' 3, true) else (s, Td.zero, decide (c.n ≤ 65536))
  else if c.op = 33 then ([], Td.zero, true)
  else if c.op = 34 then (s, Td.ofN s.length, true)
  else (s, Td.ofText s, true)

def inR (i : Int) (n : Nat) : Prop := 0 ≤ i ∧ i < n
instance (i : Int) (n : Nat) : Decidable (inR i n) := by unfold inR; infer_instance

def SB.zero : SB := ⟨[], 0, [], false⟩
def Yd.buf (y : Yd) (i : Int) : SB := y.bufs.getD i.toNat SB.zero
def Yd.bld (y : Yd) (i : Int) : List UInt8 := y.blds.getD i.toNat []
def Yd.setBuf (y : Yd) (i : Int) (b : SB) : Yd := { y with bufs := y.bufs.set i.toNat b }
def Yd.setBld (y : Yd) (i : Int) (s : List UInt8) : Yd := { y with blds := y.blds.set i.toNat s }

def Yd.flow (y : Yd) (c : Cl) : Yd × Td × Bool :=
  let a := y.buf c.a
  let s := a.text
  if c.op = 26 then
    if c.size < s.length then (y, Td.zero, false)
    else (y.setBuf c.a (a.other []), ⟨s.length, s, 0, 0⟩, true)
  else if c.op = 27 then
    (y.setBuf c.a (a.other (s ++ c.text)), ⟨c.text.length, [], 0, if c.n = 0 then 0 else 2⟩, true)
  else if c.op = 25 then
    if inR c.b y.blds.length then ((y.setBuf c.a (a.other [])).setBld c.b (y.bld c.b ++ s), Td.ofN s.length, true)
    else (y, Td.said' 4, true)
  else if inR c.b y.bufs.length ∧ c.a ≠ c.b then
    let b := y.buf c.b
    if c.op = 24 then ((y.setBuf c.a (a.other (s ++ b.text))).setBuf c.b (b.other []), Td.ofN b.text.length, true)
    else ((y.setBuf c.a (a.other [])).setBuf c.b (if s = [] then b.other b.text else b.write s), Td.ofN s.length, true)
  else (y, Td.said' 4, true)

def Yd.do (y : Yd) (c : Cl) : Yd × Td × Bool :=
  if c.op < 1 ∨ 36 ≤ c.op then (y, Td.said' 4, true)
  else if 28 ≤ c.op then
    if inR c.a y.blds.length then
      let r := putS (y.bld c.a) c
      (y.setBld c.a r.1, r.2.1, r.2.2)
    else (y, Td.said' 4, true)
  else if inR c.a y.bufs.length then
    if 23 ≤ c.op then y.flow c
    else
      let r := (y.buf c.a).do c
      (y.setBuf c.a r.1, r.2.1, r.2.2)
  else (y, Td.said' 4, true)

def Yd.begin (starts : List St) (builders : Nat) : Yd :=
  ⟨starts.map fun s => ⟨s.text, if s.way = 2 then 4 else 0, [], false⟩, List.replicate builders []⟩
def Yd.texts (y : Yd) : List (List UInt8) := y.bufs.map (·.text)

/-- A script without the calls that are not settled, or panic. -/
def calmF : Yd → List Cl → List Cl
  | _, [] => []
  | y, c :: l =>
    let r := y.do c
    if r.2.2 = true ∧ r.2.1.said ≠ 3 then c :: calmF r.1 l else calmF y l
/-- What the reference tells of a script, and the yard behind it. -/
def runF : Yd → List Cl → List Td × Yd
  | y, [] => ([], y)
  | y, c :: l =>
    let r := y.do c
    if r.2.1.said = 3 then ([r.2.1], y)
    else
      let q := runF r.1 l
      (r.2.1 :: q.1, q.2)
end Go.Proofs.YtbodbajgpgaoeaaGreatDoor

namespace Go.Proofs.YtbodbajgpgaoeaaGreatDoor
open Go Go.RowKit

/-- The numbers of the shelf's names in this program. -/
def decRen : Go.Shelf.Ren := ⟨fun | 32 => 106 | 49 => 116 | n => n,
  fun | 0 => 0 | 3 => 3 | 4 => 4 | 5 => 5 | 21 => 21 | 25 => 76 | 30 => 40 | 33 => 138 | 66 => 174 | 68 => 176 | 69 => 177 | n => n,
  fun | 2 => 6 | 3 => 7 | n => n⟩
theorem decLays : Lays7.n32 Tryz.prog decRen :=
  { mixed := by kernel_rfl, f32 := Tryz.func106, f49 := Tryz.func116,
    t0 := by kernel_rfl, a0 := fun w => by kernel_rfl, z0 := fun w => by kernel_rfl, v0 := fun w => by kernel_rfl, i0 := by kernel_rfl, t3 := by kernel_rfl, a3 := fun w => by kernel_rfl, z3 := fun w => by kernel_rfl, v3 := fun w => by kernel_rfl, i3 := by kernel_rfl, t4 := by kernel_rfl, a4 := fun w => by kernel_rfl, z4 := fun w => by kernel_rfl, v4 := fun w => by kernel_rfl, i4 := by kernel_rfl, t5 := by kernel_rfl, a5 := fun w => by kernel_rfl, z5 := fun w => by kernel_rfl, v5 := fun w => by kernel_rfl, i5 := by kernel_rfl, t21 := by kernel_rfl, a21 := fun w => by kernel_rfl, z21 := fun w => by kernel_rfl, v21 := fun w => by kernel_rfl, i21 := by kernel_rfl, t25 := by kernel_rfl, a25 := fun w => by kernel_rfl, z25 := fun w => by kernel_rfl, v25 := fun w => by kernel_rfl, i25 := by kernel_rfl, t30 := by kernel_rfl, a30 := fun w => by kernel_rfl, z30 := fun w => by kernel_rfl, v30 := fun w => by kernel_rfl, i30 := by kernel_rfl, t33 := by kernel_rfl, a33 := fun w => by kernel_rfl, z33 := fun w => by kernel_rfl, v33 := fun w => by kernel_rfl, i33 := by kernel_rfl, t66 := by kernel_rfl, a66 := fun w => by kernel_rfl, z66 := fun w => by kernel_rfl, t68 := by kernel_rfl, a68 := fun w => by kernel_rfl, z68 := fun w => by kernel_rfl, v68 := fun w => by kernel_rfl, i68 := by kernel_rfl, t69 := by kernel_rfl, a69 := fun w => by kernel_rfl, z69 := fun w => by kernel_rfl, v69 := fun w => by kernel_rfl, i69 := by kernel_rfl, g2 := by kernel_rfl, g3 := by kernel_rfl }
end Go.Proofs.YtbodbajgpgaoeaaGreatDoor

namespace Go.Proofs.YtbodbajgpgaoeaaGreatDoor
open Go Go.RowKit

theorem bcs_rune (r : Int) : bcs (Lib.encodeRune r) = Lib.runeCells r := Lib.byteCells_encodeRune r
/-- The append that AppendRune comes to. -/
def RuneApp (w : World) (v : Value) (r : Int) (v' : Value) (w2 : World) : Prop :=
  (Builtin.append_ #[40, 40] 40 #[v, .slice (some ⟨w.heap.size, 0, none⟩) (Lib.runeCells r).length (Lib.runeCells r).length]).run Tryz.prog (w.alloc (.cells (Lib.runeCells r).toArray 5)) = .ok v' w2
theorem RuneApp.at {w w2 : World} {v v' : Value} {r : Int} {l : List Int} (h : RuneApp w v r v' w2) (hl : Lib.encodeRuneZ r = l) :
    (Builtin.append_ #[40, 40] 40 #[v, .slice (some ⟨w.heap.size, 0, none⟩) l.length l.length]).run Tryz.prog (w.alloc (.cells (l.map fun x => Value.int .u8 x).toArray 5)) = .ok v' w2 := by
  subst hl
  have := h
  unfold RuneApp Lib.runeCells at this
  rw [List.length_map] at this
  exact this

set_option maxHeartbeats 1600000 in
set_option maxRecDepth 100000 in
theorem appendNonASCII_of (v v' : Value) (r : Int) (w w2 : World) (hr : ¬ badRune r) (hr8 : 128 ≤ r) (happ : RuneApp w v r v' w2) :
    Calls Tryz.prog 113 #[v, .int .i32 r] w fun e w' => e = .returned v' ∧ w' = w2 := by
  unfold badRune at hr
  rcases (show (128 ≤ r ∧ r ≤ 2047) ∨ (2048 ≤ r ∧ r < 55296) ∨ (57343 < r ∧ r ≤ 65535) ∨ (65536 ≤ r ∧ r ≤ 1114111) by omega) with ⟨h0, h1⟩ | ⟨h0, h1⟩ | ⟨h0, h1⟩ | ⟨h0, h1⟩
  · have ha := happ.at (Lib.encodeRuneZ_two h0 h1)
    simp only [List.map_cons, List.map_nil, List.length_cons, List.length_nil] at ha
    clear happ hr hr8
    go_enter Tryz.func113, Tryz.ntmps113
    go_wp2_with (at_builtin; refine wpList_plain rfl (fun K hK => wp_append_of_run _ _ _ _ rfl rfl rfl ha (hK _ _ ?_)))
    go_ret
    exact ⟨rfl, rfl⟩
  · have ha := happ.at (Lib.encodeRuneZ_three (.inl ⟨h0, h1⟩))
    simp only [List.map_cons, List.map_nil, List.length_cons, List.length_nil] at ha
    clear happ hr hr8
    go_enter Tryz.func113, Tryz.ntmps113
    go_wp2_with (at_builtin; refine wpList_plain rfl (fun K hK => wp_append_of_run _ _ _ _ rfl rfl rfl ha (hK _ _ ?_)))
    go_ret
    exact ⟨rfl, rfl⟩
  · have ha := happ.at (Lib.encodeRuneZ_three (.inr ⟨h0, h1⟩))
    simp only [List.map_cons, List.map_nil, List.length_cons, List.length_nil] at ha
    clear happ hr hr8
    go_enter Tryz.func113, Tryz.ntmps113
    go_wp2_with (at_builtin; refine wpList_plain rfl (fun K hK => wp_append_of_run _ _ _ _ rfl rfl rfl ha (hK _ _ ?_)))
    go_ret
    exact ⟨rfl, rfl⟩
  · have ha := happ.at (Lib.encodeRuneZ_four h0 h1)
    simp only [List.map_cons, List.map_nil, List.length_cons, List.length_nil] at ha
    clear happ hr hr8
    go_enter Tryz.func113, Tryz.ntmps113
    go_wp2_with (at_builtin; refine wpList_plain rfl (fun K hK => wp_append_of_run _ _ _ _ rfl rfl rfl ha (hK _ _ ?_)))
    go_ret
    exact ⟨rfl, rfl⟩

set_option maxHeartbeats 1600000 in
set_option maxRecDepth 100000 in
theorem appendRune_of (v v' : Value) (r : Int) (w w2 : World) (hr : ¬ badRune r) (happ : RuneApp w v r v' w2) :
    Calls Tryz.prog 102 #[v, .int .i32 r] w fun e w' => e = .returned v' ∧ w' = w2 := by
  by_cases h1 : r ≤ 127
  · have h0 : 0 ≤ r := by unfold badRune at hr; omega
    have ha := happ.at (Lib.encodeRuneZ_one h0 h1)
    simp only [List.map_cons, List.map_nil, List.length_cons, List.length_nil] at ha
    clear happ hr
    go_enter Tryz.func102, Tryz.ntmps102
    go_wp2_with (at_builtin; refine wpList_plain rfl (fun K hK => wp_append_of_run _ _ _ _ rfl rfl rfl ha (hK _ _ ?_)))
    go_ret
    exact ⟨rfl, rfl⟩
  · have h2 : r ≤ 1114111 := by unfold badRune at hr; omega
    have hc := appendNonASCII_of v v' r w w2 hr (by omega) happ
    clear happ hr
    go_enter Tryz.func102, Tryz.ntmps102
    go_wp2_with fail
    refine hc.mono ?_
    rintro e w' ⟨rfl, rfl⟩
    go_wp2_with fail
    go_ret
    exact ⟨rfl, rfl⟩
end Go.Proofs.YtbodbajgpgaoeaaGreatDoor

namespace Go.Proofs.YtbodbajgpgaoeaaGreatDoor
open Go Go.RowKit

theorem bytesOf_nat (l : List UInt8) : Lib.bytesOf (l.map fun x => (x.toNat : Int)) = l := by
  simp only [Lib.bytesOf, List.map_map]
  conv => rhs; rw [← List.map_id l]
  apply List.map_congr_left
  intro x _
  simp
set_option maxRecDepth 100000 in
/-- bytes.IndexByte of a slice that reads as l. -/
theorem indexByte_src {w : World} {row : Option Nat} {o n c : Nat} {l : List UInt8} (x : UInt8) (h : Src w (.slice (row.map fun r => ⟨r, o, none⟩) n c) l) :
    Calls Tryz.prog 115 #[.slice (row.map fun r => ⟨r, o, none⟩) n c, .int .u8 (x.toNat : Int)] w fun e w' => e = .returned (.int .i64 (Lib.indexByte l x)) ∧ w' = w := by
  have hrun : (Extern.BytealgIndexByte.indexByte #[.slice (row.map fun r => ⟨r, o, none⟩) n c, .int .u8 (x.toNat : Int)]).run Tryz.prog w = .ok (.int .i64 (Lib.indexByte l x)) w := by
    rcases h with h | ⟨A', c', h, k⟩
    · cases h
    · injection h with h1 h2 h3
      subst h1 h2 h3
      cases row with
      | none =>
        have : l = [] := by
          rcases Nat.eq_zero_or_pos l.length with q | q
          · exact List.eq_nil_of_length_eq_zero q
          · obtain ⟨ad, e, _⟩ := k q; cases e
        subst this
        exact Lib.run_indexByteNil (P := Tryz.prog) w 0 c _
      | some r =>
        have := Lib.run_indexByteSlice (P := Tryz.prog) w r o l.length c (l.map fun x => (x.toNat : Int)) (by simp) (fun i hi => by
          obtain ⟨ad, e, hc⟩ := k (by omega)
          simp only [Option.map_some, Option.some.injEq] at e
          subst e
          have := hc i _ (List.getElem?_eq_getElem hi)
          rw [addr_add] at this
          rw [this]
          simp [hi]) (x.toNat : Int)
        rw [bytesOf_nat] at this
        simp only [Option.map_some]
        rw [this]
        simp
  generalize row.map (fun r => (⟨r, o, none⟩ : Addr)) = A at *
  go_enter Tryz.func115, Tryz.ntmps115
  go_wp2_with fail
  rw [run_callFunc_extern Tryz.func118 (by kernel_rfl) (by kernel_rfl) (by kernel_rfl) (e := Extern.BytealgIndexByte.indexByte) (by kernel_rfl), hrun]
  simp only [Result.andThen]
  rw [Oper.upon_value]
  go_wp2_with fail
  go_ret
  exact ⟨rfl, rfl⟩

theorem upTo_some (c : UInt8) : ∀ (l : List UInt8) (k : Nat), upTo c l = some k → Lib.indexByte l c = (k : Int) - 1 ∧ 1 ≤ k ∧ k ≤ l.length
  | [], k, h => by cases h
  | x :: l, k, h => by
    unfold upTo at h
    unfold Lib.indexByte
    by_cases hx : x = c
    · subst hx
      simp only [if_true, Option.some.injEq] at h
      subst h
      simp
    · simp only [hx, if_false, Option.map_eq_some_iff] at h
      obtain ⟨j, hj, rfl⟩ := h
      obtain ⟨h1, h2, h3⟩ := upTo_some c l j hj
      have : (x == c) = false := by simp [hx]
      rw [this, h1]
      simp only [Bool.false_eq_true, if_false, List.length_cons]
      have : (((j : Int) - 1) == -1) = false := by simp; omega
      rw [this]
      simp only [Bool.false_eq_true, if_false]
      omega
theorem upTo_none (c : UInt8) : ∀ (l : List UInt8), upTo c l = none → Lib.indexByte l c = -1
  | [], _ => rfl
  | x :: l, h => by
    unfold upTo at h
    unfold Lib.indexByte
    by_cases hx : x = c
    · simp [hx] at h
    · simp only [hx, if_false, Option.map_eq_none_iff] at h
      have : (x == c) = false := by simp [hx]
      rw [this, upTo_none c l h]
      rfl

/-- Behind a read up to a byte. -/
def Gh.rl (g : Gh) (k : Nat) : Gh := { g with off := g.off + k, lr := -1 }
theorem Gh.rl_txt (g : Gh) (k : Nat) : (g.rl k).txt = g.txt.drop k := by simp [Gh.rl, Gh.txt, List.drop_drop]
theorem BufAt.rl {w : World} {b : Nat} {g : Gh} (h : BufAt w b g) (k : Nat) (hk : g.off + k ≤ g.len) : BufAt ((w.setCell ⟨b, 1, none⟩ (.int .i64 ((g.off + k : Nat) : Int))).setCell ⟨b, 2, none⟩ (.int .i8 (-1))) b (g.rl k) := (h.off' (g.off + k) hk).lr0 (-1)
theorem cutA_map (row : Option Nat) (o c : Nat) : ∃ o', cutA row o c = row.map fun r => (⟨r, o', none⟩ : Addr) := by
  unfold cutA
  split
  · exact ⟨0, rfl⟩
  · exact ⟨o, rfl⟩

set_option maxHeartbeats 1600000 in
set_option maxRecDepth 100000 in
theorem readSlice_some (w : World) (b : Nat) (g : Gh) (x : UInt8) (k : Nat) (h : BufAt w b g) (hk : upTo x g.txt = some k) :
    Calls Tryz.prog 105 #[.pointer (some ⟨b, 0, none⟩), .int .u8 (x.toNat : Int)] w fun e w' => e = .returned (.tuple #[.slice (cutA g.row g.off g.all.length) k (g.all.length - g.off), .nilIface]) ∧ BufAt w' b (g.rl k) ∧ Fr (Just b) w w' := by
  obtain ⟨hi, hk1, hk2⟩ := upTo_some x g.txt k hk
  have hz := h.sz
  have hl := h.lc
  have ho := h.ol
  have c0 := h.c0
  have c1 := h.c1
  have f1 := h.f 1
  have c2 := h.c2
  have f2 := h.f 2
  have htl := g.txt_length hl
  have hsl := fun w' => slice_from g.row g.len g.all.length g.off ho w'
  have hsl2 := fun w' => slice_lh g.row g.len g.all.length g.off (g.off + k) (by omega) (by omega) w'
  rw [Nat.add_sub_cancel_left, Int.natCast_add] at hsl2
  have hq : ∀ n, Calls Tryz.prog 115 #[.slice (cutA g.row g.off g.all.length) (g.len - g.off) (g.all.length - g.off), .int .u8 (x.toNat : Int)] (w.drewN n) fun e w' => e = .returned (.int .i64 ((k : Int) - 1)) ∧ w' = w.drewN n := by
    intro n
    have hs := Src.unread (h.drewN n)
    obtain ⟨o', e⟩ := cutA_map g.row g.off g.all.length
    rw [e] at hs ⊢
    rw [← hi]
    exact indexByte_src x hs
  have hadd : (g.off : Int) + ((k : Int) - 1) + 1 = (g.off : Int) + (k : Int) := by omega
  have hkn : ((k : Int) - 1 < 0) = False := by simp; omega
  have HB := Lib.hid (fun n => (h.drewN n).rl k (by omega))
  have HF := Lib.hid (fun n => (Fr.refl (Just b) w).drewN n)
  have HQ := Lib.hid hq
  clear h hi hq hk
  go_enter Tryz.func105, Tryz.ntmps105
  go_wp2_with fail
  go_quiet ((go_at_call 115; exact Calls.quiet_of_same (HQ.out _)))
  go_wp2_with fail
  go_quiet (fail)
  go_wp2_with fail
  go_ret2
  exact ⟨rfl, HB.out _, ((HF.out _).setCell (fun _ => just_self b) _).setCell (fun _ => just_self b) _⟩
set_option maxHeartbeats 1600000 in
set_option maxRecDepth 100000 in
theorem readSlice_none (w : World) (b : Nat) (g : Gh) (x : UInt8) (k : Nat) (ea : Addr) (h : BufAt w b g) (hk : upTo x g.txt = none) (hkl : g.off + k = g.len) (he : w.cell? ⟨0, 0, none⟩ = some (.iface 161 (.pointer (some ea)))) :
    Calls Tryz.prog 105 #[.pointer (some ⟨b, 0, none⟩), .int .u8 (x.toNat : Int)] w fun e w' => e = .returned (.tuple #[.slice (cutA g.row g.off g.all.length) k (g.all.length - g.off), .iface 161 (.pointer (some ea))]) ∧ BufAt w' b (g.rl k) ∧ Fr (Just b) w w' := by
  have hi := upTo_none x g.txt hk
  have hz := h.sz
  have hl := h.lc
  have ho := h.ol
  have c0 := h.c0
  have c1 := h.c1
  have f1 := h.f 1
  have c2 := h.c2
  have f2 := h.f 2
  have hsl := fun w' => slice_from g.row g.len g.all.length g.off ho w'
  have hsl2 := fun w' => slice_lh g.row g.len g.all.length g.off g.len (by omega) (by omega) w'
  rw [show g.len - g.off = k by omega] at hsl2
  have hq : ∀ n, Calls Tryz.prog 115 #[.slice (cutA g.row g.off g.all.length) (g.len - g.off) (g.all.length - g.off), .int .u8 (x.toNat : Int)] (w.drewN n) fun e w' => e = .returned (.int .i64 (-1)) ∧ w' = w.drewN n := by
    intro n
    have hs := Src.unread (h.drewN n)
    obtain ⟨o', e⟩ := cutA_map g.row g.off g.all.length
    rw [e] at hs ⊢
    rw [← hi]
    exact indexByte_src x hs
  have hb := fun n => (h.drewN n).rl k (by omega)
  rw [hkl] at hb
  have HB := Lib.hid hb
  have HF := Lib.hid (fun n => (Fr.refl (Just b) w).drewN n)
  have HQ := Lib.hid hq
  clear hb h hi hq hk
  go_enter Tryz.func105, Tryz.ntmps105
  go_wp2_with fail
  go_quiet ((go_at_call 115; exact Calls.quiet_of_same (HQ.out _)))
  go_wp2_with fail
  go_quiet (fail)
  go_wp2_with fail
  go_ret2
  exact ⟨rfl, HB.out _, ((HF.out _).setCell (fun _ => just_self b) _).setCell (fun _ => just_self b) _⟩

def LineOut (k : Option Nat) (ea : Addr) : Value := match k with | some _ => .nilIface | none => .iface 161 (.pointer (some ea))
/-- How many bytes a read up to a byte takes. -/
def takeN (x : UInt8) (l : List UInt8) : Nat := (upTo x l).getD l.length
theorem readSlice_any (w : World) (b : Nat) (g : Gh) (x : UInt8) (ea : Addr) (h : BufAt w b g) (he : w.cell? ⟨0, 0, none⟩ = some (.iface 161 (.pointer (some ea)))) :
    Calls Tryz.prog 105 #[.pointer (some ⟨b, 0, none⟩), .int .u8 (x.toNat : Int)] w fun e w' => e = .returned (.tuple #[.slice (cutA g.row g.off g.all.length) (takeN x g.txt) (g.all.length - g.off), LineOut (upTo x g.txt) ea]) ∧ BufAt w' b (g.rl (takeN x g.txt)) ∧ Fr (Just b) w w' := by
  cases hk : upTo x g.txt with
  | some k =>
    have e : takeN x g.txt = k := by simp [takeN, hk]
    rw [e]
    exact readSlice_some w b g x k h hk
  | none =>
    have e : takeN x g.txt = g.txt.length := by simp [takeN, hk]
    rw [e]
    exact readSlice_none w b g x _ ea h hk (by have := g.txt_length h.lc; have := h.ol; omega) he
theorem takeN_le (x : UInt8) (l : List UInt8) : takeN x l ≤ l.length := by
  unfold takeN
  cases hk : upTo x l with
  | some k => exact (upTo_some x l k hk).2.2
  | none => exact Nat.le_refl _

set_option maxHeartbeats 1600000 in
set_option maxRecDepth 100000 in
theorem buf_readString (w : World) (b : Nat) (g : Gh) (x : UInt8) (ea : Addr) (h : BufAt w b g) (he : w.cell? ⟨0, 0, none⟩ = some (.iface 161 (.pointer (some ea)))) :
    Calls Tryz.prog 81 #[.pointer (some ⟨b, 0, none⟩), .int .u8 (x.toNat : Int)] w fun e w' => e = .returned (.tuple #[.string ⟨(g.txt.take (takeN x g.txt)).toArray⟩, LineOut (upTo x g.txt) ea]) ∧ BufAt w' b (g.rl (takeN x g.txt)) ∧ Fr (Just b) w w' := by
  have hr := readSlice_any w b g x ea h he
  have hle := takeN_le x g.txt
  have htl := g.txt_length h.lc
  have hol := h.ol
  generalize LineOut (upTo x g.txt) ea = ev at *
  generalize takeN x g.txt = k at *
  have HR := Lib.hid hr
  clear hr he
  go_enter Tryz.func81, Tryz.ntmps81
  go_wp2_with fail
  refine HR.out.mono ?_
  rintro e w1 ⟨rfl, H1, F1⟩
  have hs : Src w1 (.slice (cutA g.row g.off g.all.length) k (g.all.length - g.off)) (g.txt.take k) := by
    rw [← Gh.txt_take g k (by omega)]
    have hl := h.lc
    exact Src.part H1 g.off k _ (by simp only [Gh.rl]; omega)
  have hcv := conv_str hs
  have HA1 := Lib.hid H1
  have HF1 := Lib.hid F1
  clear h H1 F1 hs
  go_wp2_with fail
  go_ret2
  exact ⟨rfl, HA1.out, HF1.out⟩

/-- append(nil, p..). -/
theorem app_nil_src {w : World} {A : Option Addr} {n c : Nat} {l : List UInt8} (h : Src w (.slice A n c) l) (hl : l.length ≤ 140737488355328) :
    ∃ (v : Value) (w' : World), (Builtin.append_ #[40, 40] 40 #[.slice none 0 0, .slice A n c]).run Tryz.prog w = .ok v w' ∧ Src w' v l ∧ (∃ A2 n2 c2, v = .slice A2 n2 c2) ∧ Fr (fun _ => False) w w' := by
  obtain ⟨i0, hi, hz0, hz1, hz2⟩ := info_parts info_u8
  rcases Nat.eq_zero_or_pos l.length with h0 | h0
  · obtain rfl : l = [] := List.eq_nil_of_length_eq_zero h0
    have hlen := run_lenOf_src (P := Tryz.prog) h
    have hf := run_firstCells_src (P := Tryz.prog) h 0 (Nat.le_refl _)
    refine ⟨.slice none 0 0, w, ?_, .inr ⟨_, _, rfl, fun q => absurd q (by simp)⟩, ⟨_, _, _, rfl⟩, Fr.refl _ _⟩
    simp [Builtin.append_, run_underlying Tryz.underlying40, sizeOf, typeInfo, hi, hz1, hlen, hf, bcs]
  · obtain ⟨cap2, w', hrun, hblk, hge, hle, hfr, hsz⟩ := run_append_grow (P := Tryz.prog) (dT := 40) (xT := 40) (ty := 40) (n := 0) (c := 0) (old := []) (D := none) Tryz.underlying40 Tryz.underlying40 (fun k q => by cases q) hi hz1 hz2 hz0 (.inr ⟨none, 0, rfl, fun q => absurd q (by simp)⟩) rfl h (by omega) (by omega)
    refine ⟨_, w', hrun, ?_, ⟨_, _, _, rfl⟩, hfr⟩
    have hrow : Row 5 w' w.heap.size ([] ++ l ++ List.replicate (cap2 - (0 + l.length)) 0) := ⟨_, hblk, .inl (Nat.le_refl _)⟩
    have := Src.of_row (o := 0) (n := l.length) (c := cap2) (A := some ⟨w.heap.size, 0, none⟩) hrow (fun _ => rfl) (by simp)
    simpa using this

def BytesPost (w : World) (b : Nat) (g : Gh) (x : UInt8) (ea : Addr) (e : Ending) (w' : World) : Prop :=
  ∃ A n c, e = .returned (.tuple #[.slice A n c, LineOut (upTo x g.txt) ea]) ∧ Src w' (.slice A n c) (g.txt.take (takeN x g.txt)) ∧ BufAt w' b (g.rl (takeN x g.txt)) ∧ Fr (Just b) w w'
set_option maxHeartbeats 1600000 in
set_option maxRecDepth 100000 in
theorem buf_readBytes (w : World) (b : Nat) (g : Gh) (x : UInt8) (ea : Addr) (h : BufAt w b g) (hlen : g.txt.length ≤ 140737488355328) (he : w.cell? ⟨0, 0, none⟩ = some (.iface 161 (.pointer (some ea)))) :
    Calls Tryz.prog 80 #[.pointer (some ⟨b, 0, none⟩), .int .u8 (x.toNat : Int)] w (BytesPost w b g x ea) := by
  have hr := readSlice_any w b g x ea h he
  have hle := takeN_le x g.txt
  have htl := g.txt_length h.lc
  have hol := h.ol
  unfold BytesPost
  generalize LineOut (upTo x g.txt) ea = ev at *
  generalize takeN x g.txt = k at *
  have HR := Lib.hid hr
  clear hr he
  go_enter Tryz.func80, Tryz.ntmps80
  go_wp2_with fail
  refine HR.out.mono ?_
  rintro e w1 ⟨rfl, H1, F1⟩
  have hs : Src w1 (.slice (cutA g.row g.off g.all.length) k (g.all.length - g.off)) (g.txt.take k) := by
    rw [← Gh.txt_take g k (by omega)]
    have hl := h.lc
    exact Src.part H1 g.off k _ (by simp only [Gh.rl]; omega)
  obtain ⟨v, w2, hrun, hs2, ⟨A2, n2, c2, rfl⟩, hfr⟩ := app_nil_src hs (by simp; omega)
  have HA1 := Lib.hid (H1.fr hfr (fun _ _ q => q))
  have HF1 := Lib.hid (F1.trans' hfr (fun _ _ q => q.elim))
  have HS := Lib.hid hs2
  clear h H1 F1 hs hs2 hfr
  go_wp2_with (at_builtin; refine wpList_plain rfl (fun K hK => wp_append_of_run _ _ _ _ rfl rfl rfl hrun (hK _ _ ?_)))
  go_ret2
  exact ⟨_, _, _, rfl, HS.out, HA1.out, HF1.out⟩
end Go.Proofs.YtbodbajgpgaoeaaGreatDoor
