/- Take, Said. -/
import Derived.Test.YtkggebhkjgjijaaGreatDoorQ05
import Derived.Test.YtkggebhkjgjijaaGreatDoorQ08
import Derived.Test.YtkggebhkjgjijaaGreatDoorQ01
import Derived.Test.YtkggebhkjgjijaaGreatDoorProg
import Derived.WalkKit
import Derived.LaidEql
import Derived.Stop.Asserts
import Derived.RowKitTokens
namespace Go.Proofs.YtkggebhkjgjijaaGreatDoor
open Go Go.RowKit

theorem nil_bufW (a : Addr) (w : World) : (nilAhead 291 70 (.pointer (some a)) "Write").run Tryz.prog w = .ok (some false) w := by kernel_rfl
theorem method_bufW (a : Addr) (w : World) : (method 291 70 (.pointer (some a)) "Write").run Tryz.prog w = .ok (47, .pointer (some a)) w := by kernel_rfl

/-- Two buffers lie apart. -/
structure Apart (b : Nat) (g : Gh) (b2 : Nat) (g2 : Gh) : Prop where
  blk : b ≠ b2
  row : ∀ r, g.row = some r → g2.row ≠ some r
/-- What of b and its row lies outside of the other one. -/
theorem Apart.foot {w : World} {b b2 x : Nat} {g g2 : Gh} (h : Apart b g b2 g2) (h1 : BufAt w b g) (h2 : BufAt w b2 g2) (hx : g.foot b x) : ¬ g2.foot b2 x := by
  rcases hx with rfl | hr
  · rintro (q | q)
    · exact h.blk q
    · exact (h2.row x q).ne_blk h1.st (by decide) rfl
  · rintro (q | q)
    · subst q
      exact (h1.row x hr).ne_blk h2.st (by decide) rfl
    · exact h.row x hr q
theorem Apart.symm {b b2 : Nat} {g g2 : Gh} (h : Apart b g b2 g2) : Apart b2 g2 b g := ⟨Ne.symm h.blk, fun r h1 h2 => h.row r h2 h1⟩

def WriteToPost (w : World) (b : Nat) (g : Gh) (b2 : Nat) (g2 : Gh) (e : Ending) (w' : World) : Prop :=
  ∃ g2', e = .returned (.tuple #[.int .i64 (g.txt.length : Int), .nilIface]) ∧ BufAt w' b g.rs ∧ BufAt w' b2 g2' ∧ (g2'.row = g2.row ∨ ∃ r, g2'.row = some r ∧ w.heap.size ≤ r) ∧ (g.txt = [] → g2' = g2) ∧ (g.txt ≠ [] → Wrote g2 g.txt g2') ∧ Fr (fun x => x = b ∨ g2.foot b2 x) w w'

set_option maxHeartbeats 800000 in
set_option maxRecDepth 100000 in
theorem writeTo_buf_empty (w : World) (b : Nat) (g : Gh) (b2 : Nat) (g2 : Gh) (h : BufAt w b g) (h2 : BufAt w b2 g2) (hap : Apart b g b2 g2) (ht : g.txt = []) :
    Calls Tryz.prog 60 #[.pointer (some ⟨b, 0, none⟩), .iface 70 (.pointer (some ⟨b2, 0, none⟩))] w (WriteToPost w b g b2 g2) := by
  have c2 := h.c2
  have f2 := h.f 2
  have htl := g.txt_length h.lc
  have hol := h.ol
  have hm : g.off + 0 = g.len := by rw [ht] at htl; simp at htl; omega
  have H := Lib.hid h
  have H2 := Lib.hid h2
  have HT := Lib.hid ht
  have HM := Lib.hid hm
  clear h h2 ht htl hm
  go_enter Tryz.func60, Tryz.ntmps60
  go_wp2_with fail
  have S1 := BufStep.lr0 H.out 0
  refine (buf_len_m _ b _ 0 S1.at' HM.out).mono ?_
  rintro e w1 ⟨rfl, H1, F1⟩
  go_wp2_with fail
  refine (buf_reset _ b _ H1).mono ?_
  rintro e w2 ⟨rfl, A2, F2⟩
  have hF : Fr (Just b) w w2 := ((just_set w b 2 _).trans' F1 (fun _ _ q => q.elim)).trans F2
  have HF := Lib.hid hF
  have HA := Lib.hid A2
  clear S1 H1 F1 A2 F2 hF
  go_wp2_with fail
  go_ret2
  refine ⟨g2, by rw [HT.out]; rfl, HA.out, H2.out.fr HF.out (fun x q k => ?_), .inl rfl, fun _ => rfl, fun q => absurd HT.out q, HF.out.mono fun _ _ q => .inl q⟩
  exact hap.symm.foot H2.out H.out q (.inl k)

set_option maxHeartbeats 1600000 in
set_option maxRecDepth 100000 in
theorem writeTo_buf_some (w : World) (b : Nat) (g : Gh) (b2 : Nat) (g2 : Gh) (h : BufAt w b g) (h2 : BufAt w b2 g2) (hap : Apart b g b2 g2) (ht : g.txt ≠ []) (hsz : g2.txt.length + g.txt.length ≤ 1099511627776) :
    Calls Tryz.prog 60 #[.pointer (some ⟨b, 0, none⟩), .iface 70 (.pointer (some ⟨b2, 0, none⟩))] w (WriteToPost w b g b2 g2) := by
  have c2 := h.c2
  have f2 := h.f 2
  have hl := h.lc
  have hz := h.sz
  have htl := g.txt_length h.lc
  have hol := h.ol
  obtain ⟨m, hm⟩ : ∃ m, g.txt.length = m := ⟨_, rfl⟩
  have hmp : 0 < m := by rw [← hm]; exact List.length_pos_iff.2 ht
  have hml : g.off + m = g.len := by omega
  have hoi : (0 : Int) ≤ (g.off : Int) := by omega
  have hoj : (g.off : Int) ≤ (g.len : Int) := by omega
  have hmb : m ≤ 1099511627776 := by omega
  have H := Lib.hid h
  have H2 := Lib.hid h2
  have HT := Lib.hid ht
  have HM := Lib.hid hm
  have HML := Lib.hid hml
  have hlm : g.len - g.off = m := by omega
  have hna := nil_bufW ⟨b2, 0, none⟩
  have hme := method_bufW ⟨b2, 0, none⟩
  have hsl := fun w' => slice_from g.row g.len g.all.length g.off hol w'
  rw [hlm] at hsl
  have hbb := hap.blk
  clear h h2 ht htl hm hml
  go_enter Tryz.func60, Tryz.ntmps60
  go_wp2_with fail
  have S1 := BufStep.lr0 H.out 0
  refine (buf_len_m _ b _ m S1.at' HML.out).mono ?_
  rintro e w1 ⟨rfl, H1, F1⟩
  have hF1 : Fr (Just b) w w1 := (just_set w b 2 _).trans' F1 (fun _ _ q => q.elim)
  have hB1 : BufAt w1 b2 g2 := H2.out.fr hF1 (fun x q k => hap.symm.foot H2.out H.out q (.inl k))
  have k0 := H1.c0
  have k1 := H1.c1
  have hsrc : Src w1.drew (.slice (cutA g.row g.off g.all.length) m (g.all.length - g.off)) g.txt := by have hh := Src.unread H1.drew; rw [← hlm]; exact hh
  have hap1 : Apart b { g with lr := 0 } b2 g2 := ⟨hap.blk, hap.row⟩
  have hst : ∀ w', Fr (g2.foot b2) w1.drew w' → BufAt w' b { g with lr := 0 } := fun w' hf => H1.drew.fr hf (fun x q => hap1.foot H1.drew hB1.drew q)
  have HA1 := Lib.hid H1
  have HF1 := Lib.hid hF1
  have HB1 := Lib.hid hB1
  have HSR := Lib.hid hsrc
  have HST := Lib.hid hst
  simp only at k0 k1
  clear S1 H1 F1 hF1 hB1 hsrc hst
  go_wp2_with fail
  go_region_held3 (fun w' => w'.cell? ⟨b, 0, none⟩ = some (.slice (rowA g.row) g.len g.all.length) ∧ w'.cell? ⟨b, 1, none⟩ = some (.int .i64 (g.off : Int))) (go_keep) ((go_at_call 47; refine (bufW _ _ _ g.txt _ b2 g2 HB1.out.drew HSR.out HM.out (by rw [← HM.out]; exact hsz) (fun _ w' hf => by have := Src.unread (HST.out w' hf); simp only at this; rw [hlm] at this; exact this)).mono ?_; rintro e w2 ⟨g2', rfl, S2, W2⟩; have A2 := HST.out w2 S2.fr; have d0 := A2.c0; have d1 := A2.c1; have e1 := A2.f 1; simp only at d0 d1; rw [HM.out]; have HA2 := Lib.hid A2; have HS2 := Lib.hid S2; have HW2 := Lib.hid W2; clear A2 S2 W2))
  have hA3 := HA2.out.off' (g.off + m) (by simp only; omega)
  have HA3 := Lib.hid hA3
  clear hA3
  go_wp2_with fail
  refine (buf_reset _ b _ HA3.out).mono ?_
  rintro e w4 ⟨rfl, A4, F4⟩
  have hF4 : Fr (Just b) w2 w4 := (just_set w2 b 1 _).trans F4
  have HA4 := Lib.hid A4
  have HF4 := Lib.hid hF4
  clear A4 F4 hF4
  go_wp2_with fail
  go_ret2
  refine ⟨g2', by rw [HM.out]; rfl, HA4.out, HS2.out.at'.fr HF4.out (fun x q k => ?_), ?_, fun q => absurd q HT.out, fun _ => HW2.out, ?_⟩
  · rcases q with q | q
    · exact hbb (by unfold Just at k; omega)
    · have k : x = b := k
      subst k
      exact (HS2.out.at'.row x q).ne_blk HA2.out.st (by decide) rfl
  · rcases HS2.out.row with e | ⟨r, e, hr⟩
    · exact .inl e
    · exact .inr ⟨r, e, Nat.le_trans HF1.out.size hr⟩
  · refine ((HF1.out.drew.mono fun _ _ q => .inl q).trans (HS2.out.fr.mono fun _ _ q => .inr q)).trans (HF4.out.mono fun _ _ q => .inl q)
end Go.Proofs.YtkggebhkjgjijaaGreatDoor

namespace Go.Proofs.YtkggebhkjgjijaaGreatDoor
open Go Go.RowKit

theorem nil_bufR (a : Addr) (w : World) : (nilAhead 291 70 (.pointer (some a)) "Read").run Tryz.prog w = .ok (some false) w := by kernel_rfl
theorem method_bufR (a : Addr) (w : World) : (method 291 70 (.pointer (some a)) "Read").run Tryz.prog w = .ok (51, .pointer (some a)) w := by kernel_rfl

/-- How far ReadFrom has come. -/
structure TK (w0 : World) (b : Nat) (g0 : Gh) (b2 : Nat) (g20 : Gh) (wr : World) (cnt : Nat) (g g2 : Gh) : Prop where
  a1 : BufAt wr b g
  a2 : BufAt wr b2 g2
  ap : Apart b g b2 g2
  r1 : g.row = g0.row ∨ ∃ r, g.row = some r ∧ w0.heap.size ≤ r
  r2 : g2.row = g20.row
  lr : g.lr = 0
  txt : g.txt ++ g2.txt = g0.txt ++ g20.txt
  cnt : cnt + g2.txt.length = g20.txt.length
  fr : Fr (fun x => g0.foot b x ∨ g20.foot b2 x) w0 wr

def TKPost (w0 : World) (b : Nat) (g0 : Gh) (b2 : Nat) (g20 : Gh) (e : Ending) (w' : World) : Prop :=
  ∃ g g2, e = .returned (.tuple #[.int .i64 (g20.txt.length : Int), .nilIface]) ∧ BufAt w' b g ∧ BufAt w' b2 g2 ∧ (g.row = g0.row ∨ ∃ r, g.row = some r ∧ w0.heap.size ≤ r) ∧ g2.row = g20.row ∧
    g.txt = g0.txt ++ g20.txt ∧ g2.txt = [] ∧ Fr (fun x => g0.foot b x ∨ g20.foot b2 x) w0 w'

/-- The first buffer has been grown. -/
theorem TK.grown {w0 : World} {b : Nat} {g0 : Gh} {b2 : Nat} {g20 : Gh} {wr w2 : World} {cnt : Nat} {g g2 g1 : Gh} {i : Nat} (h : TK w0 b g0 b2 g20 wr cnt g g2) (hG : Grown g 512 i g1) (S : BufStep wr b g w2 { g1 with len := i }) :
    TK w0 b g0 b2 g20 w2 cnt { g1 with len := i } g2 := by
  have hrow : g1.row = g.row ∨ ∃ r, g1.row = some r ∧ wr.heap.size ≤ r := S.row
  refine ⟨S.at', h.a2.fr S.fr (fun x q => h.ap.symm.foot h.a2 h.a1 q), ⟨h.ap.blk, fun r hr k => ?_⟩, ?_, h.r2, ?_, ?_, h.cnt, h.fr.trans' S.fr ?_⟩
  · rcases hrow with e | ⟨r', e, hr'⟩
    · exact h.ap.row r (by rw [← e]; exact hr) k
    · have := h.a2.rlt k
      simp only at hr
      rw [e] at hr
      injection hr with hr
      omega
  · rcases hrow with e | ⟨r', e, hr'⟩
    · simp only
      rw [e]
      exact h.r1
    · exact .inr ⟨r', e, Nat.le_trans h.fr.size hr'⟩
  · rcases hG.lr with e | e
    · simp only at e ⊢; rw [e]; exact h.lr
    · exact e
  · rw [← h.txt, ← hG.txt]
    rfl
  · intro x hx q
    rcases q with q | q
    · exact .inl (.inl q)
    · rcases h.r1 with e | ⟨r', e, hr'⟩
      · exact .inl (.inr (e ▸ q))
      · rw [e] at q
        injection q with q
        omega

set_option maxHeartbeats 3200000 in
set_option maxRecDepth 100000 in
theorem readFrom_buf (w0 : World) (b : Nat) (g0 : Gh) (b2 : Nat) (g20 : Gh) (ea : Addr) (h : BufAt w0 b g0) (h2 : BufAt w0 b2 g20) (hap : Apart b g0 b2 g20)
    (he : w0.cell? ⟨0, 0, none⟩ = some (errV ea)) (hsz : g0.txt.length + g20.txt.length + 512 ≤ 1099511627776) :
    Calls Tryz.prog 61 #[.pointer (some ⟨b, 0, none⟩), .iface 70 (.pointer (some ⟨b2, 0, none⟩))] w0 (TKPost w0 b g0 b2 g20) := by
  have c2 := h.c2
  have f2 := h.f 2
  have H := Lib.hid h
  have H2 := Lib.hid h2
  have hne1 := h.ne_err he
  have hne2 := h2.ne_err he
  clear h h2
  have hna := nil_bufR ⟨b2, 0, none⟩
  have hme := method_bufR ⟨b2, 0, none⟩
  go_enter Tryz.func61, Tryz.ntmps61
  go_wp2_with fail
  go_loopg [4] (g20.txt.length + 1) (fun k n wr => ∃ (cnt : Nat) (g g2 : Gh), n = .int .i64 (cnt : Int) ∧ g2.txt.length + 1 ≤ k ∧ TK w0 b g0 b2 g20 wr cnt g g2)
  case atStart =>
    have S0 := BufStep.lr0 H.out 0
    refine ⟨0, _, g20, rfl, Nat.le_refl _, S0.at', H2.out.fr S0.fr (fun x q => hap.symm.foot H2.out H.out q), ⟨hap.blk, hap.row⟩, .inl rfl, rfl, rfl, rfl, Nat.zero_add _, S0.fr.mono fun _ _ q => .inl q⟩
  case round =>
    obtain ⟨cnt, g, g2, rfl, hk, hI⟩ := hrel
    have htl : g.txt.length + 512 ≤ 1099511627776 := by
      have := congrArg List.length hI.txt
      simp only [List.length_append] at this
      omega
    have ht2 : g2.txt.length ≤ 1099511627776 := by
      have := congrArg List.length hI.txt
      simp only [List.length_append] at this
      omega
    go_wp2_with fail
    refine (grow_any 512 _ b g hI.a1 htl).mono ?_
    rintro e w1 ⟨i, g1, rfl, S1, G1⟩
    have A1 := S1.at'
    have c0 := A1.c0
    have f0 := A1.f 0
    have hz1 := A1.sz
    have hi : i + 512 ≤ g1.all.length := by have := G1.len; have := A1.lc; omega
    have A2 : BufAt (w1.setCell ⟨b, 0, none⟩ (.slice (rowA g1.row) i g1.all.length)) b { g1 with len := i } := ⟨A1.toBufRaw.put0 i, G1.off, by simp only; omega⟩
    have S2 : BufStep wr b g (w1.setCell ⟨b, 0, none⟩ (.slice (rowA g1.row) i g1.all.length)) { g1 with len := i } := S1.trans (BufStep.of_just A2 rfl ((Fr.refl _ w1).setCell (fun _ => just_self b) _))
    have hI2 := hI.grown G1 S2
    obtain ⟨row, all, len, off, lr⟩ := g1
    simp only at *
    cases row with
    | none => have := A1.nil rfl; simp only at this; subst this; simp at hi
    | some r =>
    simp only [rowA_some] at *
    generalize hw2 : w1.setCell ⟨b, 0, none⟩ (.slice (some ⟨r, 0, none⟩) i all.length) = w2 at *
    have d0 := A2.c0
    have e0 := A2.f 0
    have hsl := fun w' => slice_lh (some r) i all.length i all.length (by omega) (Nat.le_refl _) w'
    rw [cutA_some r i all.length (by omega)] at hsl
    simp only [rowA_some] at hsl d0
    have hE2 : w2.cell? ⟨0, 0, none⟩ = some (errV ea) := (hI2.fr.cell (World.block_lt_of_cell? _ _ he) (fun q => q.elim hne1 hne2)).trans he
    have HI := Lib.hid hI2
    have HE2 := Lib.hid hE2
    have hlg : all.length - i ≤ 9223372036854775807 := by omega
    have hcnt : cnt ≤ 1099511627776 := by have := hI2.cnt; omega
    have hb2e : b2 ≠ 0 := fun q => hne2 (.inl q.symm)
    have hbe : b ≠ 0 := fun q => hne1 (.inl q.symm)
    have HG := Lib.hid G1
    clear A1 A2 S2 S1 G1 hI hI2 hE2 he
    cases ht : g2.txt with
    | nil =>
      have hlt2 : g2.len ≤ g2.off := by have := g2.txt_length HI.out.a2.lc; rw [ht] at this; simp at this; omega
      have herr := err_same ea
      go_wp2_with fail
      go_region_held3 (fun w' => w'.cell? ⟨b, 0, none⟩ = some (.slice (some ⟨r, 0, none⟩) i all.length)) (go_keep) ((go_at_call 51; refine (buf_read_eof _ b2 g2 _ _ _ ea HI.out.a2.drew hlt2 (by omega) hlg HE2.out hb2e).mono ?_; rintro e w3 ⟨rfl, A3, F3⟩; have B3 := HI.out.a1.drew.fr F3 (fun x q k => HI.out.ap.foot HI.out.a1 HI.out.a2 q (.inl k)); have d3 := B3.c0; have e3 := B3.f 0; have hE3 := (F3.cell (World.block_lt_of_cell? _ _ HE2.out) (fun q => hb2e q.symm)).trans HE2.out; simp only [rowA_some] at d3; have HA3 := Lib.hid A3; have HF3 := Lib.hid F3; have HB3 := Lib.hid B3; clear B3 A3 F3))
      have B4 : BufAt (w3.setCell ⟨b, 0, none⟩ (.slice (some ⟨r, 0, none⟩) i all.length)) b { row := some r, all := all, len := i, off := off, lr := lr } := ⟨HB3.out.toBufRaw.put0 i, HG.out.off, by simp only; omega⟩
      have hF4 : Fr (Just b) w3 (w3.setCell ⟨b, 0, none⟩ (.slice (some ⟨r, 0, none⟩) i all.length)) := (Fr.refl _ w3).setCell (fun _ => just_self b) _
      have hE4 := (hF4.cell (World.block_lt_of_cell? _ _ hE3) (fun q => hbe q.symm)).trans hE3
      generalize hw4 : w3.setCell ⟨b, 0, none⟩ (.slice (some ⟨r, 0, none⟩) i all.length) = w4 at *
      have HB4 := Lib.hid B4
      have HF4 := Lib.hid hF4
      clear B4 hF4
      go_wp2_with fail
      go_ret2
      have k := HI.out
      refine ⟨_, _, by have := k.cnt; rw [ht] at this; rw [← this]; rfl, HB4.out, HA3.out.fr HF4.out (fun x q j => ?_), k.r1, k.r2, ?_, g2.rs_txt, (k.fr.drew.trans' HF3.out ?_).trans' HF4.out ?_⟩
      · have j : x = b := j
        subst j
        exact (show Apart x { row := some r, all := all, len := i, off := off, lr := lr } b2 g2.rs from ⟨k.ap.blk, k.ap.row⟩).foot HB3.out HA3.out (.inl rfl) q
      · have := k.txt
        rw [ht, List.append_nil] at this
        exact this
      · exact fun x _ q => .inr (.inl q)
      · exact fun x _ q => .inl (.inl q)
    | cons p rest =>
      have hlt2 : g2.off < g2.len := by have := g2.txt_length HI.out.a2.lc; rw [ht] at this; simp at this; omega
      have htp : 0 < g2.txt.length := by rw [ht]; simp
      clear ht
      have hrw := Lib.hid (HI.out.a1.drew.row r rfl)
      obtain ⟨n, hn⟩ : ∃ n, n = all.length - i := ⟨_, rfl⟩
      obtain ⟨m, hm⟩ : ∃ m, m = min g2.txt.length n := ⟨_, rfl⟩
      have hmi : m ≤ n := by omega
      have hmp : 0 < m := by omega
      have hm2 : m ≤ g2.txt.length := by omega
      have hin : i + n ≤ all.length := by omega
      have hml : m ≤ 1099511627776 := by omega
      have hn1 : all.length - i = n := hn.symm
      have hm1 : min g2.txt.length n = m := hm.symm
      have HM := Lib.hid hm
      rw [hn1] at hsl
      have hen := err_nil ea
      have hgn := guard_nil (.tmp 59) (.tmp 60) ea
      have hb3 : ¬ (b = b2 ∨ b = r) := by
        rintro (q | q)
        · exact HI.out.ap.blk q
        · exact (HI.out.a1.row r rfl).ne_blk HI.out.a1.st (by decide) q.symm
      have hspl : (splice all i (g2.txt.take n)).length = all.length := length_splice _ _ _ (by rw [List.length_take]; omega)
      have HSP := Lib.hid hspl
      clear hn hm hspl
      go_wp2_with fail
      go_region_held3 (fun w' => w'.cell? ⟨b, 0, none⟩ = some (.slice (some ⟨r, 0, none⟩) i all.length)) (go_keep) ((go_at_call 51; refine (buf_read_some _ b2 g2 r i n _ all _ HI.out.a2.drew hlt2 hrw.out (fun _ => rfl) hin (HI.out.ap.row r rfl)).mono ?_; rintro e w3 ⟨rfl, A3, hr3, F3⟩; have R3 := (HI.out.a1.drew).toBufRaw.putAllS rfl F3 hb3 hr3 HSP.out; have d3 := R3.c0; have e3 := R3.f 0; have hE3 := (F3.cell (World.block_lt_of_cell? _ _ HE2.out) (fun q => q.elim (fun q => hb2e q.symm) (fun q => HI.out.a1.ne_err HE2.out (.inr (congrArg some q.symm))))).trans HE2.out; simp only [rowA_some] at d3; rw [HSP.out] at d3; have HA3 := Lib.hid A3; have HF3 := Lib.hid F3; have HR3 := Lib.hid R3; clear R3 A3 F3 hr3))
      have hA3 : BufAt w3 b { row := some r, all := splice all i (g2.txt.take n), len := i, off := off, lr := lr } := ⟨HR3.out, HG.out.off, by simp only; rw [HSP.out]; omega⟩
      have B4 := HR3.out.put0 (i + m)
      have hF4 : Fr (Just b) w3 (w3.setCell ⟨b, 0, none⟩ (.slice (some ⟨r, 0, none⟩) (i + m) all.length)) := (Fr.refl _ w3).setCell (fun _ => just_self b) _
      have hE4 := (hF4.cell (World.block_lt_of_cell? _ _ hE3) (fun q => hbe q.symm)).trans hE3
      simp only [rowA_some] at B4
      rw [HSP.out] at B4
      generalize hw4 : w3.setCell ⟨b, 0, none⟩ (.slice (some ⟨r, 0, none⟩) (i + m) all.length) = w4 at *
      have HR : Hid (TK w0 b g0 b2 g20 w4 (cnt + m) { row := some r, all := splice all i (g2.txt.take n), len := i + m, off := off, lr := lr } (g2.rd m)) := by
        have k := HI.out
        have hA3' := HA3.out
        rw [← HM.out] at hA3'
        have htk : (g2.txt.take n).length = m := by rw [List.length_take, HM.out, Nat.min_comm]
        have hrn : some r = g0.row ∨ ∃ r', some r = some r' ∧ w0.heap.size ≤ r' := k.r1
        refine ⟨⟨B4, Nat.le_trans HG.out.off (Nat.le_add_right _ _), by simp only; rw [HSP.out]; omega⟩, hA3'.fr hF4 (fun x q j => ?_), ⟨k.ap.blk, k.ap.row⟩, k.r1, k.r2, k.lr, ?_, ?_, (k.fr.drew.trans' HF3.out ?_).trans' hF4 ?_⟩
        · have j : x = b := j
          subst j
          exact (show Apart x { row := some r, all := splice all i (g2.txt.take n), len := i, off := off, lr := lr } b2 (g2.rd m) from ⟨k.ap.blk, k.ap.row⟩).foot hA3 hA3' (.inl rfl) q
        · rw [← k.txt, Gh.rd_txt]
          simp only [Gh.txt] at htk ⊢
          rw [← htk, splice_txt _ _ _ _ HG.out.off (by rw [htk]; omega), List.append_assoc]
          congr 1
          rw [htk]
          have : List.take n (List.drop g2.off (List.take g2.len g2.all)) = List.take m (List.drop g2.off (List.take g2.len g2.all)) := by
            have hh := HM.out
            simp only [Gh.txt] at hh
            rw [hh, Nat.min_comm, ← List.take_eq_take_min]
          rw [this, List.take_append_drop]
        · have := k.cnt
          rw [Gh.rd_txt, List.length_drop]
          omega
        · intro x hx q
          rcases q with q | q
          · exact .inr (.inl q)
          · rcases hrn with e | ⟨r', e, hr'⟩
            · exact .inl (.inr (by rw [q, ← e]))
            · injection e with e
              omega
        · exact fun x _ q => .inl (.inl q)
      have hmeas : (g2.rd m).txt.length < g2.txt.length := by rw [Gh.rd_txt, List.length_drop]; omega
      clear hA3 B4 hF4 hE3
      go_wp2_with fail
      go_roundg ((g2.rd m).txt.length + 1)
      case measure => omega
      case rel => exact ⟨cnt + m, _, _, by go_num, Nat.le_refl _, HR.out⟩
end Go.Proofs.YtkggebhkjgjijaaGreatDoor

namespace Go.Proofs.YtkggebhkjgjijaaGreatDoor
open Go Go.RowKit Go.Extern.Stop Go.Stop Go.Extern

theorem is_typeOf (v : Value) (w : World) : (Extern.ReflectliteType.typeOf #[.iface 145 v]).run Tryz.prog w = .ok (.iface 149 (.agg #[.pointer (some ⟨9, 145, none⟩)])) w := by kernel_rfl
/-- What the model says of Comparable. -/
def compExt : Array Value → Sem Value := Extern.ReflectliteType.method fun t => do Extern.Rtype.noPackHeld "Comparable" t; pure (.bool (← typeInfo t).comparable)
theorem is_comparable (w : World) : (compExt #[.agg #[.pointer (some ⟨9, 145, none⟩)]]).run Tryz.prog w = .ok (.bool true) w := by kernel_rfl
theorem is_methodComparable (v : Value) (w : World) : (Go.method 291 149 v "Comparable").run Tryz.prog w = .ok (115, v) w := by kernel_rfl
theorem is_comp : (Tryz.prog.info? 145).map (·.comparable) = some true := by kernel_rfl
theorem is_size : (Tryz.prog.info? 147).map (·.size) = some 1 := by kernel_rfl
theorem noIsE (v : Value) (xT : TypeId) (w : World) : (Instr.typeAssert (.iface 145 v) xT 151 true).run Tryz.prog w = .ok (.tuple #[.nilIface, .bool false]) w := run_typeAssert_lacksB Tryz.underlying151 (by kernel_rfl) (by kernel_rfl) v xT w
theorem noUnwrapE (v : Value) (xT : TypeId) (w : World) : (Instr.typeAssert (.iface 145 v) xT 154 true).run Tryz.prog w = .ok (.tuple #[.nilIface, .bool false]) w := run_typeAssert_lacksB Tryz.underlying154 (by kernel_rfl) (by kernel_rfl) v xT w
theorem noUnwrapsE (v : Value) (xT : TypeId) (w : World) : (Instr.typeAssert (.iface 145 v) xT 155 true).run Tryz.prog w = .ok (.tuple #[.nilIface, .bool false]) w := run_typeAssert_lacksB Tryz.underlying155 (by kernel_rfl) (by kernel_rfl) v xT w

set_option maxRecDepth 100000 in
/-- errors.Is(x, x), x a pointer to an errors.errorString. -/
theorem is_same (a : Addr) (w : World) :
    Calls Tryz.prog 75 #[.iface 145 (.pointer (some a)), .iface 145 (.pointer (some a))] w fun e w' => e = .returned (.bool true) ∧ w' = w := by
  obtain ⟨i, hi, hcmp⟩ := Option.map_eq_some_iff.1 is_comp
  obtain ⟨j, hj, hjs⟩ := Option.map_eq_some_iff.1 is_size
  have h8 := @run_callFunc_extern Tryz.prog 85 _ Extern.ReflectliteType.typeOf Tryz.func85 (by kernel_rfl) (by kernel_rfl) (by kernel_rfl) (by kernel_rfl)
  have h32 := @run_callFunc_extern Tryz.prog 115 _ compExt Tryz.func115 (by kernel_rfl) (by kernel_rfl) (by kernel_rfl) (by kernel_rfl)
  have tT := is_typeOf
  have cT := is_comparable
  have mR := is_methodComparable
  have heq := run_eql_iface_ptr_same (P := Tryz.prog) w a Tryz.underlying86 Tryz.underlying145 hi hcmp hj
  go_enter Tryz.func75, Tryz.ntmps75
  go_wp2
  refine wp_loop_rounds 1 ?_
  rw [rounds_succ]
  go_wp2
  go_ret
  exact ⟨rfl, rfl⟩

set_option maxRecDepth 100000 in
/-- errors.Is(x, y), two different pointers to errors.errorString: false. -/
theorem is_other (a b : Addr) (ca cb : Array Value) (ta tb : TypeId) (w : World) (hne : a ≠ b) (ha : w.heap[a.block]? = some (.cells ca ta (0, 0))) (hb : w.heap[b.block]? = some (.cells cb tb (0, 0))) :
    Calls Tryz.prog 75 #[.iface 145 (.pointer (some a)), .iface 145 (.pointer (some b))] w fun e w' => e = .returned (.bool false) ∧ w' = w := by
  obtain ⟨i, hi, hcmp⟩ := Option.map_eq_some_iff.1 is_comp
  obtain ⟨j, hj, hjs⟩ := Option.map_eq_some_iff.1 is_size
  have h8 := @run_callFunc_extern Tryz.prog 85 _ Extern.ReflectliteType.typeOf Tryz.func85 (by kernel_rfl) (by kernel_rfl) (by kernel_rfl) (by kernel_rfl)
  have h32 := @run_callFunc_extern Tryz.prog 115 _ compExt Tryz.func115 (by kernel_rfl) (by kernel_rfl) (by kernel_rfl) (by kernel_rfl)
  have tT := is_typeOf
  have cT := is_comparable
  have mR := is_methodComparable
  have nE := noIsE
  have uE := noUnwrapE
  have vE := noUnwrapsE
  have heq := run_eql_iface_ptr_other (P := Tryz.prog) w Tryz.underlying86 Tryz.underlying145 hi hcmp hj (by rw [hjs]; decide) hne ha hb
  go_enter Tryz.func75, Tryz.ntmps75
  go_wp2
  refine wp_loop_rounds 1 ?_
  rw [rounds_succ]
  go_wp2
  go_ret
  exact ⟨rfl, rfl⟩

set_option maxRecDepth 100000 in
/-- What an error says. -/
theorem said_nil (w : World) : Calls Tryz.prog 40 #[.nilIface] w fun e w' => e = .returned (.int .i64 0) ∧ w' = w := by
  go_enter Tryz.func40, Tryz.ntmps40
  go_wp2
  go_ret
  exact ⟨rfl, rfl⟩
set_option maxRecDepth 100000 in
theorem said_eof (w : World) (ea : Addr) (he : w.cell? ⟨0, 0, none⟩ = some (.iface 145 (.pointer (some ea)))) :
    Calls Tryz.prog 40 #[.iface 145 (.pointer (some ea))] w fun e w' => e = .returned (.int .i64 1) ∧ w' = w := by
  go_enter Tryz.func40, Tryz.ntmps40
  go_wp2_with fail
  refine (is_same ea w).mono ?_
  rintro e w' ⟨rfl, rfl⟩
  go_wp2
  go_ret
  exact ⟨rfl, rfl⟩
set_option maxRecDepth 100000 in
theorem said_other (w : World) (ea eb : Addr) (ca cb : Array Value) (ta tb : TypeId) (he : w.cell? ⟨0, 0, none⟩ = some (.iface 145 (.pointer (some eb)))) (hne : ea ≠ eb) (ha : w.heap[ea.block]? = some (.cells ca ta (0, 0))) (hb : w.heap[eb.block]? = some (.cells cb tb (0, 0))) :
    Calls Tryz.prog 40 #[.iface 145 (.pointer (some ea))] w fun e w' => e = .returned (.int .i64 2) ∧ w' = w := by
  go_enter Tryz.func40, Tryz.ntmps40
  go_wp2_with fail
  refine (is_other ea eb ca cb ta tb w hne ha hb).mono ?_
  rintro e w' ⟨rfl, rfl⟩
  go_wp2
  go_ret
  exact ⟨rfl, rfl⟩

set_option maxRecDepth 100000 in
theorem errors_new (w : World) (s : ByteArray) : Calls Tryz.prog 81 #[.string s] w fun e w' => e = .returned (.iface 145 (.pointer (some ⟨w.heap.size, 0, none⟩))) ∧ w' = w.alloc (.cells #[.string s] 147) := by
  go_enter Tryz.func81, Tryz.ntmps81
  go_wp2
  go_ret
  exact ⟨rfl, rfl⟩
end Go.Proofs.YtkggebhkjgjijaaGreatDoor
