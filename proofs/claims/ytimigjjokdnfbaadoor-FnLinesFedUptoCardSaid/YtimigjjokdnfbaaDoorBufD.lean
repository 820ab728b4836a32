/- (*bytes.Buffer).Read, Next. -/
import Derived.Test.YtimigjjokdnfbaaDoorBufR
namespace Go.Proofs.YtimigjjokdnfbaaDoor
open Go Go.RowKit

theorem BufAt.off' {w : World} {b : Nat} {g : Gh} (h : BufAt w b g) (n : Nat) (hn : n ≤ g.len) : BufAt (w.setCell ⟨b, 1, none⟩ (.int .i64 (n : Int))) b { g with off := n } := ⟨h.toBufRaw.put1 n, hn, h.lc⟩
theorem BufAt.len' {w : World} {b : Nat} {g : Gh} (h : BufAt w b g) (n : Nat) (h1 : g.off ≤ n) (h2 : n ≤ g.all.length) : BufAt (w.setCell ⟨b, 0, none⟩ (.slice (rowA g.row) n g.all.length)) b { g with len := n } := ⟨h.toBufRaw.put0 n, h1, h2⟩
theorem just_set (w : World) (b o : Nat) (v : Value) : Fr (Just b) w (w.setCell ⟨b, o, none⟩ v) := (Fr.refl _ w).setCell (fun _ => just_self b) _

/-- empty, of a buffer of which it is known. -/
theorem buf_empty_no (w : World) (b : Nat) (g : Gh) (h : BufAt w b g) (hlt : g.off < g.len) : Calls Tryd.prog 60 #[.pointer (some ⟨b, 0, none⟩)] w fun e w' => e = .returned (.bool false) ∧ BufAt w' b g ∧ Fr (fun _ => False) w w' := by
  refine (buf_empty w b g h).mono ?_
  rintro e w' ⟨rfl, k, rfl⟩
  exact ⟨by simp; omega, h.drewN k, (Fr.refl _ w).drewN k⟩
theorem buf_empty_yes (w : World) (b : Nat) (g : Gh) (h : BufAt w b g) (hlt : g.len ≤ g.off) : Calls Tryd.prog 60 #[.pointer (some ⟨b, 0, none⟩)] w fun e w' => e = .returned (.bool true) ∧ BufAt w' b g ∧ Fr (fun _ => False) w w' := by
  refine (buf_empty w b g h).mono ?_
  rintro e w' ⟨rfl, k, rfl⟩
  exact ⟨by simp; omega, h.drewN k, (Fr.refl _ w).drewN k⟩

/-- Behind a read of k bytes. -/
def Gh.rd (g : Gh) (k : Nat) : Gh := { g with off := g.off + k, lr := if k = 0 then 0 else -1 }
/-- Behind Reset. -/
def Gh.rs (g : Gh) : Gh := { g with len := 0, off := 0, lr := 0 }
theorem Gh.rd_txt (g : Gh) (k : Nat) : (g.rd k).txt = g.txt.drop k := by simp [Gh.rd, Gh.txt, List.drop_drop]
theorem Gh.rs_txt (g : Gh) : g.rs.txt = [] := by simp [Gh.rs, Gh.txt]

set_option maxHeartbeats 800000 in
set_option maxRecDepth 100000 in
/-- Read of an empty buffer, into some bytes. -/
theorem buf_read_eof (w : World) (b : Nat) (g : Gh) (D : Option Addr) (n c : Nat) (ea : Addr) (h : BufAt w b g) (hlt : g.len ≤ g.off) (hn : 0 < n) (hn' : n ≤ 9223372036854775807) (he : w.cell? ⟨0, 0, none⟩ = some (.iface 119 (.pointer (some ea)))) (hbe : b ≠ 0) :
    Calls Tryd.prog 36 #[.pointer (some ⟨b, 0, none⟩), .slice D n c] w fun e w' => e = .returned (.tuple #[.int .i64 0, .iface 119 (.pointer (some ea))]) ∧ BufAt w' b g.rs ∧ Fr (Just b) w w' := by
  have c2 := h.c2
  have f2 := h.f 2
  have H := Lib.hid h
  have HE := Lib.hid he
  have hn0 : ((n : Int) == 0) = false := by simp; omega
  clear h he
  go_enter Tryd.func36, Tryd.ntmps36
  go_wp2_with fail
  have S1 := BufStep.lr0 H.out 0
  refine (buf_empty_yes _ b _ S1.at' hlt).mono ?_
  rintro e w1 ⟨rfl, H1, F1⟩
  go_wp2_with fail
  refine (buf_reset _ b _ H1).mono ?_
  rintro e w2 ⟨rfl, H2, F2⟩
  have hF : Fr (Just b) w w2 := ((just_set w b 2 _).trans' F1 (fun _ _ q => q.elim)).trans F2
  have hE2 := (hF.cell (World.block_lt_of_cell? _ _ HE.out) (fun q => hbe q.symm)).trans HE.out
  have HF := Lib.hid hF
  have HA := Lib.hid H2
  clear S1 H1 F1 H2 F2 hF
  go_wp2_with fail
  go_quiet (fail)
  go_wp2_with fail
  go_ret2
  exact ⟨rfl, HA.out.drewN _, HF.out.drewN _⟩

/-- What Read comes to. -/
def ReadPost (w : World) (b : Nat) (g : Gh) (rp o n : Nat) (allp : List UInt8) (e : Ending) (w' : World) : Prop :=
  e = .returned (.tuple #[.int .i64 ((min g.txt.length n : Nat) : Int), .nilIface]) ∧ BufAt w' b (g.rd (min g.txt.length n)) ∧ Row 5 w' rp (splice allp o (g.txt.take n)) ∧ Fr (fun x => x = b ∨ x = rp) w w'
set_option maxHeartbeats 800000 in
set_option maxRecDepth 100000 in
/-- Read of a buffer that is not empty. -/
theorem buf_read_some (w : World) (b : Nat) (g : Gh) (rp o n c : Nat) (allp : List UInt8) (D : Option Addr) (h : BufAt w b g) (hlt : g.off < g.len) (hrow : Row 5 w rp allp) (hD : 0 < n → D = some ⟨rp, o, none⟩) (hfit : o + n ≤ allp.length) (hne : g.row ≠ some rp) :
    Calls Tryd.prog 36 #[.pointer (some ⟨b, 0, none⟩), .slice D n c] w (ReadPost w b g rp o n allp) := by
  have hz := h.sz
  have hl := h.lc
  have c2 := h.c2
  have f2 := h.f 2
  have hpb : rp ≠ b := hrow.ne_blk h.st (by decide)
  have htl := g.txt_length hl
  have H := Lib.hid h
  have HR := Lib.hid hrow
  have HT := Lib.hid htl
  clear h hrow htl
  go_enter Tryd.func36, Tryd.ntmps36
  go_wp2_with fail
  have S1 := BufStep.lr0 H.out 0
  refine (buf_empty_no _ b _ S1.at' hlt).mono ?_
  rintro e w1 ⟨rfl, H1, F1⟩
  have hF1 : Fr (Just b) w w1 := (just_set w b 2 _).trans' F1 (fun _ _ q => q.elim)
  have hR1 := HR.out.fr hF1 (fun q => hpb q)
  have k0 := H1.c0
  have k1 := H1.c1
  have hsl := fun w' => slice_from g.row g.len g.all.length g.off (by omega) w'
  have hsrc := Lib.hid (Src.unread H1.drew)
  have HA1 := Lib.hid H1
  have HF1 := Lib.hid hF1
  have HR1 := Lib.hid hR1
  simp only at k0 k1
  obtain ⟨k, hk⟩ : ∃ k, Nat.min g.txt.length n = k := ⟨_, rfl⟩
  have hk' : k = min g.txt.length n := hk.symm
  have hkl : g.off + k ≤ g.len := by rw [HT.out] at hk'; omega
  have hkn : k ≤ n := by omega
  have HK := Lib.hid hk
  have HK' := Lib.hid hk'
  clear S1 H1 F1 hF1 hR1 hk hk'
  go_wp2_with fail
  refine wp_region_mixed 10 (by kernel_rfl) (by kernel_rfl) (fun _ _ d _ _ h => by cases d <;> exact h) ?_
  simp only [List.take_succ_cons, List.take_zero, List.drop_succ_cons, List.drop_zero, List.filter_cons, List.filter_nil, isMv, Array.isEmpty_iff, Bool.not_false, Bool.and_true, Option.isNone_none, if_true, if_false, Bool.false_eq_true]
  repeat still_step
  refine wpStill_nil ?_
  go_wp2_with (refine wpList_copy8 rfl (.tmp 17) (.tmp 26) _ rfl rp o n c k allp g.txt D _ (by rfl) (by rfl) HR1.out.drew hsrc.out HK.out (fun q => hD (by omega)) (by omega) ?_)
  intro w2 hrow2 hfr2
  have hA2 : BufAt w2 b { g with lr := 0 } := HA1.out.drew.fr hfr2 (fun x q => by
    rcases q with q | q
    · exact fun e => hpb (by unfold Just at e; omega)
    · exact fun e => hne (by unfold Just at e; rw [← e]; exact q))
  have e0 := hA2.c1
  have e1 := hA2.f 1
  have e2 := hA2.c2
  have e3 := hA2.f 2
  have hA3 := hA2.off' (g.off + k) hkl
  have hF2 : Fr (fun x => x = b ∨ x = rp) w w2 := (HF1.out.drew.mono (fun _ _ q => .inl q)).trans (hfr2.mono (fun _ _ q => .inr q))
  have htk : g.txt.take k = g.txt.take n := by rw [HK'.out, Nat.min_comm, ← List.take_eq_take_min]
  rw [htk] at hrow2
  have HA3 := Lib.hid hA3
  have HF2 := Lib.hid hF2
  have HR2 := Lib.hid hrow2
  have q2 := hA3.c2
  have q3 := hA3.f 2
  clear hA2 hF2 hrow2 hfr2 htk
  by_cases hk0 : k = 0
  · subst hk0
    simp only [Nat.add_zero] at hA3 HA3 q2 q3
    clear hA3
    go_wp2_with fail
    go_ret2
    unfold ReadPost
    rw [← HK'.out]
    exact ⟨rfl, HA3.out, HR2.out.setCell_far (by exact hpb) _, (HF2.out.setCell (fun _ => .inl rfl) _)⟩
  · have hkp : (0 : Int) < (k : Int) := by omega
    have hA4 := hA3.lr0 (-1)
    have HA4 := Lib.hid hA4
    clear hA3 hA4
    go_wp2_with fail
    go_ret2
    unfold ReadPost
    rw [← HK'.out]
    refine ⟨rfl, ?_, (HR2.out.setCell_far (by exact hpb) _).setCell_far (by exact hpb) _, (HF2.out.setCell (fun _ => .inl rfl) _).setCell (fun _ => .inl rfl) _⟩
    have := HA4.out
    unfold Gh.rd
    rw [if_neg hk0]
    exact this
end Go.Proofs.YtimigjjokdnfbaaDoor
