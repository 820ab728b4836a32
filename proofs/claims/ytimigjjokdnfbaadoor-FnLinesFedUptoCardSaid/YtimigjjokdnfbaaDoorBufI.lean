/- (*bytes.Buffer).ReadRune. -/
import Derived.Test.YtimigjjokdnfbaaDoorBufH
namespace Go.Proofs.YtimigjjokdnfbaaDoor
open Go Go.RowKit

theorem get!_list (l : List UInt8) (j : Nat) : (ByteArray.mk l.toArray).get! j = l.getD j 0 := by
  simp only [ByteArray.get!]
  by_cases h : j < l.length
  · simp [h]
  · simp [h]
    rfl
/-- utf8.DecodeRune of bytes that lie in a row. -/
theorem decode_row {E : TypeId} {w : World} {r o c : Nat} {all l : List UInt8} (hT : Lib.Utf8Tabs 6 7 w) (hrow : Row E w r all) (hl : (all.drop o).take l.length = l) (ho : o + l.length ≤ all.length) (h0 : l ≠ []) :
    Calls Tryd.prog 62 #[.slice (some ⟨r, o, none⟩) l.length c] w fun e w' => e = .returned (.tuple #[.int .i32 (dec l).1, .int .i64 ((dec l).2 : Int)]) ∧ Fr (fun _ => False) w w' := by
  have hs : (ByteArray.mk l.toArray).size = l.length := by simp [ByteArray.size]
  have h := Any7.utf8_DecodeRune decLays ⟨l.toArray⟩ r o c w hT (fun j hj => by
    rw [hs] at hj
    have := hrow.cell (o + j) (by omega)
    rw [this]
    have e : l[j]? = all[o + j]? := by
      conv => lhs; rw [← hl]
      simp [hj]
    rw [List.getElem?_eq_getElem hj, List.getElem?_eq_getElem (by omega)] at e
    injection e with e
    rw [get!_list, List.getD_eq_getElem?_getD, List.getElem?_eq_getElem hj, ← e]
    rfl)
  rw [hs] at h
  have hd : Lib.decodeGo ⟨l.toArray⟩ = Lib.decodeN l.length (l.getD 0 0).toNat (l.getD 1 0).toNat (l.getD 2 0).toNat (l.getD 3 0).toNat := by
    have hne : ¬ l.length = 0 := fun q => h0 (List.eq_nil_of_length_eq_zero q)
    simp only [Lib.decodeGo, hs, hne, if_false]
    rw [Lib.decode_at, hs]
    simp only [get!_list, Nat.sub_zero, Nat.zero_add]
  refine Calls.mono h ?_
  rintro e w' ⟨rfl, hb⟩
  rw [hd]
  exact ⟨rfl, Fr.of_below hb⟩
theorem dec_ascii (x : UInt8) (l : List UInt8) (h : x.toNat < 128) : dec (x :: l) = ((x.toNat : Int), 1) := by
  simp [dec, Lib.decodeN, h]
/-- What decode takes lies within what there is. -/
theorem decodeN_le (n b0 b1 b2 b3 : Nat) (hn : 1 ≤ n) : 1 ≤ (Lib.decodeN n b0 b1 b2 b3).2 ∧ (Lib.decodeN n b0 b1 b2 b3).2 ≤ n ∧ (Lib.decodeN n b0 b1 b2 b3).2 ≤ 4 := by
  unfold Lib.decodeN
  split
  · simp; omega
  · split
    · rename_i h1 h2
      split <;> simp <;> omega
    · split
      · rename_i h1 h2 h3
        split <;> simp <;> omega
      · split
        · rename_i h1 h2 h3 h4
          split <;> simp <;> omega
        · simp; omega
theorem dec_le (l : List UInt8) (h : l ≠ []) : 1 ≤ (dec l).2 ∧ (dec l).2 ≤ l.length ∧ (dec l).2 ≤ 4 :=
  decodeN_le _ _ _ _ _ (List.length_pos_iff.2 h)

/-- Behind a read of a rune of k bytes. -/
def Gh.rr (g : Gh) (k : Nat) : Gh := { g with off := g.off + k, lr := (k : Int) }
theorem Gh.rr_txt (g : Gh) (k : Nat) : (g.rr k).txt = g.txt.drop k := by simp [Gh.rr, Gh.txt, List.drop_drop]

set_option maxHeartbeats 800000 in
set_option maxRecDepth 100000 in
theorem buf_readRune_eof (w : World) (b : Nat) (g : Gh) (ea : Addr) (h : BufAt w b g) (hlt : g.len ≤ g.off) (he : w.cell? ⟨0, 0, none⟩ = some (.iface 119 (.pointer (some ea)))) (hbe : b ≠ 0) :
    Calls Tryd.prog 41 #[.pointer (some ⟨b, 0, none⟩)] w fun e w' => e = .returned (.tuple #[.int .i32 0, .int .i64 0, .iface 119 (.pointer (some ea))]) ∧ BufAt w' b g.rs ∧ Fr (Just b) w w' := by
  have H := Lib.hid h
  have HE := Lib.hid he
  clear h he
  go_enter Tryd.func41, Tryd.ntmps41
  go_wp2_with fail
  refine (buf_empty_yes _ b _ H.out hlt).mono ?_
  rintro e w1 ⟨rfl, H1, F1⟩
  go_wp2_with fail
  refine (buf_reset _ b _ H1).mono ?_
  rintro e w2 ⟨rfl, H2, F2⟩
  have hF : Fr (Just b) w w2 := (F1.mono (fun _ _ q => q.elim)).trans F2
  have hE2 := (hF.cell (World.block_lt_of_cell? _ _ HE.out) (fun q => hbe q.symm)).trans HE.out
  have HF := Lib.hid hF
  have HA := Lib.hid H2
  clear H1 F1 H2 F2 hF
  go_wp2_with fail
  go_quiet (fail)
  go_wp2_with fail
  go_ret3
  exact ⟨rfl, HA.out.drewN _, HF.out.drewN _⟩

set_option maxHeartbeats 1600000 in
set_option maxRecDepth 100000 in
theorem buf_readRune_ascii (w : World) (b : Nat) (g : Gh) (x : UInt8) (t : List UInt8) (h : BufAt w b g) (ht : g.txt = x :: t) (hx : x.toNat < 128) :
    Calls Tryd.prog 41 #[.pointer (some ⟨b, 0, none⟩)] w fun e w' => e = .returned (.tuple #[.int .i32 (x.toNat : Int), .int .i64 1, .nilIface]) ∧ BufAt w' b (g.rr 1) ∧ Fr (Just b) w w' := by
  obtain ⟨r, hr, hc, hlt, htl⟩ := h.byte ht
  have hz := h.sz
  have hl := h.lc
  have H := Lib.hid h
  have HC := Lib.hid hc
  have HR := Lib.hid hr
  clear h hc
  go_enter Tryd.func41, Tryd.ntmps41
  go_wp2_with fail
  refine (buf_empty_no _ b _ H.out hlt).mono ?_
  rintro e w1 ⟨rfl, H1, F1⟩
  have k0 := H1.c0
  have k1 := H1.c1
  have k2 := H1.c2
  have e1 := H1.f 1
  have e2 := H1.f 2
  have kc := (F1.cell (World.block_lt_of_cell? _ _ HC.out) (fun q => q)).trans HC.out
  rw [HR.out, rowA_some] at k0
  have HA1 := Lib.hid H1
  have HF1 := Lib.hid F1
  clear H1 F1 hr
  go_wp2_with fail
  go_quiet (fail)
  have hA3 := (HA1.out.drewN nq).off' (g.off + 1) (by omega)
  have q2 := hA3.c2
  have q3 := hA3.f 2
  have HA4 := Lib.hid (hA3.lr0 1)
  have HF2 := Lib.hid (HF1.out.drewN nq)
  clear hA3
  go_wp2_with fail
  go_ret3
  exact ⟨rfl, HA4.out, (((HF2.out.mono (S' := Just b) fun _ _ q => q.elim).setCell (fun _ => just_self b) _).setCell (fun _ => just_self b) _)⟩

set_option maxHeartbeats 1600000 in
set_option maxRecDepth 100000 in
theorem buf_readRune_slow (w : World) (b : Nat) (g : Gh) (x : UInt8) (t : List UInt8) (h : BufAt w b g) (ht : g.txt = x :: t) (hx : 128 ≤ x.toNat) (hT : ∀ w', Fr (fun _ => False) w w' → Lib.Utf8Tabs 6 7 w') :
    Calls Tryd.prog 41 #[.pointer (some ⟨b, 0, none⟩)] w fun e w' => e = .returned (.tuple #[.int .i32 (dec g.txt).1, .int .i64 ((dec g.txt).2 : Int), .nilIface]) ∧ BufAt w' b (g.rr (dec g.txt).2) ∧ Fr (Just b) w w' := by
  obtain ⟨r, hr, hc, hlt, htl⟩ := h.byte ht
  have hz := h.sz
  have hl := h.lc
  have hd := dec_le g.txt (by rw [ht]; simp)
  have hdec : ∀ w', Fr (fun _ => False) w w' → Calls Tryd.prog 62 #[.slice (some ⟨r, g.off, none⟩) (g.len - g.off) (g.all.length - g.off)] w' fun e w'' => e = .returned (.tuple #[.int .i32 (dec g.txt).1, .int .i64 ((dec g.txt).2 : Int)]) ∧ Fr (fun _ => False) w' w'' := by
    intro w' hf
    have hrow := (h.row r hr).fr hf (fun q => q)
    have := decode_row (o := g.off) (c := g.all.length - g.off) (l := g.txt) (hT w' hf) hrow (by rw [htl, Gh.txt_take g _ (by omega), List.take_of_length_le (by omega)]) (by omega) (by rw [ht]; simp)
    rwa [htl] at this
  have hsl := fun w' => slice_from g.row g.len g.all.length g.off (by omega) w'
  have hcut : cutA g.row g.off g.all.length = some ⟨r, g.off, none⟩ := by rw [hr]; exact cutA_some r _ _ (by omega)
  rw [hcut, hr, rowA_some] at hsl
  obtain ⟨D, hD⟩ : ∃ D, (dec g.txt).1 = D := ⟨_, rfl⟩
  obtain ⟨n, hn⟩ : ∃ n, (dec g.txt).2 = n := ⟨_, rfl⟩
  rw [hD, hn] at hdec
  rw [hn] at hd
  rw [hD, hn]
  have H := Lib.hid h
  have HC := Lib.hid hc
  have HR := Lib.hid hr
  have HD := Lib.hid hdec
  clear h hc hD hn hdec hcut
  go_enter Tryd.func41, Tryd.ntmps41
  go_wp2_with fail
  refine (buf_empty_no _ b _ H.out hlt).mono ?_
  rintro e w1 ⟨rfl, H1, F1⟩
  have k0 := H1.c0
  have k1 := H1.c1
  have k2 := H1.c2
  have e1 := H1.f 1
  have e2 := H1.f 2
  have kc := (F1.cell (World.block_lt_of_cell? _ _ HC.out) (fun q => q)).trans HC.out
  rw [HR.out, rowA_some] at k0
  have HA1 := Lib.hid H1
  have HF1 := Lib.hid F1
  clear H1 F1 hr
  go_wp2_with fail
  go_quiet (fail)
  go_wp2_with fail
  have HF2 := Lib.hid ((HF1.out.drewN nq).drew)
  have HA2 := Lib.hid ((HA1.out.drewN nq).drew)
  go_region_held3 (fun w' => w'.cell? ⟨b, 0, none⟩ = some (.slice (some ⟨r, 0, none⟩) g.len g.all.length) ∧ w'.cell? ⟨b, 1, none⟩ = some (.int .i64 (g.off : Int))) (go_keep) ((go_at_call 62; refine (HD.out _ HF2.out).mono ?_; rintro e w2 ⟨rfl, F3⟩; have A3 := HA2.out.fr F3 (fun _ _ q => q); have d0 := A3.c0; have d1 := A3.c1; have d2 := A3.c2; have g1 := A3.f 1; have g2 := A3.f 2; rw [HR.out, rowA_some] at d0; have HA3 := Lib.hid A3; have HF3 := Lib.hid (HF2.out.trans F3); clear A3 F3))
  have hA4 := HA3.out.off' (g.off + n) (by omega)
  have q2 := hA4.c2
  have q3 := hA4.f 2
  have HA5 := Lib.hid (hA4.lr0 (n : Int))
  clear hA4
  go_wp2_with fail
  go_ret3
  exact ⟨rfl, HA5.out, (((HF3.out.mono (S' := Just b) fun _ _ q => q.elim).setCell (fun _ => just_self b) _).setCell (fun _ => just_self b) _)⟩

theorem buf_readRune_some (w : World) (b : Nat) (g : Gh) (h : BufAt w b g) (ht : g.txt ≠ []) (hT : ∀ w', Fr (fun _ => False) w w' → Lib.Utf8Tabs 6 7 w') :
    Calls Tryd.prog 41 #[.pointer (some ⟨b, 0, none⟩)] w fun e w' => e = .returned (.tuple #[.int .i32 (dec g.txt).1, .int .i64 ((dec g.txt).2 : Int), .nilIface]) ∧ BufAt w' b (g.rr (dec g.txt).2) ∧ Fr (Just b) w w' := by
  cases hx : g.txt with
  | nil => exact absurd hx ht
  | cons x t =>
    by_cases h8 : x.toNat < 128
    · rw [dec_ascii x t h8]
      exact buf_readRune_ascii w b g x t h hx h8
    · rw [← hx]
      exact buf_readRune_slow w b g x t h hx (by omega) hT
end Go.Proofs.YtimigjjokdnfbaaDoor
