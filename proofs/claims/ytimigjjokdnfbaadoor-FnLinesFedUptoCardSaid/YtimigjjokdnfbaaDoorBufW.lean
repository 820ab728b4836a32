/- (*bytes.Buffer).Grow, WriteString, Write, WriteByte. -/
import Derived.Test.YtimigjjokdnfbaaDoorGrowB
namespace Go.Proofs.YtimigjjokdnfbaaDoor
open Go Go.RowKit

/-- What a write of l leaves. -/
structure Wrote (g : Gh) (l : List UInt8) (g' : Gh) : Prop where
  txt : g'.txt = g.txt ++ l
  lr : g'.lr = 0
  len : g'.len ≤ g.len + l.length
  cap : g.len + l.length ≤ g.all.length → g'.all.length = g.all.length
/-- What Grow leaves. -/
structure Grew (g : Gh) (n : Nat) (g' : Gh) : Prop where
  txt : g'.txt = g.txt
  len : g'.len ≤ g.len
  room : g'.len + n ≤ g'.all.length
  cap : g.len + n ≤ g.all.length → g'.all.length = g.all.length

theorem Grown.of_try (g : Gh) (n : Nat) (h : g.off ≤ g.len) : Grown g n g.len { g with len := g.len + n } :=
  ⟨rfl, h, Nat.le_refl _, rfl, .inl rfl, fun _ => rfl⟩

/-- copy of no byte. -/
theorem run_copy_none {P : Program} {w : World} {dT sT ty E : TypeId} {i : TypeInfo} {D : Option Addr} {n c : Nat} {v : Value} {l : List UInt8} (hu : P.underlying dT = some (.slice E)) (hi : P.info? E = some i) (hs1 : i.size = 1)
    (hsrc : Src w v l) (hk : Nat.min l.length n = 0) : (Builtin.copy_ #[dT, sT] ty #[.slice D n c, v]).run P w = .ok (.int .i64 0) w := by
  have hlen := run_lenOf_src (P := P) hsrc
  have hf := run_firstCells_src (P := P) hsrc 0 (Nat.zero_le _)
  cases D <;> simp [Builtin.copy_, run_underlying hu, sizeOf, typeInfo, hi, hs1, hlen, hk, hf, storeCells, bcs, goInt]

theorem splice_txt (all l : List UInt8) (off i : Nat) (ho : off ≤ i) (hi : i + l.length ≤ all.length) : ((splice all i l).take (i + l.length)).drop off = (all.take i).drop off ++ l := by
  have h1 : (splice all i l).take (i + l.length) = all.take i ++ l := by
    unfold splice
    rw [← List.append_assoc, List.take_append_of_le_length (by simp; omega), List.take_of_length_le (by simp; omega)]
  rw [h1, List.drop_append_of_le_length (by simp; omega)]

section
variable {w : World} {ops : Array Oper} {rest : List Oper} {o : Oper} {a : Act} {Q : Exit → Act → World → Prop}
/-- The last step of a write: l goes behind the place i of the buffer. -/
theorem wpList_put (hgd : o.guard = none) (d s : Operand) (sT : TypeId) (ho : o.op = .call { callee := .builtin .copy, args := #[d, s], argTypes := #[52, sT] })
    (b : Nat) (g : Gh) (n i dl dc : Nat) (l : List UInt8) (v : Value) (h : BufAt w b g) (hlen : g.len = i + n) (hl : l.length = n)
    (hd : a.eval d = .slice (cutA g.row i g.all.length) dl dc) (hdl : n ≤ dl) (hs : a.eval s = v) (hsrc : Src w v l)
    (hK : ∀ w', BufAt w' b { g with all := splice g.all i l } → Fr (fun x => g.row = some x) w w' → wpList Tryd.prog ops Q rest (a.put o.dst (.int .i64 (n : Int))) w') : wpList Tryd.prog ops Q (o :: rest) a w := by
  have hlc := h.lc
  rcases Nat.eq_zero_or_pos n with h0 | h0
  · obtain rfl : l = [] := List.eq_nil_of_length_eq_zero (by omega)
    obtain ⟨i0, hi, hz0, hz1, hz2⟩ := info_parts info_u8
    refine wpList_plain hgd fun K hK' => wp_copy_of_run d s _ sT ho hd hs (run_copy_none Tryd.underlying52 hi hz1 hsrc (by simp)) (hK' _ _ ?_)
    have := hK w (by simpa [splice] using h) (Fr.refl _ _)
    simpa [h0] using this
  · cases hr : g.row with
    | none => have := h.nil hr; rw [this] at hlc; simp at hlc; omega
    | some r =>
      refine wpList_copy8 hgd d s sT ho r i dl dc n g.all l _ v hd hs (h.row r hr) hsrc (by rw [hl]; exact Nat.min_eq_left (by omega)) (fun q => by rw [hr]; exact cutA_some r i _ (by omega)) (by omega) ?_
      intro w' hrow hfr
      rw [List.take_of_length_le (by omega)] at hrow
      refine hK w' ⟨BufRaw.putAll h.toBufRaw hr hfr hrow (length_splice _ _ _ (by omega)), h.ol, ?_⟩ (hfr.mono fun x _ q => by rw [hr, q])
      simp only
      rw [length_splice _ _ _ (by omega)]
      exact hlc
end

theorem BufStep.put {w w' : World} {b : Nat} {g : Gh} {all : List UInt8} (h : BufAt w' b { g with all := all }) (hf : Fr (fun x => g.row = some x) w w') : BufStep w b g w' { g with all := all } :=
  ⟨h, .inl rfl, hf.mono fun _ _ q => .inr q⟩
theorem BufAt.lr0 {w : World} {b : Nat} {g : Gh} (h : BufAt w b g) (n : Int) : BufAt (w.setCell ⟨b, 2, none⟩ (.int .i8 n)) b { g with lr := n } := ⟨h.toBufRaw.put2 n, h.ol, h.lc⟩
theorem BufStep.lr0 {w : World} {b : Nat} {g : Gh} (h : BufAt w b g) (n : Int) : BufStep w b g (w.setCell ⟨b, 2, none⟩ (.int .i8 n)) { g with lr := n } :=
  BufStep.of_just (h.lr0 n) rfl ((Fr.refl _ w).setCell (fun _ => just_self b) _)
theorem Wrote.of_grown {g g1 : Gh} {l : List UInt8} {i : Nat} (h : Grown { g with lr := 0 } l.length i g1) (hc : g1.len ≤ g1.all.length) : Wrote g l { g1 with all := splice g1.all i l } := by
  have h1 := h.len
  refine ⟨?_, ?_, ?_, fun q => ?_⟩
  · simp only [Gh.txt]
    rw [h1, splice_txt _ _ _ _ h.off (by omega)]
    have := h.txt
    simp only [Gh.txt] at this
    rw [this]
  · rcases h.lr with e | e <;> exact e
  · have := h.le
    simp only at this ⊢
    omega
  · simp only
    rw [length_splice _ _ _ (by omega)]
    exact h.cap q
/-- A source of bytes stands when the struct's block is written. -/
theorem Src.struct {w w' : World} {b : Nat} {g : Gh} {v : Value} {l : List UInt8} (h : Src w v l) (hb : BufRaw w b g) (hf : Fr (Just b) w w') : Src w' v l := by
  refine h.fr hf fun i c E fz q hc j x hj => ?_
  obtain rfl : i = b := q
  rw [hb.st] at hc
  injection hc with hc
  injection hc with hc
  subst hc
  match j, hj with
  | 0, hj => simp at hj
  | 1, hj => simp at hj
  | 2, hj => simp at hj
  | j + 3, hj => simp at hj


set_option maxHeartbeats 1600000 in
set_option maxRecDepth 100000 in
/-- Grow of a number that is not negative. -/
theorem buf_grow (n : Nat) (w : World) (b : Nat) (g : Gh) (h : BufAt w b g) (hb : g.txt.length + n ≤ 1099511627776) :
    Calls Tryd.prog 51 #[.pointer (some ⟨b, 0, none⟩), .int .i64 (n : Int)] w fun e w' => ∃ g', e = .returned (.tuple #[]) ∧ BufStep w b g w' g' ∧ Grew g n g' := by
  have H := Lib.hid h
  have HB := Lib.hid hb
  clear h hb
  go_enter Tryd.func51, Tryd.ntmps51
  go_wp2_with fail
  refine (grow_any n _ b g H.out HB.out).mono ?_
  rintro e w1 ⟨i, g1, rfl, S1, G1⟩
  have A1 := S1.at'
  have c0 := A1.c0
  have f0 := A1.f 0
  have hz1 := A1.sz
  have hi : i + n ≤ g1.all.length := by have := G1.len; have := A1.lc; omega
  have hA := Lib.hid A1
  clear A1
  go_wp2_with fail
  go_end0
  refine ⟨_, rfl, S1.trans (BufStep.of_just ⟨hA.out.toBufRaw.put0 i, G1.off, ?_⟩ rfl ((Fr.refl _ w1).setCell (fun _ => just_self b) _)), ⟨G1.txt, G1.le, hi, G1.cap⟩⟩
  simp only
  omega
/-- What Write comes to. -/
def bufWPost (w : World) (b : Nat) (g : Gh) (l : List UInt8) (e : Ending) (w' : World) : Prop :=
  ∃ g', e = .returned (.tuple #[.int .i64 (l.length : Int), .nilIface]) ∧ BufStep w b g w' g' ∧ Wrote g l g'
set_option maxHeartbeats 1600000 in
set_option maxRecDepth 100000 in
theorem bufW_room (A : Option Addr) (k c : Nat) (l : List UInt8) (w : World) (b : Nat) (g : Gh) (h : BufAt w b g) (hsrc : Src w (.slice A k c) l) (hn : l.length = k) (hb : k ≤ g.all.length - g.len) :
    Calls Tryd.prog 32 #[.pointer (some ⟨b, 0, none⟩), (.slice A k c)] w (bufWPost w b g l) := by
  have ho := h.ol; have hl := h.lc; have hz := h.sz
  have H := Lib.hid h
  have HS := Lib.hid hsrc
  have HN := Lib.hid hn
  have c2 := h.c2
  have f2 := h.f 2
  clear h hsrc hn
  go_enter Tryd.func32, Tryd.ntmps32
  go_wp2_with fail
  have S1 := BufStep.lr0 H.out 0
  have F1 : Fr (Just b) w (w.setCell ⟨b, 2, none⟩ (.int .i8 0)) := (Fr.refl _ w).setCell (fun _ => just_self b) _
  have HS1 := Lib.hid (HS.out.struct H.out.toBufRaw F1)
  with_reducible refine (buf_try_yes _ b _ _ S1.at' hb).mono ?_
  rintro e w2 ⟨rfl, H2, F2⟩
  have HS2 := Lib.hid (HS1.out.struct S1.at'.toBufRaw F2)
  have S2 := Lib.hid (S1.trans (BufStep.of_just H2 rfl F2))
  have hA2 := Lib.hid H2
  have c0 := H2.c0
  have hsl := fun w' => slice_from g.row (g.len + k) g.all.length g.len (by omega) w'
  clear S1 F1 H2 F2
  simp only at c0
  go_wp2_with (refine wpList_put rfl (.tmp 29) (.tmp 30) _ rfl b _ k g.len _ _ l _ hA2.out rfl HN.out (by rfl) (by omega) (by rfl) HS2.out ?_)
  intro w3 H3 F3
  have S3 := Lib.hid (S2.out.trans (BufStep.put H3 F3))
  have hc3 := H3.lc
  have hw := Wrote.of_grown (l := l) (by have := Grown.of_try { g with lr := 0 } k ho; rwa [← HN.out] at this) (by have := hA2.out.lc; simpa [HN.out] using this)
  have HW := Lib.hid hw
  clear H3 F3 hc3 hw
  go_wp2_with fail
  go_ret2
  refine ⟨_, by rw [HN.out]; rfl, S3.out, ?_⟩
  have := HW.out
  rwa [HN.out] at this
set_option maxHeartbeats 1600000 in
set_option maxRecDepth 100000 in
theorem bufW_grow (A : Option Addr) (k c : Nat) (l : List UInt8) (w : World) (b : Nat) (g : Gh) (h : BufAt w b g) (_hsrc : Src w (.slice A k c) l) (hn : l.length = k) (hb : g.all.length - g.len < k) (hsz : g.txt.length + k ≤ 1099511627776) (hst : ∀ w', Fr (g.foot b) w w' → Src w' (.slice A k c) l) :
    Calls Tryd.prog 32 #[.pointer (some ⟨b, 0, none⟩), (.slice A k c)] w (bufWPost w b g l) := by
  have H := Lib.hid h
  have HT := Lib.hid hst
  have HN := Lib.hid hn
  have HB := Lib.hid hb
  have HZ := Lib.hid hsz
  have c2 := h.c2
  have f2 := h.f 2
  clear h hn hb hsz hst
  go_enter Tryd.func32, Tryd.ntmps32
  go_wp2_with fail
  have S1 := BufStep.lr0 H.out 0
  with_reducible refine (buf_try_no _ b _ _ S1.at' HB.out).mono ?_
  rintro e w1 ⟨rfl, rfl⟩
  go_wp2_with fail
  with_reducible refine (grow_any _ _ b _ S1.at' HZ.out).mono ?_
  rintro e w2 ⟨i, g2, rfl, S2, G2⟩
  have hA2 := Lib.hid S2.at'
  have c0 := S2.at'.c0
  have hi := G2.len
  have hlc := S2.at'.lc
  have hi' : i + k ≤ g2.len := by omega
  have hoi := G2.off
  have hz2 := S2.at'.sz
  have hsl := fun w' => slice_from g2.row g2.len g2.all.length i (by omega) w'
  have S12 := Lib.hid (S1.trans S2)
  have HS2 := Lib.hid (HT.out _ S12.out.fr)
  have HG := Lib.hid G2
  have HI := Lib.hid hi
  clear S1 S2 G2 hi
  go_wp2_with (refine wpList_put rfl (.tmp 29) (.tmp 30) _ rfl b _ k i _ _ l _ hA2.out HI.out HN.out (by rfl) (by omega) (by rfl) HS2.out ?_)
  intro w3 H3 F3
  have S3 := Lib.hid (S12.out.trans (BufStep.put H3 F3))
  have hw := Wrote.of_grown (l := l) (by have := HG.out; rwa [← HN.out] at this) hlc
  have HW := Lib.hid hw
  clear H3 F3 hw
  go_wp2_with fail
  go_ret2
  exact ⟨_, by rw [HN.out]; rfl, S3.out, HW.out⟩
/-- Write. -/
theorem bufW (A : Option Addr) (k c : Nat) (l : List UInt8) (w : World) (b : Nat) (g : Gh) (h : BufAt w b g) (hsrc : Src w (.slice A k c) l) (hn : l.length = k) (hsz : g.txt.length + k ≤ 1099511627776) (hst : g.all.length - g.len < k → ∀ w', Fr (g.foot b) w w' → Src w' (.slice A k c) l) :
    Calls Tryd.prog 32 #[.pointer (some ⟨b, 0, none⟩), (.slice A k c)] w (bufWPost w b g l) := by
  by_cases hb : k ≤ g.all.length - g.len
  · exact bufW_room A k c l w b g h hsrc hn hb
  · exact bufW_grow A k c l w b g h hsrc hn (by omega) hsz (hst (by omega))
/-- What WriteString comes to. -/
def bufWSPost (w : World) (b : Nat) (g : Gh) (l : List UInt8) (e : Ending) (w' : World) : Prop :=
  ∃ g', e = .returned (.tuple #[.int .i64 (l.length : Int), .nilIface]) ∧ BufStep w b g w' g' ∧ Wrote g l g'
set_option maxHeartbeats 1600000 in
set_option maxRecDepth 100000 in
theorem bufWS_room  (l : List UInt8) (w : World) (b : Nat) (g : Gh) (h : BufAt w b g) (hsrc : Src w (.string ⟨l.toArray⟩) l) (hb : l.length ≤ g.all.length - g.len) :
    Calls Tryd.prog 21 #[.pointer (some ⟨b, 0, none⟩), (.string ⟨l.toArray⟩)] w (bufWSPost w b g l) := by
  have ho := h.ol; have hl := h.lc; have hz := h.sz
  have H := Lib.hid h
  have HS := Lib.hid hsrc
  have c2 := h.c2
  have f2 := h.f 2
  clear h hsrc
  go_enter Tryd.func21, Tryd.ntmps21
  go_wp2_with fail
  have S1 := BufStep.lr0 H.out 0
  have F1 : Fr (Just b) w (w.setCell ⟨b, 2, none⟩ (.int .i8 0)) := (Fr.refl _ w).setCell (fun _ => just_self b) _
  have HS1 := Lib.hid (HS.out.struct H.out.toBufRaw F1)
  with_reducible refine (buf_try_yes _ b _ _ S1.at' hb).mono ?_
  rintro e w2 ⟨rfl, H2, F2⟩
  have HS2 := Lib.hid (HS1.out.struct S1.at'.toBufRaw F2)
  have S2 := Lib.hid (S1.trans (BufStep.of_just H2 rfl F2))
  have hA2 := Lib.hid H2
  have c0 := H2.c0
  have hsl := fun w' => slice_from g.row (g.len + l.length) g.all.length g.len (by omega) w'
  clear S1 F1 H2 F2
  simp only at c0
  go_wp2_with (refine wpList_put rfl (.tmp 29) (.tmp 30) _ rfl b _ l.length g.len _ _ l _ hA2.out rfl rfl (by rfl) (by omega) (by rfl) HS2.out ?_)
  intro w3 H3 F3
  have S3 := Lib.hid (S2.out.trans (BufStep.put H3 F3))
  have hc3 := H3.lc
  have hw := Wrote.of_grown (l := l) (by have := Grown.of_try { g with lr := 0 } l.length ho; exact this) (by have := hA2.out.lc; exact this)
  have HW := Lib.hid hw
  clear H3 F3 hc3 hw
  go_wp2_with fail
  go_ret2
  refine ⟨_, rfl, S3.out, ?_⟩
  exact HW.out
set_option maxHeartbeats 1600000 in
set_option maxRecDepth 100000 in
theorem bufWS_grow  (l : List UInt8) (w : World) (b : Nat) (g : Gh) (h : BufAt w b g) (_hsrc : Src w (.string ⟨l.toArray⟩) l) (hb : g.all.length - g.len < l.length) (hsz : g.txt.length + l.length ≤ 1099511627776) (hst : ∀ w', Fr (g.foot b) w w' → Src w' (.string ⟨l.toArray⟩) l) :
    Calls Tryd.prog 21 #[.pointer (some ⟨b, 0, none⟩), (.string ⟨l.toArray⟩)] w (bufWSPost w b g l) := by
  have H := Lib.hid h
  have HT := Lib.hid hst
  have HB := Lib.hid hb
  have HZ := Lib.hid hsz
  have c2 := h.c2
  have f2 := h.f 2
  clear h hb hsz hst
  go_enter Tryd.func21, Tryd.ntmps21
  go_wp2_with fail
  have S1 := BufStep.lr0 H.out 0
  with_reducible refine (buf_try_no _ b _ _ S1.at' HB.out).mono ?_
  rintro e w1 ⟨rfl, rfl⟩
  go_wp2_with fail
  with_reducible refine (grow_any _ _ b _ S1.at' HZ.out).mono ?_
  rintro e w2 ⟨i, g2, rfl, S2, G2⟩
  have hA2 := Lib.hid S2.at'
  have c0 := S2.at'.c0
  have hi := G2.len
  have hlc := S2.at'.lc
  have hi' : i + l.length ≤ g2.len := by omega
  have hoi := G2.off
  have hz2 := S2.at'.sz
  have hsl := fun w' => slice_from g2.row g2.len g2.all.length i (by omega) w'
  have S12 := Lib.hid (S1.trans S2)
  have HS2 := Lib.hid (HT.out _ S12.out.fr)
  have HG := Lib.hid G2
  have HI := Lib.hid hi
  clear S1 S2 G2 hi
  go_wp2_with (refine wpList_put rfl (.tmp 29) (.tmp 30) _ rfl b _ l.length i _ _ l _ hA2.out HI.out rfl (by rfl) (by omega) (by rfl) HS2.out ?_)
  intro w3 H3 F3
  have S3 := Lib.hid (S12.out.trans (BufStep.put H3 F3))
  have hw := Wrote.of_grown (l := l) (by have := HG.out; exact this) hlc
  have HW := Lib.hid hw
  clear H3 F3 hw
  go_wp2_with fail
  go_ret2
  exact ⟨_, rfl, S3.out, HW.out⟩
/-- WriteString. -/
theorem bufWS  (l : List UInt8) (w : World) (b : Nat) (g : Gh) (h : BufAt w b g) (hsrc : Src w (.string ⟨l.toArray⟩) l) (hsz : g.txt.length + l.length ≤ 1099511627776) (hst : g.all.length - g.len < l.length → ∀ w', Fr (g.foot b) w w' → Src w' (.string ⟨l.toArray⟩) l) :
    Calls Tryd.prog 21 #[.pointer (some ⟨b, 0, none⟩), (.string ⟨l.toArray⟩)] w (bufWSPost w b g l) := by
  by_cases hb : l.length ≤ g.all.length - g.len
  · exact bufWS_room  l w b g h hsrc hb
  · exact bufWS_grow  l w b g h hsrc (by omega) hsz (hst (by omega))
end Go.Proofs.YtimigjjokdnfbaaDoor
