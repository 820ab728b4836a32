/- BufW, BufR, BufD. -/
import Derived.Test.YtkggebhkjgjijaaGreatDoorQ04
import Derived.Laws.BytesString
namespace Go.Proofs.YtkggebhkjgjijaaGreatDoor
open Go Go.RowKit

/-- What a write of l leaves. -/
structure Wrote (g : Gh) (l : List UInt8) (g' : Gh) : Prop where
  txt : g'.txt = g.txt ++ l
  lr : g'.lr = 0
  len : g'.len ≤ g.len + l.length
  cap : g.len + l.length ≤ g.all.length → g'.all.length = g.all.length
/-- What Grow leaves. -/
structure Grew (g : Gh) (n : Nat) (g' : Gh) : Prop where
  txt : g'.txt = g.txt
  len : g'.len ≤ g.len
  room : g'.len + n ≤ g'.all.length
  cap : g.len + n ≤ g.all.length → g'.all.length = g.all.length

theorem Grown.of_try (g : Gh) (n : Nat) (h : g.off ≤ g.len) : Grown g n g.len { g with len := g.len + n } :=
  ⟨rfl, h, Nat.le_refl _, rfl, .inl rfl, fun _ => rfl⟩

/-- copy of no byte. -/
theorem run_copy_none {P : Program} {w : World} {dT sT ty E : TypeId} {i : TypeInfo} {D : Option Addr} {n c : Nat} {v : Value} {l : List UInt8} (hu : P.underlying dT = some (.slice E)) (hi : P.info? E = some i) (hs1 : i.size = 1)
    (hsrc : Src w v l) (hk : Nat.min l.length n = 0) : (Builtin.copy_ #[dT, sT] ty #[.slice D n c, v]).run P w = .ok (.int .i64 0) w := by
  have hlen := run_lenOf_src (P := P) hsrc
  have hf := run_firstCells_src (P := P) hsrc 0 (Nat.zero_le _)
  cases D <;> simp [Builtin.copy_, run_underlying hu, sizeOf, typeInfo, hi, hs1, hlen, hk, hf, storeCells, bcs, goInt]

theorem splice_txt (all l : List UInt8) (off i : Nat) (ho : off ≤ i) (hi : i + l.length ≤ all.length) : ((splice all i l).take (i + l.length)).drop off = (all.take i).drop off ++ l := by
  have h1 : (splice all i l).take (i + l.length) = all.take i ++ l := by
    unfold splice
    rw [← List.append_assoc, List.take_append_of_le_length (by simp; omega), List.take_of_length_le (by simp; omega)]
  rw [h1, List.drop_append_of_le_length (by simp; omega)]

section
variable {w : World} {ops : Array Oper} {rest : List Oper} {o : Oper} {a : Act} {Q : Exit → Act → World → Prop}
/-- The last step of a write: l goes behind the place i of the buffer. -/
theorem wpList_put (hgd : o.guard = none) (d s : Operand) (sT : TypeId) (ho : o.op = .call { callee := .builtin .copy, args := #[d, s], argTypes := #[48, sT] })
    (b : Nat) (g : Gh) (n i dl dc : Nat) (l : List UInt8) (v : Value) (h : BufAt w b g) (hlen : g.len = i + n) (hl : l.length = n)
    (hd : a.eval d = .slice (cutA g.row i g.all.length) dl dc) (hdl : n ≤ dl) (hs : a.eval s = v) (hsrc : Src w v l)
    (hK : ∀ w', BufAt w' b { g with all := splice g.all i l } → Fr (fun x => g.row = some x) w w' → wpList Tryz.prog ops Q rest (a.put o.dst (.int .i64 (n : Int))) w') : wpList Tryz.prog ops Q (o :: rest) a w := by
  have hlc := h.lc
  rcases Nat.eq_zero_or_pos n with h0 | h0
  · obtain rfl : l = [] := List.eq_nil_of_length_eq_zero (by omega)
    obtain ⟨i0, hi, hz0, hz1, hz2⟩ := info_parts info_u8
    refine wpList_plain hgd fun K hK' => wp_copy_of_run d s _ sT ho hd hs (run_copy_none Tryz.underlying48 hi hz1 hsrc (by simp)) (hK' _ _ ?_)
    have := hK w (by simpa [splice] using h) (Fr.refl _ _)
    simpa [h0] using this
  · cases hr : g.row with
    | none => have := h.nil hr; rw [this] at hlc; simp at hlc; omega
    | some r =>
      refine wpList_copy8 hgd d s sT ho r i dl dc n g.all l _ v hd hs (h.row r hr) hsrc (by rw [hl]; exact Nat.min_eq_left (by omega)) (fun q => by rw [hr]; exact cutA_some r i _ (by omega)) (by omega) ?_
      intro w' hrow hfr
      rw [List.take_of_length_le (by omega)] at hrow
      refine hK w' ⟨BufRaw.putAll h.toBufRaw hr hfr hrow (length_splice _ _ _ (by omega)), h.ol, ?_⟩ (hfr.mono fun x _ q => by rw [hr, q])
      simp only
      rw [length_splice _ _ _ (by omega)]
      exact hlc
end

theorem BufStep.put {w w' : World} {b : Nat} {g : Gh} {all : List UInt8} (h : BufAt w' b { g with all := all }) (hf : Fr (fun x => g.row = some x) w w') : BufStep w b g w' { g with all := all } :=
  ⟨h, .inl rfl, hf.mono fun _ _ q => .inr q⟩
theorem BufAt.lr0 {w : World} {b : Nat} {g : Gh} (h : BufAt w b g) (n : Int) : BufAt (w.setCell ⟨b, 2, none⟩ (.int .i8 n)) b { g with lr := n } := ⟨h.toBufRaw.put2 n, h.ol, h.lc⟩
theorem BufStep.lr0 {w : World} {b : Nat} {g : Gh} (h : BufAt w b g) (n : Int) : BufStep w b g (w.setCell ⟨b, 2, none⟩ (.int .i8 n)) { g with lr := n } :=
  BufStep.of_just (h.lr0 n) rfl ((Fr.refl _ w).setCell (fun _ => just_self b) _)
theorem Wrote.of_grown {g g1 : Gh} {l : List UInt8} {i : Nat} (h : Grown { g with lr := 0 } l.length i g1) (hc : g1.len ≤ g1.all.length) : Wrote g l { g1 with all := splice g1.all i l } := by
  have h1 := h.len
  refine ⟨?_, ?_, ?_, fun q => ?_⟩
  · simp only [Gh.txt]
    rw [h1, splice_txt _ _ _ _ h.off (by omega)]
    have := h.txt
    simp only [Gh.txt] at this
    rw [this]
  · rcases h.lr with e | e <;> exact e
  · have := h.le
    simp only at this ⊢
    omega
  · simp only
    rw [length_splice _ _ _ (by omega)]
    exact h.cap q
/-- A source of bytes stands when the struct's block is written. -/
theorem Src.struct {w w' : World} {b : Nat} {g : Gh} {v : Value} {l : List UInt8} (h : Src w v l) (hb : BufRaw w b g) (hf : Fr (Just b) w w') : Src w' v l := by
  refine h.fr hf fun i c E fz q hc j x hj => ?_
  obtain rfl : i = b := q
  rw [hb.st] at hc
  injection hc with hc
  injection hc with hc
  subst hc
  match j, hj with
  | 0, hj => simp at hj
  | 1, hj => simp at hj
  | 2, hj => simp at hj
  | j + 3, hj => simp at hj


set_option maxHeartbeats 1600000 in
set_option maxRecDepth 100000 in
/-- Grow of a number that is not negative. -/
theorem buf_grow (n : Nat) (w : World) (b : Nat) (g : Gh) (h : BufAt w b g) (hb : g.txt.length + n ≤ 1099511627776) :
    Calls Tryz.prog 66 #[.pointer (some ⟨b, 0, none⟩), .int .i64 (n : Int)] w fun e w' => ∃ g', e = .returned (.tuple #[]) ∧ BufStep w b g w' g' ∧ Grew g n g' := by
  have H := Lib.hid h
  have HB := Lib.hid hb
  clear h hb
  go_enter Tryz.func66, Tryz.ntmps66
  go_wp2_with fail
  refine (grow_any n _ b g H.out HB.out).mono ?_
  rintro e w1 ⟨i, g1, rfl, S1, G1⟩
  have A1 := S1.at'
  have c0 := A1.c0
  have f0 := A1.f 0
  have hz1 := A1.sz
  have hi : i + n ≤ g1.all.length := by have := G1.len; have := A1.lc; omega
  have hA := Lib.hid A1
  clear A1
  go_wp2_with fail
  go_end0
  refine ⟨_, rfl, S1.trans (BufStep.of_just ⟨hA.out.toBufRaw.put0 i, G1.off, ?_⟩ rfl ((Fr.refl _ w1).setCell (fun _ => just_self b) _)), ⟨G1.txt, G1.le, hi, G1.cap⟩⟩
  simp only
  omega
/-- What Write comes to. -/
def bufWPost (w : World) (b : Nat) (g : Gh) (l : List UInt8) (e : Ending) (w' : World) : Prop :=
  ∃ g', e = .returned (.tuple #[.int .i64 (l.length : Int), .nilIface]) ∧ BufStep w b g w' g' ∧ Wrote g l g'
set_option maxHeartbeats 1600000 in
set_option maxRecDepth 100000 in
theorem bufW_room (A : Option Addr) (k c : Nat) (l : List UInt8) (w : World) (b : Nat) (g : Gh) (h : BufAt w b g) (hsrc : Src w (.slice A k c) l) (hn : l.length = k) (hb : k ≤ g.all.length - g.len) :
    Calls Tryz.prog 47 #[.pointer (some ⟨b, 0, none⟩), (.slice A k c)] w (bufWPost w b g l) := by
  have ho := h.ol; have hl := h.lc; have hz := h.sz
  have H := Lib.hid h
  have HS := Lib.hid hsrc
  have HN := Lib.hid hn
  have c2 := h.c2
  have f2 := h.f 2
  clear h hsrc hn
  go_enter Tryz.func47, Tryz.ntmps47
  go_wp2_with fail
  have S1 := BufStep.lr0 H.out 0
  have F1 : Fr (Just b) w (w.setCell ⟨b, 2, none⟩ (.int .i8 0)) := (Fr.refl _ w).setCell (fun _ => just_self b) _
  have HS1 := Lib.hid (HS.out.struct H.out.toBufRaw F1)
  with_reducible refine (buf_try_yes _ b _ _ S1.at' hb).mono ?_
  rintro e w2 ⟨rfl, H2, F2⟩
  have HS2 := Lib.hid (HS1.out.struct S1.at'.toBufRaw F2)
  have S2 := Lib.hid (S1.trans (BufStep.of_just H2 rfl F2))
  have hA2 := Lib.hid H2
  have c0 := H2.c0
  have hsl := fun w' => slice_from g.row (g.len + k) g.all.length g.len (by omega) w'
  clear S1 F1 H2 F2
  simp only at c0
  go_wp2_with (refine wpList_put rfl (.tmp 29) (.tmp 30) _ rfl b _ k g.len _ _ l _ hA2.out rfl HN.out (by rfl) (by omega) (by rfl) HS2.out ?_)
  intro w3 H3 F3
  have S3 := Lib.hid (S2.out.trans (BufStep.put H3 F3))
  have hc3 := H3.lc
  have hw := Wrote.of_grown (l := l) (by have := Grown.of_try { g with lr := 0 } k ho; rwa [← HN.out] at this) (by have := hA2.out.lc; simpa [HN.out] using this)
  have HW := Lib.hid hw
  clear H3 F3 hc3 hw
  go_wp2_with fail
  go_ret2
  refine ⟨_, by rw [HN.out]; rfl, S3.out, ?_⟩
  have := HW.out
  rwa [HN.out] at this
set_option maxHeartbeats 1600000 in
set_option maxRecDepth 100000 in
theorem bufW_grow (A : Option Addr) (k c : Nat) (l : List UInt8) (w : World) (b : Nat) (g : Gh) (h : BufAt w b g) (_hsrc : Src w (.slice A k c) l) (hn : l.length = k) (hb : g.all.length - g.len < k) (hsz : g.txt.length + k ≤ 1099511627776) (hst : ∀ w', Fr (g.foot b) w w' → Src w' (.slice A k c) l) :
    Calls Tryz.prog 47 #[.pointer (some ⟨b, 0, none⟩), (.slice A k c)] w (bufWPost w b g l) := by
  have H := Lib.hid h
  have HT := Lib.hid hst
  have HN := Lib.hid hn
  have HB := Lib.hid hb
  have HZ := Lib.hid hsz
  have c2 := h.c2
  have f2 := h.f 2
  clear h hn hb hsz hst
  go_enter Tryz.func47, Tryz.ntmps47
  go_wp2_with fail
  have S1 := BufStep.lr0 H.out 0
  with_reducible refine (buf_try_no _ b _ _ S1.at' HB.out).mono ?_
  rintro e w1 ⟨rfl, rfl⟩
  go_wp2_with fail
  with_reducible refine (grow_any _ _ b _ S1.at' HZ.out).mono ?_
  rintro e w2 ⟨i, g2, rfl, S2, G2⟩
  have hA2 := Lib.hid S2.at'
  have c0 := S2.at'.c0
  have hi := G2.len
  have hlc := S2.at'.lc
  have hi' : i + k ≤ g2.len := by omega
  have hoi := G2.off
  have hz2 := S2.at'.sz
  have hsl := fun w' => slice_from g2.row g2.len g2.all.length i (by omega) w'
  have S12 := Lib.hid (S1.trans S2)
  have HS2 := Lib.hid (HT.out _ S12.out.fr)
  have HG := Lib.hid G2
  have HI := Lib.hid hi
  clear S1 S2 G2 hi
  go_wp2_with (refine wpList_put rfl (.tmp 29) (.tmp 30) _ rfl b _ k i _ _ l _ hA2.out HI.out HN.out (by rfl) (by omega) (by rfl) HS2.out ?_)
  intro w3 H3 F3
  have S3 := Lib.hid (S12.out.trans (BufStep.put H3 F3))
  have hw := Wrote.of_grown (l := l) (by have := HG.out; rwa [← HN.out] at this) hlc
  have HW := Lib.hid hw
  clear H3 F3 hw
  go_wp2_with fail
  go_ret2
  exact ⟨_, by rw [HN.out]; rfl, S3.out, HW.out⟩
/-- Write. -/
theorem bufW (A : Option Addr) (k c : Nat) (l : List UInt8) (w : World) (b : Nat) (g : Gh) (h : BufAt w b g) (hsrc : Src w (.slice A k c) l) (hn : l.length = k) (hsz : g.txt.length + k ≤ 1099511627776) (hst : g.all.length - g.len < k → ∀ w', Fr (g.foot b) w w' → Src w' (.slice A k c) l) :
    Calls Tryz.prog 47 #[.pointer (some ⟨b, 0, none⟩), (.slice A k c)] w (bufWPost w b g l) := by
  by_cases hb : k ≤ g.all.length - g.len
  · exact bufW_room A k c l w b g h hsrc hn hb
  · exact bufW_grow A k c l w b g h hsrc hn (by omega) hsz (hst (by omega))
/-- What WriteString comes to. -/
def bufWSPost (w : World) (b : Nat) (g : Gh) (l : List UInt8) (e : Ending) (w' : World) : Prop :=
  ∃ g', e = .returned (.tuple #[.int .i64 (l.length : Int), .nilIface]) ∧ BufStep w b g w' g' ∧ Wrote g l g'
set_option maxHeartbeats 1600000 in
set_option maxRecDepth 100000 in
theorem bufWS_room  (l : List UInt8) (w : World) (b : Nat) (g : Gh) (h : BufAt w b g) (hsrc : Src w (.string ⟨l.toArray⟩) l) (hb : l.length ≤ g.all.length - g.len) :
    Calls Tryz.prog 36 #[.pointer (some ⟨b, 0, none⟩), (.string ⟨l.toArray⟩)] w (bufWSPost w b g l) := by
  have ho := h.ol; have hl := h.lc; have hz := h.sz
  have H := Lib.hid h
  have HS := Lib.hid hsrc
  have c2 := h.c2
  have f2 := h.f 2
  clear h hsrc
  go_enter Tryz.func36, Tryz.ntmps36
  go_wp2_with fail
  have S1 := BufStep.lr0 H.out 0
  have F1 : Fr (Just b) w (w.setCell ⟨b, 2, none⟩ (.int .i8 0)) := (Fr.refl _ w).setCell (fun _ => just_self b) _
  have HS1 := Lib.hid (HS.out.struct H.out.toBufRaw F1)
  with_reducible refine (buf_try_yes _ b _ _ S1.at' hb).mono ?_
  rintro e w2 ⟨rfl, H2, F2⟩
  have HS2 := Lib.hid (HS1.out.struct S1.at'.toBufRaw F2)
  have S2 := Lib.hid (S1.trans (BufStep.of_just H2 rfl F2))
  have hA2 := Lib.hid H2
  have c0 := H2.c0
  have hsl := fun w' => slice_from g.row (g.len + l.length) g.all.length g.len (by omega) w'
  clear S1 F1 H2 F2
  simp only at c0
  go_wp2_with (refine wpList_put rfl (.tmp 29) (.tmp 30) _ rfl b _ l.length g.len _ _ l _ hA2.out rfl rfl (by rfl) (by omega) (by rfl) HS2.out ?_)
  intro w3 H3 F3
  have S3 := Lib.hid (S2.out.trans (BufStep.put H3 F3))
  have hc3 := H3.lc
  have hw := Wrote.of_grown (l := l) (by have := Grown.of_try { g with lr := 0 } l.length ho; exact this) (by have := hA2.out.lc; exact this)
  have HW := Lib.hid hw
  clear H3 F3 hc3 hw
  go_wp2_with fail
  go_ret2
  refine ⟨_, rfl, S3.out, ?_⟩
  exact HW.out
set_option maxHeartbeats 1600000 in
set_option maxRecDepth 100000 in
theorem bufWS_grow  (l : List UInt8) (w : World) (b : Nat) (g : Gh) (h : BufAt w b g) (_hsrc : Src w (.string ⟨l.toArray⟩) l) (hb : g.all.length - g.len < l.length) (hsz : g.txt.length + l.length ≤ 1099511627776) (hst : ∀ w', Fr (g.foot b) w w' → Src w' (.string ⟨l.toArray⟩) l) :
    Calls Tryz.prog 36 #[.pointer (some ⟨b, 0, none⟩), (.string ⟨l.toArray⟩)] w (bufWSPost w b g l) := by
  have H := Lib.hid h
  have HT := Lib.hid hst
  have HB := Lib.hid hb
  have HZ := Lib.hid hsz
  have c2 := h.c2
  have f2 := h.f 2
  clear h hb hsz hst
  go_enter Tryz.func36, Tryz.ntmps36
  go_wp2_with fail
  have S1 := BufStep.lr0 H.out 0
  with_reducible refine (buf_try_no _ b _ _ S1.at' HB.out).mono ?_
  rintro e w1 ⟨rfl, rfl⟩
  go_wp2_with fail
  with_reducible refine (grow_any _ _ b _ S1.at' HZ.out).mono ?_
  rintro e w2 ⟨i, g2, rfl, S2, G2⟩
  have hA2 := Lib.hid S2.at'
  have c0 := S2.at'.c0
  have hi := G2.len
  have hlc := S2.at'.lc
  have hi' : i + l.length ≤ g2.len := by omega
  have hoi := G2.off
  have hz2 := S2.at'.sz
  have hsl := fun w' => slice_from g2.row g2.len g2.all.length i (by omega) w'
  have S12 := Lib.hid (S1.trans S2)
  have HS2 := Lib.hid (HT.out _ S12.out.fr)
  have HG := Lib.hid G2
  have HI := Lib.hid hi
  clear S1 S2 G2 hi
  go_wp2_with (refine wpList_put rfl (.tmp 29) (.tmp 30) _ rfl b _ l.length i _ _ l _ hA2.out HI.out rfl (by rfl) (by omega) (by rfl) HS2.out ?_)
  intro w3 H3 F3
  have S3 := Lib.hid (S12.out.trans (BufStep.put H3 F3))
  have hw := Wrote.of_grown (l := l) (by have := HG.out; exact this) hlc
  have HW := Lib.hid hw
  clear H3 F3 hw
  go_wp2_with fail
  go_ret2
  exact ⟨_, rfl, S3.out, HW.out⟩
/-- WriteString. -/
theorem bufWS  (l : List UInt8) (w : World) (b : Nat) (g : Gh) (h : BufAt w b g) (hsrc : Src w (.string ⟨l.toArray⟩) l) (hsz : g.txt.length + l.length ≤ 1099511627776) (hst : g.all.length - g.len < l.length → ∀ w', Fr (g.foot b) w w' → Src w' (.string ⟨l.toArray⟩) l) :
    Calls Tryz.prog 36 #[.pointer (some ⟨b, 0, none⟩), (.string ⟨l.toArray⟩)] w (bufWSPost w b g l) := by
  by_cases hb : l.length ≤ g.all.length - g.len
  · exact bufWS_room  l w b g h hsrc hb
  · exact bufWS_grow  l w b g h hsrc (by omega) hsz (hst (by omega))
end Go.Proofs.YtkggebhkjgjijaaGreatDoor

namespace Go.Proofs.YtkggebhkjgjijaaGreatDoor
open Go Go.RowKit

theorem foldl_push (l : List UInt8) : ∀ (s : ByteArray), (l.map fun x => (x.toNat : Int)).foldl (fun r n => r.push (UInt8.ofNat n.toNat)) s = ⟨(s.data.toList ++ l).toArray⟩ := by
  induction l with
  | nil => intro s; simp
  | cons x l ih =>
    intro s
    simp only [List.map_cons, List.foldl_cons, ih]
    simp

/-- string(p) of a slice that reads as l. -/
theorem conv_str {w : World} {A : Option Addr} {n c : Nat} {l : List UInt8} (h : Src w (.slice A n c) l) : (convert 48 9 (.slice A n c)).run Tryz.prog w = .ok (.string ⟨l.toArray⟩) w := by
  rw [run_convert_bytes_string w _ _ 5 A n c Tryz.underlying48 Tryz.underlying5 Tryz.underlying9]
  rcases h with h | ⟨A', c', h, k⟩
  · cases h
  · injection h with h1 h2 h3
    subst h1 h2 h3
    rcases Nat.eq_zero_or_pos l.length with h0 | h0
    · obtain rfl : l = [] := List.eq_nil_of_length_eq_zero h0
      cases A with
      | none => rfl
      | some a =>
        exact run_bytesToString (P := Tryz.prog) w a 0 c [] (by simp [loadCells, loadCellsFrom])
    · obtain ⟨ad, rfl, hc⟩ := k h0
      have hl := run_loadCells_list (P := Tryz.prog) w ad (bcs l) (fun j u hu => by
        have hj : j < l.length := by have := (List.getElem?_eq_some_iff.1 hu).1; simpa using this
        rw [bcs_get_lt l j hj] at hu
        injection hu with hu
        subst hu
        exact hc j _ (List.getElem?_eq_getElem hj))
      rw [bcs_length] at hl
      have e : bcs l = (l.map fun x => (x.toNat : Int)).map (Value.int .u8) := by simp [bcs]
      rw [e] at hl
      rw [run_bytesToString w ad l.length c _ hl, foldl_push]
      simp

theorem Src.unread {w : World} {b : Nat} {g : Gh} (h : BufAt w b g) : Src w (.slice (cutA g.row g.off g.all.length) (g.len - g.off) (g.all.length - g.off)) g.txt := by
  cases hr : g.row with
  | none =>
    have ha := h.nil hr
    have h1 := h.lc
    have h2 := h.ol
    rw [ha] at h1
    simp only [List.length_nil, Nat.le_zero] at h1
    have : g.txt = [] := by simp [Gh.txt, ha]
    rw [this, h1, Nat.zero_sub]
    exact .inr ⟨_, _, rfl, fun q => absurd q (by simp)⟩
  | some r =>
    have := Src.cut (h.row r hr) h.ol h.lc
    simp only [cutA, rowA_some, Option.map_some]
    exact this

set_option maxRecDepth 100000 in
theorem buf_string (w : World) (b : Nat) (g : Gh) (h : BufAt w b g) :
    Calls Tryz.prog 68 #[.pointer (some ⟨b, 0, none⟩)] w fun e w' => e = .returned (.string ⟨g.txt.toArray⟩) ∧ w' = w.drew := by
  have c0 := h.c0; have c1 := h.c1; have ho := h.ol; have hl := h.lc; have hz := h.sz
  have hsl := fun w' => slice_from g.row g.len g.all.length g.off ho w'
  have hcv := conv_str (Src.unread h.drew)
  clear h
  go_enter Tryz.func68, Tryz.ntmps68
  go_wp2_with fail
  refine wp_region_mixed 10 (by kernel_rfl) (by kernel_rfl) (fun _ _ d _ _ h => by cases d <;> exact h) ?_
  simp only [List.take_succ_cons, List.take_zero, List.drop_succ_cons, List.drop_zero, List.filter_cons, List.filter_nil, isMv, Array.isEmpty_iff, Bool.not_false, Bool.and_true, Option.isNone_none, if_true, if_false, Bool.false_eq_true]
  repeat still_step
  refine wpStill_nil ?_
  go_wp2_with fail
  go_ret
  exact ⟨rfl, rfl⟩

/-- A buffer that has been made since w. -/
structure Fresh (w w' : World) (b : Nat) (g : Gh) : Prop where
  at' : BufAt w' b g
  blk : w.heap.size ≤ b
  row : ∀ r, g.row = some r → w.heap.size ≤ r
  fr : Fr (fun _ => False) w w'

/-- []byte(s). -/
theorem conv_bytes (l : List UInt8) (w : World) (hl : l.length ≤ 9223372036854775807) : ∃ (w1 : World) (all : List UInt8), (convert 9 48 (.string ⟨l.toArray⟩)).run Tryz.prog w = .ok (.slice (some ⟨w.heap.size, 0, none⟩) l.length all.length) w1 ∧
    Row 5 w1 w.heap.size all ∧ all.take l.length = l ∧ l.length ≤ all.length ∧ all.length ≤ 9223372036854775807 ∧ Fr (fun _ => False) w w1 ∧ w1.heap.size = w.heap.size + 1 := by
  have h := Lib.run_convert_string_bytes (P := Tryz.prog) w 9 48 5 ⟨l.toArray⟩ Tryz.underlying9 Tryz.underlying48 Tryz.underlying5
  have hsz : (⟨l.toArray⟩ : ByteArray).size = l.length := by simp [ByteArray.size]
  have hge := grownCap_ge w l.length 0 5
  have hle := grownCap_le_maxLen w l.length 0 5 (by unfold maxLen; omega)
  unfold maxLen at hle
  have hcells : Lib.bytesCells w 5 ⟨l.toArray⟩ = (bcs (l ++ List.replicate (grownCap w l.length 0 5 - l.length) 0)).toArray := by
    unfold Lib.bytesCells
    rw [hsz]
    apply Array.ext'
    simp [bcs]
  have hlen : (l ++ List.replicate (grownCap w l.length 0 5 - l.length) (0 : UInt8)).length = grownCap w l.length 0 5 := by simp; omega
  refine ⟨Lib.bytesWorld w 5 ⟨l.toArray⟩, l ++ List.replicate (grownCap w l.length 0 5 - l.length) 0, ?_, ?_, by simp, by simp, by rw [hlen]; omega, ⟨rfl, rfl, rfl, ?_, fun k hk _ => Lib.bytesWorld_at_old w _ _ k hk⟩, Lib.bytesWorld_size w _ _⟩
  · rw [h, hsz, hlen]
  · have := Lib.bytesWorld_at_new w 5 ⟨l.toArray⟩
    rw [hcells] at this
    exact ⟨_, this, .inr (by simp)⟩
  · rw [Lib.bytesWorld_size]; omega

theorem Fresh.new {w w1 : World} {r : Nat} {l : List UInt8} {n : Nat} (hr : Row 5 w1 r l) (hw : w.heap.size ≤ r) (hn : n ≤ l.length) (hl : l.length ≤ 9223372036854775807) (hf : Fr (fun _ => False) w w1) :
    Fresh w (w1.alloc (.cells #[.slice (some ⟨r, 0, none⟩) n l.length, .int .i64 0, .int .i8 0] 84)) w1.heap.size ⟨some r, l, n, 0, 0⟩ := by
  refine ⟨⟨⟨heap_alloc_new w1 _, fun r' hr' => ?_, (fun q => by cases q), hl⟩, Nat.zero_le _, hn⟩, hf.size, fun r' hr' => ?_, hf.alloc _⟩
  · simp only [Option.some.injEq] at hr'
    subst hr'
    exact hr.alloc _
  · simp only [Option.some.injEq] at hr'
    subst hr'
    exact hw

theorem newBufferString (l : List UInt8) (w : World) (hl : l.length ≤ 9223372036854775807) :
    Calls Tryz.prog 37 #[.string ⟨l.toArray⟩] w fun e w' => ∃ b g, e = .returned (.pointer (some ⟨b, 0, none⟩)) ∧ Fresh w w' b g ∧ g.txt = l ∧ g.lr = 0 := by
  obtain ⟨w1, all, hrun, hrow, htk, hla, hlen, hfr, hsz⟩ := conv_bytes l w hl
  have hF := Lib.hid (Fresh.new (n := l.length) hrow (Nat.le_refl _) hla hlen hfr)
  have HT := Lib.hid htk
  clear hrow hfr hsz htk
  go_enter Tryz.func37, Tryz.ntmps37
  go_wp2_with fail
  go_ret
  exact ⟨_, _, rfl, hF.out, by simp [Gh.txt, HT.out], rfl⟩

theorem newBuffer (r n c : Nat) (l : List UInt8) (w w0 : World) (hr : Row 5 w r l) (hc : l.length = c) (hw : w0.heap.size ≤ r) (hn : n ≤ l.length) (hl : l.length ≤ 9223372036854775807) (hf : Fr (fun _ => False) w0 w) :
    Calls Tryz.prog 35 #[.slice (some ⟨r, 0, none⟩) n c] w fun e w' => ∃ b, e = .returned (.pointer (some ⟨b, 0, none⟩)) ∧ Fresh w0 w' b ⟨some r, l, n, 0, 0⟩ ∧ Fr (fun _ => False) w w' := by
  subst hc
  have H := Lib.hid (Fresh.new hr hw hn hl hf)
  clear hr hw hn hl hf
  go_enter Tryz.func35, Tryz.ntmps35
  go_wp2_with fail
  go_ret
  exact ⟨_, rfl, H.out, (Fr.refl _ w).alloc _⟩
end Go.Proofs.YtkggebhkjgjijaaGreatDoor

namespace Go.Proofs.YtkggebhkjgjijaaGreatDoor
open Go Go.RowKit

theorem BufAt.off' {w : World} {b : Nat} {g : Gh} (h : BufAt w b g) (n : Nat) (hn : n ≤ g.len) : BufAt (w.setCell ⟨b, 1, none⟩ (.int .i64 (n : Int))) b { g with off := n } := ⟨h.toBufRaw.put1 n, hn, h.lc⟩
theorem BufAt.len' {w : World} {b : Nat} {g : Gh} (h : BufAt w b g) (n : Nat) (h1 : g.off ≤ n) (h2 : n ≤ g.all.length) : BufAt (w.setCell ⟨b, 0, none⟩ (.slice (rowA g.row) n g.all.length)) b { g with len := n } := ⟨h.toBufRaw.put0 n, h1, h2⟩
theorem just_set (w : World) (b o : Nat) (v : Value) : Fr (Just b) w (w.setCell ⟨b, o, none⟩ v) := (Fr.refl _ w).setCell (fun _ => just_self b) _

/-- empty, of a buffer of which it is known. -/
theorem buf_empty_no (w : World) (b : Nat) (g : Gh) (h : BufAt w b g) (hlt : g.off < g.len) : Calls Tryz.prog 78 #[.pointer (some ⟨b, 0, none⟩)] w fun e w' => e = .returned (.bool false) ∧ BufAt w' b g ∧ Fr (fun _ => False) w w' := by
  refine (buf_empty w b g h).mono ?_
  rintro e w' ⟨rfl, k, rfl⟩
  exact ⟨by simp; omega, h.drewN k, (Fr.refl _ w).drewN k⟩
theorem buf_empty_yes (w : World) (b : Nat) (g : Gh) (h : BufAt w b g) (hlt : g.len ≤ g.off) : Calls Tryz.prog 78 #[.pointer (some ⟨b, 0, none⟩)] w fun e w' => e = .returned (.bool true) ∧ BufAt w' b g ∧ Fr (fun _ => False) w w' := by
  refine (buf_empty w b g h).mono ?_
  rintro e w' ⟨rfl, k, rfl⟩
  exact ⟨by simp; omega, h.drewN k, (Fr.refl _ w).drewN k⟩

/-- Behind a read of k bytes. -/
def Gh.rd (g : Gh) (k : Nat) : Gh := { g with off := g.off + k, lr := if k = 0 then 0 else -1 }
/-- Behind Reset. -/
def Gh.rs (g : Gh) : Gh := { g with len := 0, off := 0, lr := 0 }
theorem Gh.rd_txt (g : Gh) (k : Nat) : (g.rd k).txt = g.txt.drop k := by simp [Gh.rd, Gh.txt, List.drop_drop]
theorem Gh.rs_txt (g : Gh) : g.rs.txt = [] := by simp [Gh.rs, Gh.txt]

set_option maxHeartbeats 800000 in
set_option maxRecDepth 100000 in
/-- Read of an empty buffer, into some bytes. -/
theorem buf_read_eof (w : World) (b : Nat) (g : Gh) (D : Option Addr) (n c : Nat) (ea : Addr) (h : BufAt w b g) (hlt : g.len ≤ g.off) (hn : 0 < n) (hn' : n ≤ 9223372036854775807) (he : w.cell? ⟨0, 0, none⟩ = some (.iface 145 (.pointer (some ea)))) (hbe : b ≠ 0) :
    Calls Tryz.prog 51 #[.pointer (some ⟨b, 0, none⟩), .slice D n c] w fun e w' => e = .returned (.tuple #[.int .i64 0, .iface 145 (.pointer (some ea))]) ∧ BufAt w' b g.rs ∧ Fr (Just b) w w' := by
  have c2 := h.c2
  have f2 := h.f 2
  have H := Lib.hid h
  have HE := Lib.hid he
  have hn0 : ((n : Int) == 0) = false := by simp; omega
  clear h he
  go_enter Tryz.func51, Tryz.ntmps51
  go_wp2_with fail
  have S1 := BufStep.lr0 H.out 0
  refine (buf_empty_yes _ b _ S1.at' hlt).mono ?_
  rintro e w1 ⟨rfl, H1, F1⟩
  go_wp2_with fail
  refine (buf_reset _ b _ H1).mono ?_
  rintro e w2 ⟨rfl, H2, F2⟩
  have hF : Fr (Just b) w w2 := ((just_set w b 2 _).trans' F1 (fun _ _ q => q.elim)).trans F2
  have hE2 := (hF.cell (World.block_lt_of_cell? _ _ HE.out) (fun q => hbe q.symm)).trans HE.out
  have HF := Lib.hid hF
  have HA := Lib.hid H2
  clear S1 H1 F1 H2 F2 hF
  go_wp2_with fail
  go_quiet (fail)
  go_wp2_with fail
  go_ret2
  exact ⟨rfl, HA.out.drewN _, HF.out.drewN _⟩

/-- What Read comes to. -/
def ReadPost (w : World) (b : Nat) (g : Gh) (rp o n : Nat) (allp : List UInt8) (e : Ending) (w' : World) : Prop :=
  e = .returned (.tuple #[.int .i64 ((min g.txt.length n : Nat) : Int), .nilIface]) ∧ BufAt w' b (g.rd (min g.txt.length n)) ∧ Row 5 w' rp (splice allp o (g.txt.take n)) ∧ Fr (fun x => x = b ∨ x = rp) w w'
set_option maxHeartbeats 800000 in
set_option maxRecDepth 100000 in
/-- Read of a buffer that is not empty. -/
theorem buf_read_some (w : World) (b : Nat) (g : Gh) (rp o n c : Nat) (allp : List UInt8) (D : Option Addr) (h : BufAt w b g) (hlt : g.off < g.len) (hrow : Row 5 w rp allp) (hD : 0 < n → D = some ⟨rp, o, none⟩) (hfit : o + n ≤ allp.length) (hne : g.row ≠ some rp) :
    Calls Tryz.prog 51 #[.pointer (some ⟨b, 0, none⟩), .slice D n c] w (ReadPost w b g rp o n allp) := by
  have hz := h.sz
  have hl := h.lc
  have c2 := h.c2
  have f2 := h.f 2
  have hpb : rp ≠ b := hrow.ne_blk h.st (by decide)
  have htl := g.txt_length hl
  have H := Lib.hid h
  have HR := Lib.hid hrow
  have HT := Lib.hid htl
  clear h hrow htl
  go_enter Tryz.func51, Tryz.ntmps51
  go_wp2_with fail
  have S1 := BufStep.lr0 H.out 0
  refine (buf_empty_no _ b _ S1.at' hlt).mono ?_
  rintro e w1 ⟨rfl, H1, F1⟩
  have hF1 : Fr (Just b) w w1 := (just_set w b 2 _).trans' F1 (fun _ _ q => q.elim)
  have hR1 := HR.out.fr hF1 (fun q => hpb q)
  have k0 := H1.c0
  have k1 := H1.c1
  have hsl := fun w' => slice_from g.row g.len g.all.length g.off (by omega) w'
  have hsrc := Lib.hid (Src.unread H1.drew)
  have HA1 := Lib.hid H1
  have HF1 := Lib.hid hF1
  have HR1 := Lib.hid hR1
  simp only at k0 k1
  obtain ⟨k, hk⟩ : ∃ k, Nat.min g.txt.length n = k := ⟨_, rfl⟩
  have hk' : k = min g.txt.length n := hk.symm
  have hkl : g.off + k ≤ g.len := by rw [HT.out] at hk'; omega
  have hkn : k ≤ n := by omega
  have HK := Lib.hid hk
  have HK' := Lib.hid hk'
  clear S1 H1 F1 hF1 hR1 hk hk'
  go_wp2_with fail
  refine wp_region_mixed 10 (by kernel_rfl) (by kernel_rfl) (fun _ _ d _ _ h => by cases d <;> exact h) ?_
  simp only [List.take_succ_cons, List.take_zero, List.drop_succ_cons, List.drop_zero, List.filter_cons, List.filter_nil, isMv, Array.isEmpty_iff, Bool.not_false, Bool.and_true, Option.isNone_none, if_true, if_false, Bool.false_eq_true]
  repeat still_step
  refine wpStill_nil ?_
  go_wp2_with (refine wpList_copy8 rfl (.tmp 17) (.tmp 26) _ rfl rp o n c k allp g.txt D _ (by rfl) (by rfl) HR1.out.drew hsrc.out HK.out (fun q => hD (by omega)) (by omega) ?_)
  intro w2 hrow2 hfr2
  have hA2 : BufAt w2 b { g with lr := 0 } := HA1.out.drew.fr hfr2 (fun x q => by
    rcases q with q | q
    · exact fun e => hpb (by unfold Just at e; omega)
    · exact fun e => hne (by unfold Just at e; rw [← e]; exact q))
  have e0 := hA2.c1
  have e1 := hA2.f 1
  have e2 := hA2.c2
  have e3 := hA2.f 2
  have hA3 := hA2.off' (g.off + k) hkl
  have hF2 : Fr (fun x => x = b ∨ x = rp) w w2 := (HF1.out.drew.mono (fun _ _ q => .inl q)).trans (hfr2.mono (fun _ _ q => .inr q))
  have htk : g.txt.take k = g.txt.take n := by rw [HK'.out, Nat.min_comm, ← List.take_eq_take_min]
  rw [htk] at hrow2
  have HA3 := Lib.hid hA3
  have HF2 := Lib.hid hF2
  have HR2 := Lib.hid hrow2
  have q2 := hA3.c2
  have q3 := hA3.f 2
  clear hA2 hF2 hrow2 hfr2 htk
  by_cases hk0 : k = 0
  · subst hk0
    simp only [Nat.add_zero] at hA3 HA3 q2 q3
    clear hA3
    go_wp2_with fail
    go_ret2
    unfold ReadPost
    rw [← HK'.out]
    exact ⟨rfl, HA3.out, HR2.out.setCell_far (by exact hpb) _, (HF2.out.setCell (fun _ => .inl rfl) _)⟩
  · have hkp : (0 : Int) < (k : Int) := by omega
    have hA4 := hA3.lr0 (-1)
    have HA4 := Lib.hid hA4
    clear hA3 hA4
    go_wp2_with fail
    go_ret2
    unfold ReadPost
    rw [← HK'.out]
    refine ⟨rfl, ?_, (HR2.out.setCell_far (by exact hpb) _).setCell_far (by exact hpb) _, (HF2.out.setCell (fun _ => .inl rfl) _).setCell (fun _ => .inl rfl) _⟩
    have := HA4.out
    unfold Gh.rd
    rw [if_neg hk0]
    exact this
end Go.Proofs.YtkggebhkjgjijaaGreatDoor
