/- (*bytes.Buffer).WriteByte, WriteRune, ReadRune. -/
import Derived.Test.YtimigjjokdnfbaaDoorBufG
namespace Go.Proofs.YtimigjjokdnfbaaDoor
open Go Go.RowKit

/-- One byte of a row laid anew. -/
theorem Row.poke {E : TypeId} {w : World} {r : Nat} {l : List UInt8} (h : Row E w r l) (i : Nat) (x : UInt8) : Row E (w.setCell ⟨r, i, none⟩ (.int .u8 (x.toNat : Int))) r (l.set i x) := by
  obtain ⟨fz, h1, h2⟩ := h
  refine ⟨fz, ?_, by simpa using h2⟩
  simp [World.setCell, Array.getElem?_modify, h1, bcs, List.map_set]
theorem splice_one (l : List UInt8) (i : Nat) (x : UInt8) (hi : i < l.length) : splice l i [x] = l.set i x := by
  unfold splice
  rw [List.set_eq_take_append_cons_drop, if_pos hi]
  simp
theorem BufAt.poke {w : World} {b : Nat} {g : Gh} {r : Nat} (h : BufAt w b g) (hr : g.row = some r) (i : Nat) (x : UInt8) : BufAt (w.setCell ⟨r, i, none⟩ (.int .u8 (x.toNat : Int))) b { g with all := g.all.set i x } := by
  refine ⟨BufRaw.putAll h.toBufRaw hr ((Fr.refl _ w).setCell (fun _ => just_self r) _) ((h.row r hr).poke i x) (by simp), h.ol, by simpa using h.lc⟩
theorem BufAt.some_row {w : World} {b : Nat} {g : Gh} (h : BufAt w b g) (hl : 0 < g.len) : ∃ r, g.row = some r := by
  cases hr : g.row with
  | none => have := h.nil hr; have := h.lc; simp_all
  | some r => exact ⟨r, rfl⟩

def WBPost (w : World) (b : Nat) (g : Gh) (x : UInt8) (e : Ending) (w' : World) : Prop :=
  ∃ g', e = .returned .nilIface ∧ BufStep w b g w' g' ∧ Wrote g [x] g'
set_option maxHeartbeats 1600000 in
set_option maxRecDepth 100000 in
theorem bufWB_room (x : UInt8) (w : World) (b : Nat) (g : Gh) (h : BufAt w b g) (hb : 1 ≤ g.all.length - g.len) :
    Calls Tryd.prog 33 #[.pointer (some ⟨b, 0, none⟩), .int .u8 (x.toNat : Int)] w (WBPost w b g x) := by
  have ho := h.ol; have hl := h.lc; have hz := h.sz
  have H := Lib.hid h
  have c2 := h.c2
  have f2 := h.f 2
  clear h
  go_enter Tryd.func33, Tryd.ntmps33
  go_wp2_with fail
  have S1 := BufStep.lr0 H.out 0
  refine (buf_try_yes _ b _ 1 S1.at' hb).mono ?_
  rintro e w2 ⟨rfl, H2, F2⟩
  have S2 := Lib.hid (S1.trans (BufStep.of_just H2 rfl F2))
  obtain ⟨r, hr⟩ := H2.some_row (by simp only; omega)
  have c0 := H2.c0
  simp only at c0 hr
  rw [hr, rowA_some] at c0
  have hrow := H2.row r hr
  have hcell := hrow.cell g.len (by simp only; omega)
  have hfree := hrow.free g.len (by simp only; omega)
  have HP := Lib.hid (H2.poke hr g.len x)
  have hw := Wrote.of_grown (l := [x]) (Grown.of_try { g with lr := 0 } 1 ho) (by have := H2.lc; exact this)
  simp only at hw
  rw [splice_one _ _ _ (by omega)] at hw
  have HW := Lib.hid hw
  have HR := Lib.hid hr
  clear S1 H2 F2 hw hrow hr
  go_wp2_with fail
  go_ret
  refine ⟨_, rfl, S2.out.trans (BufStep.put HP.out ((Fr.refl _ w2).setCell (fun _ => HR.out) _)), HW.out⟩
set_option maxHeartbeats 1600000 in
set_option maxRecDepth 100000 in
theorem bufWB_grow (x : UInt8) (w : World) (b : Nat) (g : Gh) (h : BufAt w b g) (hb : g.all.length - g.len < 1) (hsz : g.txt.length + 1 ≤ 1099511627776) :
    Calls Tryd.prog 33 #[.pointer (some ⟨b, 0, none⟩), .int .u8 (x.toNat : Int)] w (WBPost w b g x) := by
  have H := Lib.hid h
  have c2 := h.c2
  have f2 := h.f 2
  clear h
  go_enter Tryd.func33, Tryd.ntmps33
  go_wp2_with fail
  have S1 := BufStep.lr0 H.out 0
  refine (buf_try_no _ b _ 1 S1.at' hb).mono ?_
  rintro e w1 ⟨rfl, rfl⟩
  go_wp2_with fail
  refine (grow_any 1 _ b _ S1.at' hsz).mono ?_
  rintro e w2 ⟨i, g2, rfl, S2, G2⟩
  have hi := G2.len
  have hlc := S2.at'.lc
  obtain ⟨r, hr⟩ := S2.at'.some_row (by omega)
  have c0 := S2.at'.c0
  rw [hr, rowA_some] at c0
  have hrow := S2.at'.row r hr
  have hcell := hrow.cell i (by omega)
  have hfree := hrow.free i (by omega)
  have HP := Lib.hid (S2.at'.poke hr i x)
  have hz2 := S2.at'.sz
  have hil : i < g2.len := by omega
  have hw := Wrote.of_grown (l := [x]) G2 hlc
  rw [splice_one _ _ _ (by omega)] at hw
  have HW := Lib.hid hw
  have HR := Lib.hid hr
  have S12 := Lib.hid (S1.trans S2)
  clear S1 S2 G2 hw hrow hr
  go_wp2_with fail
  go_ret
  refine ⟨_, rfl, S12.out.trans (BufStep.put HP.out ((Fr.refl _ w2).setCell (fun _ => HR.out) _)), HW.out⟩
theorem bufWB (x : UInt8) (w : World) (b : Nat) (g : Gh) (h : BufAt w b g) (hsz : g.txt.length + 1 ≤ 1099511627776) :
    Calls Tryd.prog 33 #[.pointer (some ⟨b, 0, none⟩), .int .u8 (x.toNat : Int)] w (WBPost w b g x) := by
  by_cases hb : 1 ≤ g.all.length - g.len
  · exact bufWB_room x w b g h hb
  · exact bufWB_grow x w b g h (by omega) hsz

/-- What WriteRune leaves. -/
structure Wrote0 (g : Gh) (l : List UInt8) (g' : Gh) : Prop where
  txt : g'.txt = g.txt ++ l
  lr : g'.lr = 0
/-- A rune's bytes behind the place i of a row that has room for them. -/
theorem rune_fit {w : World} {b : Nat} {g : Gh} (h : BufAt w b g) (i : Nat) (r : Int) (hi : i + 4 ≤ g.all.length) :
    ∃ w2, RuneApp w (.slice (rowA g.row) i g.all.length) r (.slice (rowA g.row) (i + (Lib.encodeRune r).length) g.all.length) w2 ∧ BufRaw w2 b { g with all := splice g.all i (Lib.encodeRune r) } ∧ Fr (fun x => g.row = some x) w w2 := by
  obtain ⟨i0, hi0, hz0, hz1, hz2⟩ := info_parts info_u8
  obtain ⟨rw_, hr⟩ : ∃ r, g.row = some r := by
    cases hr : g.row with
    | none => have := h.nil hr; simp_all
    | some r => exact ⟨r, rfl⟩
  have hle := Lib.encodeRuneZ_length r
  have hlen : (Lib.encodeRune r).length = (Lib.encodeRuneZ r).length := by simp [Lib.encodeRune]
  have hrow := (h.row rw_ hr).alloc (.cells (Lib.runeCells r).toArray 5)
  obtain ⟨fz, hb, hf⟩ := hrow
  have hnew : Row 5 (w.alloc (.cells (Lib.runeCells r).toArray 5)) w.heap.size (Lib.encodeRune r) := by
    have := Row.new w 5 (Lib.encodeRune r)
    rwa [bcs_rune] at this
  have hsrc : Src (w.alloc (.cells (Lib.runeCells r).toArray 5)) (.slice (some ⟨w.heap.size, 0, none⟩) (Lib.runeCells r).length (Lib.runeCells r).length) (Lib.encodeRune r) := by
    have := Src.of_row (o := 0) (n := (Lib.runeCells r).length) (c := (Lib.runeCells r).length) (A := some ⟨w.heap.size, 0, none⟩) hnew (fun _ => rfl) (by rw [Lib.runeCells_length]; omega)
    rwa [List.drop_zero, List.take_of_length_le (by rw [Lib.runeCells_length]; omega)] at this
  obtain ⟨w2, hrun, hblk, hfr⟩ := run_append_fit (P := Tryd.prog) (dT := 52) (xT := 52) (ty := 52) (n := i) (c := g.all.length) (o := 0) (D := some ⟨rw_, 0, none⟩) Tryd.underlying52 Tryd.underlying52 (fun k q => by cases q) hi0 hz1 hb hsrc (by omega) (fun _ => rfl) (by omega)
    (fun j h1 h2 => by omega)
  rw [Nat.zero_add] at hblk
  have hfin : Fr (fun x => g.row = some x) w w2 := ((Fr.refl _ w).alloc _).trans (hfr.mono fun x _ q => by rw [hr, q])
  have hrow2 : Row 5 w2 rw_ (splice g.all i (Lib.encodeRune r)) := ⟨fz, hblk, by rw [length_splice _ _ _ (by omega)]; exact hf⟩
  refine ⟨w2, by rw [hr]; exact hrun, ?_, hfin⟩
  refine BufRaw.putAll h.toBufRaw hr ?_ hrow2 (length_splice _ _ _ (by omega))
  exact hfin.mono fun x _ q => by rw [hr] at q; exact (Option.some.inj q).symm

theorem enc_good {r : Int} (h : ¬ badRune r) : enc r = Lib.encodeRune r := by simp [enc, h]

def WRPost (w : World) (b : Nat) (g : Gh) (l : List UInt8) (e : Ending) (w' : World) : Prop :=
  ∃ g', e = .returned (.tuple #[.int .i64 (l.length : Int), .nilIface]) ∧ BufStep w b g w' g' ∧ Wrote0 g l g'
set_option maxHeartbeats 1600000 in
set_option maxRecDepth 100000 in
theorem bufWR_ascii (r : Int) (w : World) (b : Nat) (g : Gh) (h : BufAt w b g) (h0 : 0 ≤ r) (h1 : r < 128) (hsz : g.txt.length + 1 ≤ 1099511627776) :
    Calls Tryd.prog 34 #[.pointer (some ⟨b, 0, none⟩), .int .i32 r] w (WRPost w b g (Lib.encodeRune r)) := by
  have he : Lib.encodeRune r = [r.toNat.toUInt8] := by simp [Lib.encodeRune, Lib.encodeRuneZ_one h0 (by omega)]
  have hx : ((r.toNat.toUInt8).toNat : Int) = r := by simp; omega
  have hc := bufWB r.toNat.toUInt8 w b g h hsz
  rw [hx] at hc
  have HE := Lib.hid he
  clear h hx he
  go_enter Tryd.func34, Tryd.ntmps34
  go_wp2_with fail
  refine hc.mono ?_
  rintro e w1 ⟨g', rfl, S1, W1⟩
  go_wp2_with fail
  go_ret2
  refine ⟨g', ?_, S1, ?_⟩
  · rw [HE.out]; rfl
  · rw [HE.out]; exact ⟨W1.txt, W1.lr⟩

theorem Wrote0.of_grown {g g1 : Gh} {l : List UInt8} {i n : Nat} (h : Grown { g with lr := 0 } n i g1) (hc : g1.len ≤ g1.all.length) (hl : l.length ≤ n) : Wrote0 g l { g1 with all := splice g1.all i l, len := i + l.length } := by
  have h1 := h.len
  refine ⟨?_, ?_⟩
  · simp only [Gh.txt]
    rw [splice_txt _ _ _ _ h.off (by omega)]
    have := h.txt
    simp only [Gh.txt] at this
    rw [this]
  · rcases h.lr with e | e <;> exact e
/-- What the write of a rune leaves behind the growth: the buffer's slice is b.buf[:i] with the rune's bytes. -/
theorem rune_put {w w2 : World} {b : Nat} {g g2 : Gh} {i k : Nat} (S : BufStep w b g w2 g2) {all : List UInt8} {w3 : World} (hr : BufRaw w3 b { g2 with all := all }) (hl : all.length = g2.all.length) (hf : Fr (fun x => g2.row = some x) w2 w3) (ho : g2.off ≤ i + k) (hk : i + k ≤ g2.all.length) :
    BufStep w b g (w3.setCell ⟨b, 0, none⟩ (.slice (rowA g2.row) (i + k) g2.all.length)) { g2 with all := all, len := i + k } := by
  have hp := hr.put0 (i + k)
  simp only [hl] at hp
  refine S.trans ⟨⟨hp, ho, by simp only [hl]; exact hk⟩, .inl rfl, ?_⟩
  exact (hf.mono fun _ _ q => .inr q).setCell (fun _ => .inl rfl) _

set_option maxHeartbeats 1600000 in
set_option maxRecDepth 100000 in
theorem bufWR_room (r : Int) (w : World) (b : Nat) (g : Gh) (h : BufAt w b g) (hgood : ¬ badRune r) (h1 : 128 ≤ r) (hb : 4 ≤ g.all.length - g.len) :
    Calls Tryd.prog 34 #[.pointer (some ⟨b, 0, none⟩), .int .i32 r] w (WRPost w b g (Lib.encodeRune r)) := by
  have hr2 : r ≤ 1114111 := by unfold badRune at hgood; omega
  have ho := h.ol; have hl := h.lc; have hz := h.sz
  have hle := Lib.encodeRuneZ_length r
  have hlen : (Lib.encodeRune r).length = (Lib.encodeRuneZ r).length := by simp [Lib.encodeRune]
  have H := Lib.hid h
  have HG := Lib.hid hgood
  have c2 := h.c2
  have f2 := h.f 2
  clear h hgood
  obtain ⟨k, hk⟩ : ∃ k, (Lib.encodeRune r).length = k := ⟨_, rfl⟩
  have hk4 : k ≤ 4 := by omega
  have HK := Lib.hid hk
  have hsub : (g.len : Int) + (k : Int) - (g.len : Int) = (k : Int) := by omega
  clear hle hlen hk
  go_enter Tryd.func34, Tryd.ntmps34
  go_wp2_with fail
  have S1 := BufStep.lr0 H.out 0
  refine (buf_try_yes _ b _ 4 S1.at' hb).mono ?_
  rintro e w2 ⟨rfl, H2, F2⟩
  have S2 := S1.trans (BufStep.of_just H2 rfl F2)
  obtain ⟨w3, ha, hraw, hfr⟩ := rune_fit H2 g.len r (by simp only; omega)
  have c0 := H2.c0
  simp only at c0 ha hraw hfr
  rw [HK.out] at ha
  have hsl := fun w' => slice_to g.row (g.len + 4) g.all.length g.len (by omega) w'
  have hc := appendRune_of _ _ r w2 w3 HG.out ha
  have HS := Lib.hid (rune_put (i := g.len) (k := k) S2 hraw (length_splice _ _ _ (by rw [HK.out]; omega)) hfr (by simp only; omega) (by simp only; omega))
  have hw := Wrote0.of_grown (l := Lib.encodeRune r) (Grown.of_try { g with lr := 0 } 4 ho) (by have := H2.lc; exact this) (by rw [HK.out]; exact hk4)
  rw [HK.out] at hw
  have HW := Lib.hid hw
  have k0 : w3.cell? ⟨b, 0, none⟩ = some (.slice (rowA g.row) (g.len + 4) g.all.length) := by
    have := hraw.c0
    simp only [length_splice _ _ _ (show g.len + (Lib.encodeRune r).length ≤ g.all.length by rw [HK.out]; omega)] at this
    exact this
  have k1 := hraw.f 0
  have HC := Lib.hid hc
  clear S1 S2 H2 F2 hw hraw hfr ha hc
  go_wp2_with fail
  refine HC.out.mono ?_
  rintro e w4 ⟨rfl, rfl⟩
  go_wp2_with fail
  go_ret2
  refine ⟨_, ?_, HS.out, HW.out⟩
  rw [HK.out]
  rfl
set_option maxHeartbeats 1600000 in
set_option maxRecDepth 100000 in
theorem bufWR_grow (r : Int) (w : World) (b : Nat) (g : Gh) (h : BufAt w b g) (hgood : ¬ badRune r) (h1 : 128 ≤ r) (hb : g.all.length - g.len < 4) (hsz : g.txt.length + 4 ≤ 1099511627776) :
    Calls Tryd.prog 34 #[.pointer (some ⟨b, 0, none⟩), .int .i32 r] w (WRPost w b g (Lib.encodeRune r)) := by
  have hr2 : r ≤ 1114111 := by unfold badRune at hgood; omega
  have ho := h.ol; have hl := h.lc; have hz := h.sz
  have hle := Lib.encodeRuneZ_length r
  have hlen : (Lib.encodeRune r).length = (Lib.encodeRuneZ r).length := by simp [Lib.encodeRune]
  have H := Lib.hid h
  have HG := Lib.hid hgood
  have c2 := h.c2
  have f2 := h.f 2
  clear h hgood
  obtain ⟨k, hk⟩ : ∃ k, (Lib.encodeRune r).length = k := ⟨_, rfl⟩
  have hk4 : k ≤ 4 := by omega
  have HK := Lib.hid hk
  clear hle hlen hk
  go_enter Tryd.func34, Tryd.ntmps34
  go_wp2_with fail
  have S1 := BufStep.lr0 H.out 0
  refine (buf_try_no _ b _ 4 S1.at' hb).mono ?_
  rintro e w1 ⟨rfl, rfl⟩
  go_wp2_with fail
  refine (grow_any 4 _ b _ S1.at' hsz).mono ?_
  rintro e w2 ⟨i, g2, rfl, S2', G2⟩
  have hi := G2.len
  have hlc := S2'.at'.lc
  have hoff := G2.off
  have hz2 := S2'.at'.sz
  have S2 := S1.trans S2'
  obtain ⟨w3, ha, hraw, hfr⟩ := rune_fit S2'.at' i r (by omega)
  have c0 := S2'.at'.c0
  rw [HK.out] at ha
  have hsub : (i : Int) + (k : Int) - (i : Int) = (k : Int) := by omega
  have hsl := fun w' => slice_to g2.row g2.len g2.all.length i (by omega) w'
  have hc := appendRune_of _ _ r w2 w3 HG.out ha
  have HS := Lib.hid (rune_put (i := i) (k := k) S2 hraw (length_splice _ _ _ (by rw [HK.out]; omega)) hfr (by omega) (by omega))
  have hw := Wrote0.of_grown (l := Lib.encodeRune r) G2 hlc (by rw [HK.out]; exact hk4)
  rw [HK.out] at hw
  have HW := Lib.hid hw
  have k0 : w3.cell? ⟨b, 0, none⟩ = some (.slice (rowA g2.row) g2.len g2.all.length) := by
    have := hraw.c0
    simp only [length_splice _ _ _ (show i + (Lib.encodeRune r).length ≤ g2.all.length by rw [HK.out]; omega)] at this
    exact this
  have k1 := hraw.f 0
  have HC := Lib.hid hc
  clear S1 S2 S2' G2 hw hraw hfr ha hc
  go_wp2_with fail
  refine HC.out.mono ?_
  rintro e w4 ⟨rfl, rfl⟩
  go_wp2_with fail
  go_ret2
  refine ⟨_, ?_, HS.out, HW.out⟩
  rw [HK.out]
  rfl

theorem bufWR (r : Int) (w : World) (b : Nat) (g : Gh) (h : BufAt w b g) (hgood : ¬ badRune r) (hsz : g.txt.length + 4 ≤ 1099511627776) :
    Calls Tryd.prog 34 #[.pointer (some ⟨b, 0, none⟩), .int .i32 r] w (WRPost w b g (enc r)) := by
  rw [enc_good hgood]
  by_cases h1 : r < 128
  · exact bufWR_ascii r w b g h (by unfold badRune at hgood; omega) h1 (by omega)
  · by_cases hb : 4 ≤ g.all.length - g.len
    · exact bufWR_room r w b g h hgood (by omega) hb
    · exact bufWR_grow r w b g h hgood (by omega) (by omega) hsz
end Go.Proofs.YtimigjjokdnfbaaDoor
