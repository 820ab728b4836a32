/- BufH, BufI. -/
import Derived.Test.YtkggebhkjgjijaaGreatDoorQ11
namespace Go.Proofs.YtkggebhkjgjijaaGreatDoor
open Go Go.RowKit

/-- One byte of a row laid anew. -/
theorem Row.poke {E : TypeId} {w : World} {r : Nat} {l : List UInt8} (h : Row E w r l) (i : Nat) (x : UInt8) : Row E (w.setCell ⟨r, i, none⟩ (.int .u8 (x.toNat : Int))) r (l.set i x) := by
  obtain ⟨fz, h1, h2⟩ := h
  refine ⟨fz, ?_, by simpa using h2⟩
  simp [World.setCell, Array.getElem?_modify, h1, bcs, List.map_set]
theorem splice_one (l : List UInt8) (i : Nat) (x : UInt8) (hi : i < l.length) : splice l i [x] = l.set i x := by
  unfold splice
  rw [List.set_eq_take_append_cons_drop, if_pos hi]
  simp
theorem BufAt.poke {w : World} {b : Nat} {g : Gh} {r : Nat} (h : BufAt w b g) (hr : g.row = some r) (i : Nat) (x : UInt8) : BufAt (w.setCell ⟨r, i, none⟩ (.int .u8 (x.toNat : Int))) b { g with all := g.all.set i x } := by
  refine ⟨BufRaw.putAll h.toBufRaw hr ((Fr.refl _ w).setCell (fun _ => just_self r) _) ((h.row r hr).poke i x) (by simp), h.ol, by simpa using h.lc⟩
theorem BufAt.some_row {w : World} {b : Nat} {g : Gh} (h : BufAt w b g) (hl : 0 < g.len) : ∃ r, g.row = some r := by
  cases hr : g.row with
  | none => have := h.nil hr; have := h.lc; simp_all
  | some r => exact ⟨r, rfl⟩

def WBPost (w : World) (b : Nat) (g : Gh) (x : UInt8) (e : Ending) (w' : World) : Prop :=
  ∃ g', e = .returned .nilIface ∧ BufStep w b g w' g' ∧ Wrote g [x] g'
set_option maxHeartbeats 1600000 in
set_option maxRecDepth 100000 in
theorem bufWB_room (x : UInt8) (w : World) (b : Nat) (g : Gh) (h : BufAt w b g) (hb : 1 ≤ g.all.length - g.len) :
    Calls Tryz.prog 48 #[.pointer (some ⟨b, 0, none⟩), .int .u8 (x.toNat : Int)] w (WBPost w b g x) := by
  have ho := h.ol; have hl := h.lc; have hz := h.sz
  have H := Lib.hid h
  have c2 := h.c2
  have f2 := h.f 2
  clear h
  go_enter Tryz.func48, Tryz.ntmps48
  go_wp2_with fail
  have S1 := BufStep.lr0 H.out 0
  refine (buf_try_yes _ b _ 1 S1.at' hb).mono ?_
  rintro e w2 ⟨rfl, H2, F2⟩
  have S2 := Lib.hid (S1.trans (BufStep.of_just H2 rfl F2))
  obtain ⟨r, hr⟩ := H2.some_row (by simp only; omega)
  have c0 := H2.c0
  simp only at c0 hr
  rw [hr, rowA_some] at c0
  have hrow := H2.row r hr
  have hcell := hrow.cell g.len (by simp only; omega)
  have hfree := hrow.free g.len (by simp only; omega)
  have HP := Lib.hid (H2.poke hr g.len x)
  have hw := Wrote.of_grown (l := [x]) (Grown.of_try { g with lr := 0 } 1 ho) (by have := H2.lc; exact this)
  simp only at hw
  rw [splice_one _ _ _ (by omega)] at hw
  have HW := Lib.hid hw
  have HR := Lib.hid hr
  clear S1 H2 F2 hw hrow hr
  go_wp2_with fail
  go_ret
  refine ⟨_, rfl, S2.out.trans (BufStep.put HP.out ((Fr.refl _ w2).setCell (fun _ => HR.out) _)), HW.out⟩
set_option maxHeartbeats 1600000 in
set_option maxRecDepth 100000 in
theorem bufWB_grow (x : UInt8) (w : World) (b : Nat) (g : Gh) (h : BufAt w b g) (hb : g.all.length - g.len < 1) (hsz : g.txt.length + 1 ≤ 1099511627776) :
    Calls Tryz.prog 48 #[.pointer (some ⟨b, 0, none⟩), .int .u8 (x.toNat : Int)] w (WBPost w b g x) := by
  have H := Lib.hid h
  have c2 := h.c2
  have f2 := h.f 2
  clear h
  go_enter Tryz.func48, Tryz.ntmps48
  go_wp2_with fail
  have S1 := BufStep.lr0 H.out 0
  refine (buf_try_no _ b _ 1 S1.at' hb).mono ?_
  rintro e w1 ⟨rfl, rfl⟩
  go_wp2_with fail
  refine (grow_any 1 _ b _ S1.at' hsz).mono ?_
  rintro e w2 ⟨i, g2, rfl, S2, G2⟩
  have hi := G2.len
  have hlc := S2.at'.lc
  obtain ⟨r, hr⟩ := S2.at'.some_row (by omega)
  have c0 := S2.at'.c0
  rw [hr, rowA_some] at c0
  have hrow := S2.at'.row r hr
  have hcell := hrow.cell i (by omega)
  have hfree := hrow.free i (by omega)
  have HP := Lib.hid (S2.at'.poke hr i x)
  have hz2 := S2.at'.sz
  have hil : i < g2.len := by omega
  have hw := Wrote.of_grown (l := [x]) G2 hlc
  rw [splice_one _ _ _ (by omega)] at hw
  have HW := Lib.hid hw
  have HR := Lib.hid hr
  have S12 := Lib.hid (S1.trans S2)
  clear S1 S2 G2 hw hrow hr
  go_wp2_with fail
  go_ret
  refine ⟨_, rfl, S12.out.trans (BufStep.put HP.out ((Fr.refl _ w2).setCell (fun _ => HR.out) _)), HW.out⟩
theorem bufWB (x : UInt8) (w : World) (b : Nat) (g : Gh) (h : BufAt w b g) (hsz : g.txt.length + 1 ≤ 1099511627776) :
    Calls Tryz.prog 48 #[.pointer (some ⟨b, 0, none⟩), .int .u8 (x.toNat : Int)] w (WBPost w b g x) := by
  by_cases hb : 1 ≤ g.all.length - g.len
  · exact bufWB_room x w b g h hb
  · exact bufWB_grow x w b g h (by omega) hsz

/-- What WriteRune leaves. -/
structure Wrote0 (g : Gh) (l : List UInt8) (g' : Gh) : Prop where
  txt : g'.txt = g.txt ++ l
  lr : g'.lr = 0
/-- A rune's bytes behind the place i of a row that has room for them. -/
theorem rune_fit {w : World} {b : Nat} {g : Gh} (h : BufAt w b g) (i : Nat) (r : Int) (hi : i + 4 ≤ g.all.length) :
    ∃ w2, RuneApp w (.slice (rowA g.row) i g.all.length) r (.slice (rowA g.row) (i + (Lib.encodeRune r).length) g.all.length) w2 ∧ BufRaw w2 b { g with all := splice g.all i (Lib.encodeRune r) } ∧ Fr (fun x => g.row = some x) w w2 := by
  obtain ⟨i0, hi0, hz0, hz1, hz2⟩ := info_parts info_u8
  obtain ⟨rw_, hr⟩ : ∃ r, g.row = some r := by
    cases hr : g.row with
    | none => have := h.nil hr; simp_all
    | some r => exact ⟨r, rfl⟩
  have hle := Lib.encodeRuneZ_length r
  have hlen : (Lib.encodeRune r).length = (Lib.encodeRuneZ r).length := by simp [Lib.encodeRune]
  have hrow := (h.row rw_ hr).alloc (.cells (Lib.runeCells r).toArray 5)
  obtain ⟨fz, hb, hf⟩ := hrow
  have hnew : Row 5 (w.alloc (.cells (Lib.runeCells r).toArray 5)) w.heap.size (Lib.encodeRune r) := by
    have := Row.new w 5 (Lib.encodeRune r)
    rwa [bcs_rune] at this
  have hsrc : Src (w.alloc (.cells (Lib.runeCells r).toArray 5)) (.slice (some ⟨w.heap.size, 0, none⟩) (Lib.runeCells r).length (Lib.runeCells r).length) (Lib.encodeRune r) := by
    have := Src.of_row (o := 0) (n := (Lib.runeCells r).length) (c := (Lib.runeCells r).length) (A := some ⟨w.heap.size, 0, none⟩) hnew (fun _ => rfl) (by rw [Lib.runeCells_length]; omega)
    rwa [List.drop_zero, List.take_of_length_le (by rw [Lib.runeCells_length]; omega)] at this
  obtain ⟨w2, hrun, hblk, hfr⟩ := run_append_fit (P := Tryz.prog) (dT := 48) (xT := 48) (ty := 48) (n := i) (c := g.all.length) (o := 0) (D := some ⟨rw_, 0, none⟩) Tryz.underlying48 Tryz.underlying48 (fun k q => by cases q) hi0 hz1 hb hsrc (by omega) (fun _ => rfl) (by omega)
    (fun j h1 h2 => by omega)
  rw [Nat.zero_add] at hblk
  have hfin : Fr (fun x => g.row = some x) w w2 := ((Fr.refl _ w).alloc _).trans (hfr.mono fun x _ q => by rw [hr, q])
  have hrow2 : Row 5 w2 rw_ (splice g.all i (Lib.encodeRune r)) := ⟨fz, hblk, by rw [length_splice _ _ _ (by omega)]; exact hf⟩
  refine ⟨w2, by rw [hr]; exact hrun, ?_, hfin⟩
  refine BufRaw.putAll h.toBufRaw hr ?_ hrow2 (length_splice _ _ _ (by omega))
  exact hfin.mono fun x _ q => by rw [hr] at q; exact (Option.some.inj q).symm

theorem enc_good {r : Int} (h : ¬ badRune r) : enc r = Lib.encodeRune r := by simp [enc, h]

def WRPost (w : World) (b : Nat) (g : Gh) (l : List UInt8) (e : Ending) (w' : World) : Prop :=
  ∃ g', e = .returned (.tuple #[.int .i64 (l.length : Int), .nilIface]) ∧ BufStep w b g w' g' ∧ Wrote0 g l g'
set_option maxHeartbeats 1600000 in
set_option maxRecDepth 100000 in
theorem bufWR_ascii (r : Int) (w : World) (b : Nat) (g : Gh) (h : BufAt w b g) (h0 : 0 ≤ r) (h1 : r < 128) (hsz : g.txt.length + 1 ≤ 1099511627776) :
    Calls Tryz.prog 49 #[.pointer (some ⟨b, 0, none⟩), .int .i32 r] w (WRPost w b g (Lib.encodeRune r)) := by
  have he : Lib.encodeRune r = [r.toNat.toUInt8] := by simp [Lib.encodeRune, Lib.encodeRuneZ_one h0 (by omega)]
  have hx : ((r.toNat.toUInt8).toNat : Int) = r := by simp; omega
  have hc := bufWB r.toNat.toUInt8 w b g h hsz
  rw [hx] at hc
  have HE := Lib.hid he
  clear h hx he
  go_enter Tryz.func49, Tryz.ntmps49
  go_wp2_with fail
  refine hc.mono ?_
  rintro e w1 ⟨g', rfl, S1, W1⟩
  go_wp2_with fail
  go_ret2
  refine ⟨g', ?_, S1, ?_⟩
  · rw [HE.out]; rfl
  · rw [HE.out]; exact ⟨W1.txt, W1.lr⟩

theorem Wrote0.of_grown {g g1 : Gh} {l : List UInt8} {i n : Nat} (h : Grown { g with lr := 0 } n i g1) (hc : g1.len ≤ g1.all.length) (hl : l.length ≤ n) : Wrote0 g l { g1 with all := splice g1.all i l, len := i + l.length } := by
  have h1 := h.len
  refine ⟨?_, ?_⟩
  · simp only [Gh.txt]
    rw [splice_txt _ _ _ _ h.off (by omega)]
    have := h.txt
    simp only [Gh.txt] at this
    rw [this]
  · rcases h.lr with e | e <;> exact e
/-- What the write of a rune leaves behind the growth: the buffer's slice is b.buf[:i] with the rune's bytes. -/
theorem rune_put {w w2 : World} {b : Nat} {g g2 : Gh} {i k : Nat} (S : BufStep w b g w2 g2) {all : List UInt8} {w3 : World} (hr : BufRaw w3 b { g2 with all := all }) (hl : all.length = g2.all.length) (hf : Fr (fun x => g2.row = some x) w2 w3) (ho : g2.off ≤ i + k) (hk : i + k ≤ g2.all.length) :
    BufStep w b g (w3.setCell ⟨b, 0, none⟩ (.slice (rowA g2.row) (i + k) g2.all.length)) { g2 with all := all, len := i + k } := by
  have hp := hr.put0 (i + k)
  simp only [hl] at hp
  refine S.trans ⟨⟨hp, ho, by simp only [hl]; exact hk⟩, .inl rfl, ?_⟩
  exact (hf.mono fun _ _ q => .inr q).setCell (fun _ => .inl rfl) _

set_option maxHeartbeats 1600000 in
set_option maxRecDepth 100000 in
theorem bufWR_room (r : Int) (w : World) (b : Nat) (g : Gh) (h : BufAt w b g) (hgood : ¬ badRune r) (h1 : 128 ≤ r) (hb : 4 ≤ g.all.length - g.len) :
    Calls Tryz.prog 49 #[.pointer (some ⟨b, 0, none⟩), .int .i32 r] w (WRPost w b g (Lib.encodeRune r)) := by
  have hr2 : r ≤ 1114111 := by unfold badRune at hgood; omega
  have ho := h.ol; have hl := h.lc; have hz := h.sz
  have hle := Lib.encodeRuneZ_length r
  have hlen : (Lib.encodeRune r).length = (Lib.encodeRuneZ r).length := by simp [Lib.encodeRune]
  have H := Lib.hid h
  have HG := Lib.hid hgood
  have c2 := h.c2
  have f2 := h.f 2
  clear h hgood
  obtain ⟨k, hk⟩ : ∃ k, (Lib.encodeRune r).length = k := ⟨_, rfl⟩
  have hk4 : k ≤ 4 := by omega
  have HK := Lib.hid hk
  have hsub : (g.len : Int) + (k : Int) - (g.len : Int) = (k : Int) := by omega
  clear hle hlen hk
  go_enter Tryz.func49, Tryz.ntmps49
  go_wp2_with fail
  have S1 := BufStep.lr0 H.out 0
  refine (buf_try_yes _ b _ 4 S1.at' hb).mono ?_
  rintro e w2 ⟨rfl, H2, F2⟩
  have S2 := S1.trans (BufStep.of_just H2 rfl F2)
  obtain ⟨w3, ha, hraw, hfr⟩ := rune_fit H2 g.len r (by simp only; omega)
  have c0 := H2.c0
  simp only at c0 ha hraw hfr
  rw [HK.out] at ha
  have hsl := fun w' => slice_to g.row (g.len + 4) g.all.length g.len (by omega) w'
  have hc := appendRune_of _ _ r w2 w3 HG.out ha
  have HS := Lib.hid (rune_put (i := g.len) (k := k) S2 hraw (length_splice _ _ _ (by rw [HK.out]; omega)) hfr (by simp only; omega) (by simp only; omega))
  have hw := Wrote0.of_grown (l := Lib.encodeRune r) (Grown.of_try { g with lr := 0 } 4 ho) (by have := H2.lc; exact this) (by rw [HK.out]; exact hk4)
  rw [HK.out] at hw
  have HW := Lib.hid hw
  have k0 : w3.cell? ⟨b, 0, none⟩ = some (.slice (rowA g.row) (g.len + 4) g.all.length) := by
    have := hraw.c0
    simp only [length_splice _ _ _ (show g.len + (Lib.encodeRune r).length ≤ g.all.length by rw [HK.out]; omega)] at this
    exact this
  have k1 := hraw.f 0
  have HC := Lib.hid hc
  clear S1 S2 H2 F2 hw hraw hfr ha hc
  go_wp2_with fail
  refine HC.out.mono ?_
  rintro e w4 ⟨rfl, rfl⟩
  go_wp2_with fail
  go_ret2
  refine ⟨_, ?_, HS.out, HW.out⟩
  rw [HK.out]
  rfl
set_option maxHeartbeats 1600000 in
set_option maxRecDepth 100000 in
theorem bufWR_grow (r : Int) (w : World) (b : Nat) (g : Gh) (h : BufAt w b g) (hgood : ¬ badRune r) (h1 : 128 ≤ r) (hb : g.all.length - g.len < 4) (hsz : g.txt.length + 4 ≤ 1099511627776) :
    Calls Tryz.prog 49 #[.pointer (some ⟨b, 0, none⟩), .int .i32 r] w (WRPost w b g (Lib.encodeRune r)) := by
  have hr2 : r ≤ 1114111 := by unfold badRune at hgood; omega
  have ho := h.ol; have hl := h.lc; have hz := h.sz
  have hle := Lib.encodeRuneZ_length r
  have hlen : (Lib.encodeRune r).length = (Lib.encodeRuneZ r).length := by simp [Lib.encodeRune]
  have H := Lib.hid h
  have HG := Lib.hid hgood
  have c2 := h.c2
  have f2 := h.f 2
  clear h hgood
  obtain ⟨k, hk⟩ : ∃ k, (Lib.encodeRune r).length = k := ⟨_, rfl⟩
  have hk4 : k ≤ 4 := by omega
  have HK := Lib.hid hk
  clear hle hlen hk
  go_enter Tryz.func49, Tryz.ntmps49
  go_wp2_with fail
  have S1 := BufStep.lr0 H.out 0
  refine (buf_try_no _ b _ 4 S1.at' hb).mono ?_
  rintro e w1 ⟨rfl, rfl⟩
  go_wp2_with fail
  refine (grow_any 4 _ b _ S1.at' hsz).mono ?_
  rintro e w2 ⟨i, g2, rfl, S2', G2⟩
  have hi := G2.len
  have hlc := S2'.at'.lc
  have hoff := G2.off
  have hz2 := S2'.at'.sz
  have S2 := S1.trans S2'
  obtain ⟨w3, ha, hraw, hfr⟩ := rune_fit S2'.at' i r (by omega)
  have c0 := S2'.at'.c0
  rw [HK.out] at ha
  have hsub : (i : Int) + (k : Int) - (i : Int) = (k : Int) := by omega
  have hsl := fun w' => slice_to g2.row g2.len g2.all.length i (by omega) w'
  have hc := appendRune_of _ _ r w2 w3 HG.out ha
  have HS := Lib.hid (rune_put (i := i) (k := k) S2 hraw (length_splice _ _ _ (by rw [HK.out]; omega)) hfr (by omega) (by omega))
  have hw := Wrote0.of_grown (l := Lib.encodeRune r) G2 hlc (by rw [HK.out]; exact hk4)
  rw [HK.out] at hw
  have HW := Lib.hid hw
  have k0 : w3.cell? ⟨b, 0, none⟩ = some (.slice (rowA g2.row) g2.len g2.all.length) := by
    have := hraw.c0
    simp only [length_splice _ _ _ (show i + (Lib.encodeRune r).length ≤ g2.all.length by rw [HK.out]; omega)] at this
    exact this
  have k1 := hraw.f 0
  have HC := Lib.hid hc
  clear S1 S2 S2' G2 hw hraw hfr ha hc
  go_wp2_with fail
  refine HC.out.mono ?_
  rintro e w4 ⟨rfl, rfl⟩
  go_wp2_with fail
  go_ret2
  refine ⟨_, ?_, HS.out, HW.out⟩
  rw [HK.out]
  rfl

theorem bufWR (r : Int) (w : World) (b : Nat) (g : Gh) (h : BufAt w b g) (hgood : ¬ badRune r) (hsz : g.txt.length + 4 ≤ 1099511627776) :
    Calls Tryz.prog 49 #[.pointer (some ⟨b, 0, none⟩), .int .i32 r] w (WRPost w b g (enc r)) := by
  rw [enc_good hgood]
  by_cases h1 : r < 128
  · exact bufWR_ascii r w b g h (by unfold badRune at hgood; omega) h1 (by omega)
  · by_cases hb : 4 ≤ g.all.length - g.len
    · exact bufWR_room r w b g h hgood (by omega) hb
    · exact bufWR_grow r w b g h hgood (by omega) (by omega) hsz
end Go.Proofs.YtkggebhkjgjijaaGreatDoor

namespace Go.Proofs.YtkggebhkjgjijaaGreatDoor
open Go Go.RowKit

theorem get!_list (l : List UInt8) (j : Nat) : (ByteArray.mk l.toArray).get! j = l.getD j 0 := by
  simp only [ByteArray.get!]
  by_cases h : j < l.length
  · simp [h]
  · simp [h]
    rfl
/-- utf8.DecodeRune of bytes that lie in a row. -/
theorem decode_row {E : TypeId} {w : World} {r o c : Nat} {all l : List UInt8} (hT : Lib.Utf8Tabs 6 7 w) (hrow : Row E w r all) (hl : (all.drop o).take l.length = l) (ho : o + l.length ≤ all.length) (h0 : l ≠ []) :
    Calls Tryz.prog 80 #[.slice (some ⟨r, o, none⟩) l.length c] w fun e w' => e = .returned (.tuple #[.int .i32 (dec l).1, .int .i64 ((dec l).2 : Int)]) ∧ Fr (fun _ => False) w w' := by
  have hs : (ByteArray.mk l.toArray).size = l.length := by simp [ByteArray.size]
  have h := Any7.utf8_DecodeRune decLays ⟨l.toArray⟩ r o c w hT (fun j hj => by
    rw [hs] at hj
    have := hrow.cell (o + j) (by omega)
    rw [this]
    have e : l[j]? = all[o + j]? := by
      conv => lhs; rw [← hl]
      simp [hj]
    rw [List.getElem?_eq_getElem hj, List.getElem?_eq_getElem (by omega)] at e
    injection e with e
    rw [get!_list, List.getD_eq_getElem?_getD, List.getElem?_eq_getElem hj, ← e]
    rfl)
  rw [hs] at h
  have hd : Lib.decodeGo ⟨l.toArray⟩ = Lib.decodeN l.length (l.getD 0 0).toNat (l.getD 1 0).toNat (l.getD 2 0).toNat (l.getD 3 0).toNat := by
    have hne : ¬ l.length = 0 := fun q => h0 (List.eq_nil_of_length_eq_zero q)
    simp only [Lib.decodeGo, hs, hne, if_false]
    rw [Lib.decode_at, hs]
    simp only [get!_list, Nat.sub_zero, Nat.zero_add]
  refine Calls.mono h ?_
  rintro e w' ⟨rfl, hb⟩
  rw [hd]
  exact ⟨rfl, Fr.of_below hb⟩
theorem dec_ascii (x : UInt8) (l : List UInt8) (h : x.toNat < 128) : dec (x :: l) = ((x.toNat : Int), 1) := by
  simp [dec, Lib.decodeN, h]
/-- What decode takes lies within what there is. -/
theorem decodeN_le (n b0 b1 b2 b3 : Nat) (hn : 1 ≤ n) : 1 ≤ (Lib.decodeN n b0 b1 b2 b3).2 ∧ (Lib.decodeN n b0 b1 b2 b3).2 ≤ n ∧ (Lib.decodeN n b0 b1 b2 b3).2 ≤ 4 := by
  unfold Lib.decodeN
  split
  · simp; omega
  · split
    · rename_i h1 h2
      split <;> simp <;> omega
    · split
      · rename_i h1 h2 h3
        split <;> simp <;> omega
      · split
        · rename_i h1 h2 h3 h4
          split <;> simp <;> omega
        · simp; omega
theorem dec_le (l : List UInt8) (h : l ≠ []) : 1 ≤ (dec l).2 ∧ (dec l).2 ≤ l.length ∧ (dec l).2 ≤ 4 :=
  decodeN_le _ _ _ _ _ (List.length_pos_iff.2 h)

/-- Behind a read of a rune of k bytes. -/
def Gh.rr (g : Gh) (k : Nat) : Gh := { g with off := g.off + k, lr := (k : Int) }
set_option maxHeartbeats 800000 in
set_option maxRecDepth 100000 in
theorem buf_readRune_eof (w : World) (b : Nat) (g : Gh) (ea : Addr) (h : BufAt w b g) (hlt : g.len ≤ g.off) (he : w.cell? ⟨0, 0, none⟩ = some (.iface 145 (.pointer (some ea)))) (hbe : b ≠ 0) :
    Calls Tryz.prog 56 #[.pointer (some ⟨b, 0, none⟩)] w fun e w' => e = .returned (.tuple #[.int .i32 0, .int .i64 0, .iface 145 (.pointer (some ea))]) ∧ BufAt w' b g.rs ∧ Fr (Just b) w w' := by
  have H := Lib.hid h
  have HE := Lib.hid he
  clear h he
  go_enter Tryz.func56, Tryz.ntmps56
  go_wp2_with fail
  refine (buf_empty_yes _ b _ H.out hlt).mono ?_
  rintro e w1 ⟨rfl, H1, F1⟩
  go_wp2_with fail
  refine (buf_reset _ b _ H1).mono ?_
  rintro e w2 ⟨rfl, H2, F2⟩
  have hF : Fr (Just b) w w2 := (F1.mono (fun _ _ q => q.elim)).trans F2
  have hE2 := (hF.cell (World.block_lt_of_cell? _ _ HE.out) (fun q => hbe q.symm)).trans HE.out
  have HF := Lib.hid hF
  have HA := Lib.hid H2
  clear H1 F1 H2 F2 hF
  go_wp2_with fail
  go_quiet (fail)
  go_wp2_with fail
  go_ret3
  exact ⟨rfl, HA.out.drewN _, HF.out.drewN _⟩

set_option maxHeartbeats 1600000 in
set_option maxRecDepth 100000 in
theorem buf_readRune_ascii (w : World) (b : Nat) (g : Gh) (x : UInt8) (t : List UInt8) (h : BufAt w b g) (ht : g.txt = x :: t) (hx : x.toNat < 128) :
    Calls Tryz.prog 56 #[.pointer (some ⟨b, 0, none⟩)] w fun e w' => e = .returned (.tuple #[.int .i32 (x.toNat : Int), .int .i64 1, .nilIface]) ∧ BufAt w' b (g.rr 1) ∧ Fr (Just b) w w' := by
  obtain ⟨r, hr, hc, hlt, htl⟩ := h.byte ht
  have hz := h.sz
  have hl := h.lc
  have H := Lib.hid h
  have HC := Lib.hid hc
  have HR := Lib.hid hr
  clear h hc
  go_enter Tryz.func56, Tryz.ntmps56
  go_wp2_with fail
  refine (buf_empty_no _ b _ H.out hlt).mono ?_
  rintro e w1 ⟨rfl, H1, F1⟩
  have k0 := H1.c0
  have k1 := H1.c1
  have k2 := H1.c2
  have e1 := H1.f 1
  have e2 := H1.f 2
  have kc := (F1.cell (World.block_lt_of_cell? _ _ HC.out) (fun q => q)).trans HC.out
  rw [HR.out, rowA_some] at k0
  have HA1 := Lib.hid H1
  have HF1 := Lib.hid F1
  clear H1 F1 hr
  go_wp2_with fail
  go_quiet (fail)
  have hA3 := (HA1.out.drewN nq).off' (g.off + 1) (by omega)
  have q2 := hA3.c2
  have q3 := hA3.f 2
  have HA4 := Lib.hid (hA3.lr0 1)
  have HF2 := Lib.hid (HF1.out.drewN nq)
  clear hA3
  go_wp2_with fail
  go_ret3
  exact ⟨rfl, HA4.out, (((HF2.out.mono (S' := Just b) fun _ _ q => q.elim).setCell (fun _ => just_self b) _).setCell (fun _ => just_self b) _)⟩

set_option maxHeartbeats 1600000 in
set_option maxRecDepth 100000 in
theorem buf_readRune_slow (w : World) (b : Nat) (g : Gh) (x : UInt8) (t : List UInt8) (h : BufAt w b g) (ht : g.txt = x :: t) (hx : 128 ≤ x.toNat) (hT : ∀ w', Fr (fun _ => False) w w' → Lib.Utf8Tabs 6 7 w') :
    Calls Tryz.prog 56 #[.pointer (some ⟨b, 0, none⟩)] w fun e w' => e = .returned (.tuple #[.int .i32 (dec g.txt).1, .int .i64 ((dec g.txt).2 : Int), .nilIface]) ∧ BufAt w' b (g.rr (dec g.txt).2) ∧ Fr (Just b) w w' := by
  obtain ⟨r, hr, hc, hlt, htl⟩ := h.byte ht
  have hz := h.sz
  have hl := h.lc
  have hd := dec_le g.txt (by rw [ht]; simp)
  have hdec : ∀ w', Fr (fun _ => False) w w' → Calls Tryz.prog 80 #[.slice (some ⟨r, g.off, none⟩) (g.len - g.off) (g.all.length - g.off)] w' fun e w'' => e = .returned (.tuple #[.int .i32 (dec g.txt).1, .int .i64 ((dec g.txt).2 : Int)]) ∧ Fr (fun _ => False) w' w'' := by
    intro w' hf
    have hrow := (h.row r hr).fr hf (fun q => q)
    have := decode_row (o := g.off) (c := g.all.length - g.off) (l := g.txt) (hT w' hf) hrow (by rw [htl, Gh.txt_take g _ (by omega), List.take_of_length_le (by omega)]) (by omega) (by rw [ht]; simp)
    rwa [htl] at this
  have hsl := fun w' => slice_from g.row g.len g.all.length g.off (by omega) w'
  have hcut : cutA g.row g.off g.all.length = some ⟨r, g.off, none⟩ := by rw [hr]; exact cutA_some r _ _ (by omega)
  rw [hcut, hr, rowA_some] at hsl
  obtain ⟨D, hD⟩ : ∃ D, (dec g.txt).1 = D := ⟨_, rfl⟩
  obtain ⟨n, hn⟩ : ∃ n, (dec g.txt).2 = n := ⟨_, rfl⟩
  rw [hD, hn] at hdec
  rw [hn] at hd
  rw [hD, hn]
  have H := Lib.hid h
  have HC := Lib.hid hc
  have HR := Lib.hid hr
  have HD := Lib.hid hdec
  clear h hc hD hn hdec hcut
  go_enter Tryz.func56, Tryz.ntmps56
  go_wp2_with fail
  refine (buf_empty_no _ b _ H.out hlt).mono ?_
  rintro e w1 ⟨rfl, H1, F1⟩
  have k0 := H1.c0
  have k1 := H1.c1
  have k2 := H1.c2
  have e1 := H1.f 1
  have e2 := H1.f 2
  have kc := (F1.cell (World.block_lt_of_cell? _ _ HC.out) (fun q => q)).trans HC.out
  rw [HR.out, rowA_some] at k0
  have HA1 := Lib.hid H1
  have HF1 := Lib.hid F1
  clear H1 F1 hr
  go_wp2_with fail
  go_quiet (fail)
  go_wp2_with fail
  have HF2 := Lib.hid ((HF1.out.drewN nq).drew)
  have HA2 := Lib.hid ((HA1.out.drewN nq).drew)
  go_region_held3 (fun w' => w'.cell? ⟨b, 0, none⟩ = some (.slice (some ⟨r, 0, none⟩) g.len g.all.length) ∧ w'.cell? ⟨b, 1, none⟩ = some (.int .i64 (g.off : Int))) (go_keep) ((go_at_call 80; refine (HD.out _ HF2.out).mono ?_; rintro e w2 ⟨rfl, F3⟩; have A3 := HA2.out.fr F3 (fun _ _ q => q); have d0 := A3.c0; have d1 := A3.c1; have d2 := A3.c2; have g1 := A3.f 1; have g2 := A3.f 2; rw [HR.out, rowA_some] at d0; have HA3 := Lib.hid A3; have HF3 := Lib.hid (HF2.out.trans F3); clear A3 F3))
  have hA4 := HA3.out.off' (g.off + n) (by omega)
  have q2 := hA4.c2
  have q3 := hA4.f 2
  have HA5 := Lib.hid (hA4.lr0 (n : Int))
  clear hA4
  go_wp2_with fail
  go_ret3
  exact ⟨rfl, HA5.out, (((HF3.out.mono (S' := Just b) fun _ _ q => q.elim).setCell (fun _ => just_self b) _).setCell (fun _ => just_self b) _)⟩

theorem buf_readRune_some (w : World) (b : Nat) (g : Gh) (h : BufAt w b g) (ht : g.txt ≠ []) (hT : ∀ w', Fr (fun _ => False) w w' → Lib.Utf8Tabs 6 7 w') :
    Calls Tryz.prog 56 #[.pointer (some ⟨b, 0, none⟩)] w fun e w' => e = .returned (.tuple #[.int .i32 (dec g.txt).1, .int .i64 ((dec g.txt).2 : Int), .nilIface]) ∧ BufAt w' b (g.rr (dec g.txt).2) ∧ Fr (Just b) w w' := by
  cases hx : g.txt with
  | nil => exact absurd hx ht
  | cons x t =>
    by_cases h8 : x.toNat < 128
    · rw [dec_ascii x t h8]
      exact buf_readRune_ascii w b g x t h hx h8
    · rw [← hx]
      exact buf_readRune_slow w b g x t h hx (by omega) hT
end Go.Proofs.YtkggebhkjgjijaaGreatDoor
