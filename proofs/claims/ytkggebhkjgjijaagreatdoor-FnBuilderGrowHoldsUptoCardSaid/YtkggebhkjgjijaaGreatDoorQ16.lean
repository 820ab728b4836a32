/- CallW. -/
import Derived.Test.YtkggebhkjgjijaaGreatDoorQ15
namespace Go.Proofs.YtkggebhkjgjijaaGreatDoor
open Go Go.RowKit

/-- A call as the code has it. -/
def Cl.cells (c : Cl) : List Value := [.int .i64 c.op, .int .i64 c.a, .int .i64 c.b, .int .u16 (c.size : Int), .int .i64 c.n, .int .u8 (c.sign.toNat : Int), .int .i32 c.char, .string ⟨c.text.toArray⟩, .slice c.ad c.cuts.length c.cap]
def Cl.val (c : Cl) : Value := .agg c.cells.toArray
/-- What a call tells, as the code has it. -/
def Td.cells (t : Td) : List Value := [.int .i64 t.n, .string ⟨t.text.toArray⟩, .int .i32 t.char, .int .i64 t.said]
def Td.val (t : Td) : Value := .agg t.cells.toArray

def WDPost (w : World) (b : Nat) (g : Gh) (t : Td) (R : Gh → Prop) (e : Ending) (w' : World) : Prop :=
  ∃ g', e = .returned t.val ∧ BufStep w b g w' g' ∧ R g'

/-- The cells of what a call tells. -/
abbrev toldZ : Array Value := #[.int .i64 0, .string ⟨#[]⟩, .int .i32 0, .int .i64 0]
structure ToldAt (w : World) (x : Nat) : Prop where
  st : w.heap[x]? = some (.cells toldZ 45 (0, 0))
theorem ToldAt.c0 {w : World} {x : Nat} (h : ToldAt w x) : w.cell? ⟨x, 0, none⟩ = some (.int .i64 0) := by rw [cell_of_row w x 0 _ _ _ h.st]; rfl
theorem ToldAt.c1 {w : World} {x : Nat} (h : ToldAt w x) : w.cell? ⟨x, 1, none⟩ = some (.string ⟨#[]⟩) := by rw [cell_of_row w x 1 _ _ _ h.st]; rfl
theorem ToldAt.c2 {w : World} {x : Nat} (h : ToldAt w x) : w.cell? ⟨x, 2, none⟩ = some (.int .i32 0) := by rw [cell_of_row w x 2 _ _ _ h.st]; rfl
theorem ToldAt.c3 {w : World} {x : Nat} (h : ToldAt w x) : w.cell? ⟨x, 3, none⟩ = some (.int .i64 0) := by rw [cell_of_row w x 3 _ _ _ h.st]; rfl
theorem ToldAt.f {w : World} {x : Nat} (h : ToldAt w x) (i : Nat) : w.frozen? ⟨x, i, none⟩ = false := by simp [World.frozen?, h.st]
theorem ToldAt.new (w : World) : ToldAt (w.alloc (.cells toldZ 45)) w.heap.size := ⟨heap_alloc_new w _⟩
theorem ToldAt.new2 (w : World) (o : Obj) : ToldAt ((w.alloc o).alloc (.cells toldZ 45)) (w.heap.size + 1) := by have := ToldAt.new (w.alloc o); simpa using this
theorem ToldAt.fr {S : Nat → Prop} {w w' : World} {x : Nat} (h : ToldAt w x) (hf : Fr S w w') (hn : ¬ S x) : ToldAt w' x := ⟨hf.blk h.st hn⟩
theorem BufStep.skip {w0 w w' w'' : World} {b x : Nat} {g g' : Gh} (S : BufStep w b g w' g') (h0 : Fr (fun _ => False) w0 w) (hx : w0.heap.size ≤ x) (hT : ToldAt w' x) (h1 : Fr (Just x) w' w'') : BufStep w0 b g w'' g' := by
  refine ⟨S.at'.fr h1 (fun z hz q => ?_), ?_, ?_⟩
  · obtain rfl : z = x := q
    rcases S.at'.foot_typed hz with k | k
    · exact k.ne (by decide) ⟨_, _, hT.st⟩
    · exact k.ne (by decide) ⟨_, _, hT.st⟩
  · rcases S.row with e | ⟨r, e, hr⟩
    · exact .inl e
    · exact .inr ⟨r, e, Nat.le_trans h0.size hr⟩
  · refine ((h0.mono fun _ _ q => q.elim).trans S.fr).trans' h1 fun z hz q => ?_
    obtain rfl : z = x := q
    omega
theorem BufStep.told {w w' : World} {b x : Nat} {g g' : Gh} (S : BufStep w b g w' g') (hb : BufAt w b g) (h : ToldAt w x) : ToldAt w' x :=
  h.fr S.fr fun q => by
    rcases hb.foot_typed q with k | k
    · exact k.ne (by decide) ⟨_, _, h.st⟩
    · exact k.ne (by decide) ⟨_, _, h.st⟩
theorem just4 (w : World) (x : Nat) (a b c d : Value) : Fr (Just x) w ((((w.setCell ⟨x, 0, none⟩ a).setCell ⟨x, 1, none⟩ b).setCell ⟨x, 2, none⟩ c).setCell ⟨x, 3, none⟩ d) :=
  ((((Fr.refl _ w).setCell (fun _ => just_self x) _).setCell (fun _ => just_self x) _).setCell (fun _ => just_self x) _).setCell (fun _ => just_self x) _

theorem src_head {w : World} {r c : Nat} {all l : List UInt8} (hrow : Row 5 w r all) (htk : all.take l.length = l) (hla : l.length ≤ all.length) : Src w (.slice (some ⟨r, 0, none⟩) l.length c) l := by
  have := Src.of_row (c := c) (n := l.length) (o := 0) hrow (fun _ => rfl) (by omega)
  rw [List.drop_zero, htk] at this
  exact this

/-- append of nothing. -/
theorem run_append_none {P : Program} {w : World} {E : TypeId} {dT xT ty : TypeId} {n c : Nat} {D : Option Addr} {i : TypeInfo} {u : TypeDesc}
    (hu : P.underlying dT = some (.slice E)) (hx : P.underlying xT = some u) (hnot : ∀ k, u ≠ .int k) (hi : P.info? E = some i) (hs1 : i.size = 1) (hroom : n ≤ c) :
    (Builtin.append_ #[dT, xT] ty #[.slice D n c, .string ⟨#[]⟩]).run P w = .ok (.slice D n c) w := by
  have hsrc := Src.str w []
  have hlen := run_lenOf_src (P := P) hsrc
  have hf := run_firstCells_src (P := P) hsrc 0 (Nat.zero_le _)
  cases D <;> simp [Builtin.append_, run_underlying hu, run_underlying hx, sizeOf, typeInfo, hi, hs1, hlen, storeCells, bcs] at hroom hf ⊢ <;> simp [hroom, hf, storeCells]

/-- What the slice of AvailableBuffer comes to when a text is appended to it. -/
structure FreeApp (w : World) (b : Nat) (g : Gh) (text : List UInt8) (A : Option Addr) (c : Nat) (w' : World) (g0 : Gh) : Prop where
  st : BufStep w b g w' g0
  txt : g0.txt = g.txt
  src : Src w' (.slice A text.length c) text
  far : g0.all.length - g0.len < text.length → ∀ w'', Fr (g0.foot b) w' w'' → Src w'' (.slice A text.length c) text
theorem free_app {w : World} {b : Nat} {g : Gh} {ty : TypeId} (h : BufAt w b g) (text : List UInt8) (hl : text.length ≤ 1099511627776) :
    ∃ A c w' g0, (Builtin.append_ #[48, 9] ty #[.slice (cutA g.row g.len g.all.length) 0 (g.all.length - g.len), .string ⟨text.toArray⟩]).run Tryz.prog w = .ok (.slice A text.length c) w' ∧ FreeApp w b g text A c w' g0 := by
  obtain ⟨i0, hi, hz0, hz1, hz2⟩ := info_parts info_u8
  have hlc := h.lc
  rcases Nat.lt_or_ge (g.all.length - g.len) text.length with hg | hg
  · obtain ⟨cap2, w', hrun, hcell, h1, h2, hfr, hsz⟩ := run_append_grow (P := Tryz.prog) (w := w) (ty := ty) (old := []) (l := text) (D := cutA g.row g.len g.all.length) (n := 0) (c := g.all.length - g.len) Tryz.underlying48 Tryz.underlying9 (fun _ => by simp) hi hz1 hz2 hz0 (.inr ⟨_, _, rfl, fun q => absurd q (by simp)⟩) rfl (Src.str _ text) (by omega) (by omega)
    simp only [Nat.zero_add, List.nil_append] at hrun hcell
    have hrow : Row 5 w' w.heap.size (text ++ List.replicate (cap2 - text.length) 0) := ⟨(0, 0), hcell, .inl (Nat.le_refl _)⟩
    refine ⟨_, _, w', g, hrun, BufStep.of_none h hfr, rfl, src_head hrow (by simp) (by simp), fun _ w'' hf => src_head (hrow.fr hf fun q => ?_) (by simp) (by simp)⟩
    have := h.foot_lt q
    omega
  · rcases Nat.eq_zero_or_pos text.length with h0 | h0
    · obtain rfl : text = [] := List.eq_nil_of_length_eq_zero h0
      exact ⟨_, _, w, g, run_append_none (P := Tryz.prog) Tryz.underlying48 Tryz.underlying9 (fun _ => by simp) hi hz1 (Nat.zero_le _), BufStep.refl h, rfl, .inr ⟨_, _, rfl, fun q => absurd q (by simp)⟩, fun q => absurd q (by simp)⟩
    · obtain ⟨r, hr⟩ : ∃ r, g.row = some r := by
        cases hrr : g.row with
        | none => have e := h.nil hrr; have e1 : g.all.length = 0 := by rw [e]; rfl
                  omega
        | some r => exact ⟨r, rfl⟩
      obtain ⟨fz, hb, hfz⟩ := h.row r hr
      have hcut : cutA g.row g.len g.all.length = some ⟨r, g.len, none⟩ := by rw [hr]; exact cutA_some _ _ _ (by omega)
      obtain ⟨w', hrun, hcell, hfr⟩ := run_append_fit (P := Tryz.prog) (w := w) (ty := ty) (dT := 48) (xT := 9) (o := g.len) (n := 0) (c := g.all.length - g.len) (l := text) (D := some ⟨r, g.len, none⟩) Tryz.underlying48 Tryz.underlying9 (fun _ => by simp) hi hz1 hb (Src.str _ text) (by omega) (fun _ => rfl) (by omega) (fun j h1 h2 => by omega)
      simp only [Nat.zero_add, Nat.add_zero] at hrun hcell
      have hlen : (splice g.all g.len text).length = g.all.length := length_splice _ _ _ (by omega)
      have hrow : Row 5 w' r (splice g.all g.len text) := ⟨fz, hcell, by rw [hlen]; exact hfz⟩
      have hA : BufAt w' b { g with all := splice g.all g.len text } := ⟨h.toBufRaw.putAll hr hfr hrow hlen, h.ol, by simp only; rw [hlen]; exact h.lc⟩
      refine ⟨_, _, w', { g with all := splice g.all g.len text }, by rw [hcut]; exact hrun, ⟨hA, .inl rfl, hfr.mono fun x _ q => .inr (by rw [hr, show x = r from q])⟩, ?_, ?_, fun q => ?_⟩
      · simp [Gh.txt, splice, hlc]
      · have hs := Src.of_row (c := g.all.length - g.len) (n := text.length) (o := g.len) hrow (fun _ => rfl) (by rw [hlen]; omega)
        have e : ((splice g.all g.len text).drop g.len).take text.length = text := by
          have hm : min g.len g.all.length = g.len := by omega
          simp [splice, hm]
        rw [e] at hs
        exact hs
      · simp only at q
        rw [hlen] at q
        omega
theorem step_free_app {w : World} {ops : Array Oper} {o : Oper} {a : Act} {K : Act → World → Prop} {Q : Exit → Act → World → Prop} {E0 : Prop} (hgd : o.guard = none) (d s : Operand) (ho : o.op = .call { callee := .builtin .append, args := #[d, s], argTypes := #[48, 9] })
    {b : Nat} {g : Gh} {text : List UInt8} (hd : a.eval d = .slice (cutA g.row g.len g.all.length) 0 (g.all.length - g.len)) (hs : a.eval s = .string ⟨text.toArray⟩) (h : BufAt w b g) (hl : text.length ≤ 1099511627776)
    (hK : ∀ A c w' g0, FreeApp w b g text A c w' g0 → K (a.put o.dst (.slice A text.length c)) w') : if Region.wanted o (yielded ops a.tmps) = true then Oper.wp Tryz.prog o a w K Q else E0 := by
  obtain ⟨A, c, w', g0, hrun, hF⟩ := free_app (ty := o.type) h text hl
  exact step_of_wp hgd (wp_append_of_run d s _ _ ho hd hs hrun (hK A c w' g0 hF))

/-- Where a buffer lies behind a step: where it lay, or behind what there was. -/
theorem BufStep.foot_new {w w0 w' : World} {b x : Nat} {g g' : Gh} (S : BufStep w b g w' g') (h0 : BufAt w0 b g) (hx : g'.foot b x) : x < w0.heap.size ∨ w.heap.size ≤ x := by
  rcases hx with rfl | hx
  · exact .inl h0.lt
  · rcases S.row with e | ⟨r, e, hr⟩
    · exact .inl (h0.rlt (by rw [← e]; exact hx))
    · rw [e] at hx
      injection hx with hx
      exact .inr (by omega)

section
variable (a bb : Int) (size : Nat) (n : Int) (sign : UInt8) (char : Int) (text : List UInt8) (cuts : List Nat) (ad : Option Addr) (cap : Nat)
set_option maxHeartbeats 1600000 in
set_option maxRecDepth 100000 in
theorem write_2 (b : Nat) (g : Gh) (w : World) (h : BufAt w b g) (hsz : g.txt.length + text.length ≤ 1099511627776) :
    Calls Tryz.prog 26 #[.pointer (some ⟨b, 0, none⟩), .agg #[.int .i64 2, .int .i64 a, .int .i64 bb, .int .u16 (size : Int), .int .i64 n, .int .u8 (sign.toNat : Int), .int .i32 char, .string ⟨text.toArray⟩, .slice ad cuts.length cap]] w (WDPost w b g ⟨text.length, [], 0, 0⟩ (Wrote g text)) := by
  have H := Lib.hid h
  have HB := Lib.hid (h.fr (((Fr.refl (fun _ => False) w).alloc _).alloc _) (fun _ _ q => q) : BufAt ((w.alloc (.cells #[.int .i64 2, .int .i64 a, .int .i64 bb, .int .u16 (size : Int), .int .i64 n, .int .u8 (sign.toNat : Int), .int .i32 char, .string ⟨text.toArray⟩, .slice ad cuts.length cap] 27)).alloc (.cells #[.int .i64 0, .string ⟨#[]⟩, .int .i32 0, .int .i64 0] 45)) b g)
  clear h
  go_enter Tryz.func26, Tryz.ntmps26
  go_wp2_with fail
  refine (bufWS text _ b g HB.out (Src.str _ text) hsz (fun _ w' _ => Src.str _ text)).mono ?_
  rintro e w1 ⟨g', rfl, S1, W1⟩
  have hT : ToldAt w1 (w.heap.size + 1) := S1.told HB.out (ToldAt.new2 w _)
  have t0 := hT.c0; have t1 := hT.c1; have t2 := hT.c2; have t3 := hT.c3; have z0 := hT.f 0; have z1 := hT.f 1; have z2 := hT.f 2; have z3 := hT.f 3
  have HT := Lib.hid hT
  clear hT
  have HS := Lib.hid S1
  have HW := Lib.hid W1
  clear S1 W1
  go_wp2_with fail
  refine (said_nil _).mono ?_
  rintro e w2 ⟨rfl, rfl⟩
  go_wp2_with fail
  refine bodyPost_ret (v := Td.val ⟨text.length, [], 0, 0⟩) (by simp [results, Tryz.results26, go_sem, t0, t1, t2, t3, Td.val, Td.cells]) rfl ?_
  exact ⟨_, rfl, HS.out.skip (((Fr.refl (fun _ => False) w).alloc _).alloc _) (by omega) HT.out (just4 _ _ _ _ _ _), HW.out⟩
set_option maxHeartbeats 1600000 in
set_option maxRecDepth 100000 in
theorem write_3 (b : Nat) (g : Gh) (w : World) (h : BufAt w b g) (hsz : g.txt.length + 1 ≤ 1099511627776) :
    Calls Tryz.prog 26 #[.pointer (some ⟨b, 0, none⟩), .agg #[.int .i64 3, .int .i64 a, .int .i64 bb, .int .u16 (size : Int), .int .i64 n, .int .u8 (sign.toNat : Int), .int .i32 char, .string ⟨text.toArray⟩, .slice ad cuts.length cap]] w (WDPost w b g ⟨0, [], 0, 0⟩ (Wrote g [sign])) := by
  have H := Lib.hid h
  have HB := Lib.hid (h.fr (((Fr.refl (fun _ => False) w).alloc _).alloc _) (fun _ _ q => q) : BufAt ((w.alloc (.cells #[.int .i64 3, .int .i64 a, .int .i64 bb, .int .u16 (size : Int), .int .i64 n, .int .u8 (sign.toNat : Int), .int .i32 char, .string ⟨text.toArray⟩, .slice ad cuts.length cap] 27)).alloc (.cells #[.int .i64 0, .string ⟨#[]⟩, .int .i32 0, .int .i64 0] 45)) b g)
  clear h
  go_enter Tryz.func26, Tryz.ntmps26
  go_wp2_with fail
  refine (bufWB sign _ b g HB.out hsz).mono ?_
  rintro e w1 ⟨g', rfl, S1, W1⟩
  have hT : ToldAt w1 (w.heap.size + 1) := S1.told HB.out (ToldAt.new2 w _)
  have t0 := hT.c0; have t1 := hT.c1; have t2 := hT.c2; have t3 := hT.c3; have z0 := hT.f 0; have z1 := hT.f 1; have z2 := hT.f 2; have z3 := hT.f 3
  have HT := Lib.hid hT
  clear hT
  have HS := Lib.hid S1
  have HW := Lib.hid W1
  clear S1 W1
  go_wp2_with fail
  refine (said_nil _).mono ?_
  rintro e w2 ⟨rfl, rfl⟩
  go_wp2_with fail
  refine bodyPost_ret (v := Td.val ⟨0, [], 0, 0⟩) (by simp [results, Tryz.results26, go_sem, t0, t1, t2, t3, Td.val, Td.cells]) rfl ?_
  exact ⟨_, rfl, HS.out.skip (((Fr.refl (fun _ => False) w).alloc _).alloc _) (by omega) HT.out (just4 _ _ _ _ _ _), HW.out⟩
set_option maxHeartbeats 1600000 in
set_option maxRecDepth 100000 in
theorem write_4 (b : Nat) (g : Gh) (w : World) (h : BufAt w b g) (hgood : ¬ badRune char) (hsz : g.txt.length + 4 ≤ 1099511627776) :
    Calls Tryz.prog 26 #[.pointer (some ⟨b, 0, none⟩), .agg #[.int .i64 4, .int .i64 a, .int .i64 bb, .int .u16 (size : Int), .int .i64 n, .int .u8 (sign.toNat : Int), .int .i32 char, .string ⟨text.toArray⟩, .slice ad cuts.length cap]] w (WDPost w b g ⟨(enc char).length, [], 0, 0⟩ (Wrote0 g (enc char))) := by
  have H := Lib.hid h
  have HB := Lib.hid (h.fr (((Fr.refl (fun _ => False) w).alloc _).alloc _) (fun _ _ q => q) : BufAt ((w.alloc (.cells #[.int .i64 4, .int .i64 a, .int .i64 bb, .int .u16 (size : Int), .int .i64 n, .int .u8 (sign.toNat : Int), .int .i32 char, .string ⟨text.toArray⟩, .slice ad cuts.length cap] 27)).alloc (.cells #[.int .i64 0, .string ⟨#[]⟩, .int .i32 0, .int .i64 0] 45)) b g)
  clear h
  go_enter Tryz.func26, Tryz.ntmps26
  go_wp2_with fail
  refine (bufWR char _ b g HB.out hgood hsz).mono ?_
  rintro e w1 ⟨g', rfl, S1, W1⟩
  have hT : ToldAt w1 (w.heap.size + 1) := S1.told HB.out (ToldAt.new2 w _)
  have t0 := hT.c0; have t1 := hT.c1; have t2 := hT.c2; have t3 := hT.c3; have z0 := hT.f 0; have z1 := hT.f 1; have z2 := hT.f 2; have z3 := hT.f 3
  have HT := Lib.hid hT
  clear hT
  have HS := Lib.hid S1
  have HW := Lib.hid W1
  clear S1 W1
  go_wp2_with fail
  refine (said_nil _).mono ?_
  rintro e w2 ⟨rfl, rfl⟩
  go_wp2_with fail
  refine bodyPost_ret (v := Td.val ⟨(enc char).length, [], 0, 0⟩) (by simp [results, Tryz.results26, go_sem, t0, t1, t2, t3, Td.val, Td.cells]) rfl ?_
  exact ⟨_, rfl, HS.out.skip (((Fr.refl (fun _ => False) w).alloc _).alloc _) (by omega) HT.out (just4 _ _ _ _ _ _), HW.out⟩
set_option maxHeartbeats 1600000 in
set_option maxRecDepth 100000 in
theorem write_1 (b : Nat) (g : Gh) (w : World) (h : BufAt w b g) (hsz : g.txt.length + text.length ≤ 1099511627776) :
    Calls Tryz.prog 26 #[.pointer (some ⟨b, 0, none⟩), .agg #[.int .i64 1, .int .i64 a, .int .i64 bb, .int .u16 (size : Int), .int .i64 n, .int .u8 (sign.toNat : Int), .int .i32 char, .string ⟨text.toArray⟩, .slice ad cuts.length cap]] w (WDPost w b g ⟨text.length, [], 0, 0⟩ (Wrote g text)) := by
  have H := Lib.hid h
  have HB := Lib.hid (h.fr (((Fr.refl (fun _ => False) w).alloc _).alloc _) (fun _ _ q => q) : BufAt ((w.alloc (.cells #[.int .i64 1, .int .i64 a, .int .i64 bb, .int .u16 (size : Int), .int .i64 n, .int .u8 (sign.toNat : Int), .int .i32 char, .string ⟨text.toArray⟩, .slice ad cuts.length cap] 27)).alloc (.cells #[.int .i64 0, .string ⟨#[]⟩, .int .i32 0, .int .i64 0] 45)) b g)
  clear h
  obtain ⟨w0, all, hrun, hrow, htk, hla, hlen, hfr, hsz0⟩ := conv_bytes text ((w.alloc (.cells #[.int .i64 1, .int .i64 a, .int .i64 bb, .int .u16 (size : Int), .int .i64 n, .int .u8 (sign.toNat : Int), .int .i32 char, .string ⟨text.toArray⟩, .slice ad cuts.length cap] 27)).alloc (.cells #[.int .i64 0, .string ⟨#[]⟩, .int .i32 0, .int .i64 0] 45)) (by omega)
  obtain ⟨r, hr⟩ : ∃ r, r = ((w.alloc (.cells #[.int .i64 1, .int .i64 a, .int .i64 bb, .int .u16 (size : Int), .int .i64 n, .int .u8 (sign.toNat : Int), .int .i32 char, .string ⟨text.toArray⟩, .slice ad cuts.length cap] 27)).alloc (.cells #[.int .i64 0, .string ⟨#[]⟩, .int .i32 0, .int .i64 0] 45)).heap.size := ⟨_, rfl⟩
  rw [← hr] at hrun hrow
  have hrw : w.heap.size + 2 ≤ r := by rw [hr]; simp
  have hB0 := HB.out.fr hfr (fun _ _ q => q)
  have hT0 := (ToldAt.new2 w (.cells #[.int .i64 1, .int .i64 a, .int .i64 bb, .int .u16 (size : Int), .int .i64 n, .int .u8 (sign.toNat : Int), .int .i32 char, .string ⟨text.toArray⟩, .slice ad cuts.length cap] 27)).fr hfr (fun q => q)
  have hF0 : Fr (fun _ => False) w w0 := ((((Fr.refl (fun _ => False) w).alloc _).alloc _) : Fr _ w ((w.alloc (.cells #[.int .i64 1, .int .i64 a, .int .i64 bb, .int .u16 (size : Int), .int .i64 n, .int .u8 (sign.toNat : Int), .int .i32 char, .string ⟨text.toArray⟩, .slice ad cuts.length cap] 27)).alloc (.cells #[.int .i64 0, .string ⟨#[]⟩, .int .i32 0, .int .i64 0] 45))).trans hfr
  have hst : ∀ w', Fr (g.foot b) w0 w' → Src w' (.slice (some ⟨r, 0, none⟩) text.length all.length) text := fun w' hf => src_head (hrow.fr hf (fun q => by have := H.out.foot_lt q; omega)) htk hla
  have HSR := Lib.hid (src_head (c := all.length) hrow htk hla)
  have HST := Lib.hid hst
  have HB0 := Lib.hid hB0
  have HT0 := Lib.hid hT0
  have HF0 := Lib.hid hF0
  clear hfr hsz0 hrow htk hst hB0 hT0 hF0 hr
  go_enter Tryz.func26, Tryz.ntmps26
  go_wp2_with fail
  refine (bufW _ _ _ text _ b g HB0.out HSR.out rfl hsz (fun _ => HST.out)).mono ?_
  rintro e w1 ⟨g', rfl, S1, W1⟩
  have hT : ToldAt w1 (w.heap.size + 1) := S1.told HB0.out HT0.out
  have t0 := hT.c0; have t1 := hT.c1; have t2 := hT.c2; have t3 := hT.c3; have z0 := hT.f 0; have z1 := hT.f 1; have z2 := hT.f 2; have z3 := hT.f 3
  have HT := Lib.hid hT
  clear hT
  have HS := Lib.hid S1
  have HW := Lib.hid W1
  clear S1 W1
  go_wp2_with fail
  refine (said_nil _).mono ?_
  rintro e w2 ⟨rfl, rfl⟩
  go_wp2_with fail
  refine bodyPost_ret (v := Td.val ⟨text.length, [], 0, 0⟩) (by simp [results, Tryz.results26, go_sem, t0, t1, t2, t3, Td.val, Td.cells]) rfl ?_
  exact ⟨_, rfl, HS.out.skip HF0.out (by omega) HT.out (just4 _ _ _ _ _ _), HW.out⟩
set_option maxHeartbeats 1600000 in
set_option maxRecDepth 100000 in
theorem write_5 (b : Nat) (g : Gh) (w : World) (h : BufAt w b g) (hsz : g.txt.length + text.length ≤ 1099511627776) :
    Calls Tryz.prog 26 #[.pointer (some ⟨b, 0, none⟩), .agg #[.int .i64 5, .int .i64 a, .int .i64 bb, .int .u16 (size : Int), .int .i64 n, .int .u8 (sign.toNat : Int), .int .i32 char, .string ⟨text.toArray⟩, .slice ad cuts.length cap]] w (WDPost w b g ⟨text.length, [], 0, 0⟩ (Wrote0 g text)) := by
  have H := Lib.hid h
  have HB := Lib.hid (h.fr (((Fr.refl (fun _ => False) w).alloc _).alloc _) (fun _ _ q => q) : BufAt ((w.alloc (.cells #[.int .i64 5, .int .i64 a, .int .i64 bb, .int .u16 (size : Int), .int .i64 n, .int .u8 (sign.toNat : Int), .int .i32 char, .string ⟨text.toArray⟩, .slice ad cuts.length cap] 27)).alloc (.cells #[.int .i64 0, .string ⟨#[]⟩, .int .i32 0, .int .i64 0] 45)) b g)
  clear h
  go_enter Tryz.func26, Tryz.ntmps26
  go_wp2_with fail
  go_region_held3 (fun w' => w'.cell? ⟨w.heap.size, 7, none⟩ = some (.string ⟨text.toArray⟩)) (go_keep) ((first | (go_at_call 50; refine (buf_free _ b g (HB.out.drewN _)).mono ?_; rintro e w1 ⟨rfl, k, rfl⟩) | (refine step_free_app rfl (.tmp 12) (.tmp 14) rfl rfl rfl (b := b) (HB.out.drewN _) (by omega) ?_; intro A c w2 g0 hF; have hc7 : w2.cell? ⟨w.heap.size, 7, none⟩ = some (.string ⟨text.toArray⟩) := (hF.st.fr.cell (by simp; omega) (fun q => by have := H.out.foot_lt q; simp at this)).trans (by simp)) | (go_at_call 47; have hT2 := hF.st.told (HB.out.drewN _) (ToldAt.fr (ToldAt.new2 w (.cells #[.int .i64 5, .int .i64 a, .int .i64 bb, .int .u16 (size : Int), .int .i64 n, .int .u8 (sign.toNat : Int), .int .i32 char, .string ⟨text.toArray⟩, .slice ad cuts.length cap] 27)) ((Fr.refl (fun _ => False) _).drewN _) (fun q => q)); refine (bufW _ _ _ text _ b g0 hF.st.at' hF.src rfl (by rw [hF.txt]; exact hsz) hF.far).mono ?_; rintro e w3 ⟨g', rfl, S3, W3⟩; have hc8 : w3.cell? ⟨w.heap.size, 7, none⟩ = some (.string ⟨text.toArray⟩) := (S3.fr.cell (World.block_lt_of_cell? _ _ hc7) (fun q => by have := hF.st.foot_new H.out q; rcases this with this | this <;> simp at this <;> omega)).trans hc7; have hT := S3.told hF.st.at' hT2)))
  have t0 := hT.c0; have t1 := hT.c1; have t2 := hT.c2; have t3 := hT.c3; have z0 := hT.f 0; have z1 := hT.f 1; have z2 := hT.f 2; have z3 := hT.f 3
  have HT := Lib.hid hT
  clear hT
  have HS := Lib.hid (hF.st.trans S3)
  have HW := Lib.hid (show Wrote0 g text g' from ⟨by rw [W3.txt, hF.txt], W3.lr⟩)
  clear S3 W3 hF hT2 hc7 hc8
  go_wp2_with fail
  refine (said_nil _).mono ?_
  rintro e w2 ⟨rfl, rfl⟩
  go_wp2_with fail
  refine bodyPost_ret (v := Td.val ⟨text.length, [], 0, 0⟩) (by simp [results, Tryz.results26, go_sem, t0, t1, t2, t3, Td.val, Td.cells]) rfl ?_
  exact ⟨_, rfl, HS.out.skip (by first | exact ((((Fr.refl (fun _ => False) w).alloc _).alloc _)).drewN _ | exact (((((Fr.refl (fun _ => False) w).alloc _).alloc _)).drewN _).drewN _ | exact ((((Fr.refl (fun _ => False) w).alloc _).alloc _)).drew.drewN _) (by omega) HT.out (just4 _ _ _ _ _ _), HW.out⟩
end
end Go.Proofs.YtkggebhkjgjijaaGreatDoor
