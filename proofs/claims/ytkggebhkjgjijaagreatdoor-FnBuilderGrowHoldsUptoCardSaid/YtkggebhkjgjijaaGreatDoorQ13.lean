/- BldG. -/
import Derived.Test.YtkggebhkjgjijaaGreatDoorQ12
import Derived.Lib.MakeNoZero
import Derived.Lib.UnsafeStr
import Derived.Lib.Builder
import Derived.WalkKit
import Derived.Laws.Externs
import Derived.Shelf.RegionOpenPlain
namespace Go.Proofs.YtkggebhkjgjijaaGreatDoor
open Go Go.RowKit

/-- What a builder is made of: the block of its bytes, what is built, the capacity, whether it knows its own address. -/
structure BG where
  row : Option Nat
  txt : List UInt8
  cap : Nat
  chk : Bool

def BG.ptr (d : Nat) (g : BG) : Value := .pointer (if g.chk then some ⟨d, 0, none⟩ else none)
/-- Block d is a strings.Builder with this state. -/
structure BldAt (w : World) (d : Nat) (g : BG) : Prop where
  st : w.heap[d]? = some (.cells #[g.ptr d, .slice (rowA g.row) g.txt.length g.cap] 74 (0, 0))
  row : ∀ r, g.row = some r → ∃ (rest : List Value) (fz : Nat × Nat), w.heap[r]? = some (.cells (bcs g.txt ++ rest).toArray 5 fz) ∧ g.txt.length + rest.length = g.cap ∧ fz.2 ≤ g.txt.length
  pos : ∀ r, g.row = some r → 0 < g.cap
  nil : g.row = none → g.txt = [] ∧ g.cap = 0
  sz : g.cap ≤ 9223372036854775807

/-- The blocks that a builder lies in. -/
def BG.foot (d : Nat) (g : BG) : Nat → Prop := fun x => x = d ∨ g.row = some x
section
variable {w w' : World} {d : Nat} {g : BG}
theorem BldAt.lt (h : BldAt w d g) : d < w.heap.size := lt_of_blk h.st
theorem BldAt.c0 (h : BldAt w d g) : w.cell? ⟨d, 0, none⟩ = some (g.ptr d) := by rw [cell_of_row w d 0 _ _ _ h.st]; rfl
theorem BldAt.c1 (h : BldAt w d g) : w.cell? ⟨d, 1, none⟩ = some (.slice (rowA g.row) g.txt.length g.cap) := by rw [cell_of_row w d 1 _ _ _ h.st]; rfl
theorem BldAt.f (h : BldAt w d g) (i : Nat) : w.frozen? ⟨d, i, none⟩ = false := by simp [World.frozen?, h.st]
theorem BldAt.rne (h : BldAt w d g) {r : Nat} (hr : g.row = some r) : r ≠ d := by
  rintro rfl
  obtain ⟨rest, fz, h1, _⟩ := h.row r hr
  rw [h.st] at h1
  injection h1 with h1
  injection h1 with _ h1
  exact absurd h1 (by decide)
theorem BldAt.lc (h : BldAt w d g) : g.txt.length ≤ g.cap := by
  cases hr : g.row with
  | none => have := h.nil hr; simp [this.1]
  | some r => obtain ⟨rest, fz, _, h2, _⟩ := h.row r hr; omega
theorem BldAt.fr {S : Nat → Prop} (h : BldAt w d g) (hf : Fr S w w') (hn : ∀ x, g.foot d x → ¬ S x) : BldAt w' d g := by
  refine ⟨hf.blk h.st (hn d (.inl rfl)), fun r hr => ?_, h.pos, h.nil, h.sz⟩
  obtain ⟨rest, fz, h1, h2⟩ := h.row r hr
  exact ⟨rest, fz, hf.blk h1 (hn r (.inr hr)), h2⟩
theorem BldAt.drew (h : BldAt w d g) : BldAt w.drew d g := ⟨h.st, h.row, h.pos, h.nil, h.sz⟩
theorem BldAt.drewN (h : BldAt w d g) (n : Nat) : BldAt (w.drewN n) d g := ⟨h.st, h.row, h.pos, h.nil, h.sz⟩
theorem BldAt.src (h : BldAt w d g) : Src w (.slice (rowA g.row) g.txt.length g.cap) g.txt := by
  refine .inr ⟨_, _, rfl, fun q => ?_⟩
  cases hr : g.row with
  | none => have := h.nil hr; simp [this.1] at q
  | some r =>
    obtain ⟨rest, fz, h1, _⟩ := h.row r hr
    refine ⟨_, rfl, fun j x hj => ?_⟩
    have hjl : j < g.txt.length := (List.getElem?_eq_some_iff.1 hj).1
    rw [addr_add, Nat.zero_add, cell_of_row w r j _ _ _ h1]
    simp only [List.getElem?_toArray]
    rw [List.getElem?_append_left (by simpa using hjl)]
    exact bcs_get hj
/-- The struct's first cell laid anew: it knows its address. -/
theorem BldAt.chk' (h : BldAt w d g) : BldAt (w.setCell ⟨d, 0, none⟩ (.pointer (some ⟨d, 0, none⟩))) d { g with chk := true } := by
  refine ⟨?_, fun r hr => ?_, h.pos, h.nil, h.sz⟩
  · have := h.st
    simp [World.setCell, Array.getElem?_modify, this, BG.ptr]
  · obtain ⟨rest, fz, h1, h2⟩ := h.row r hr
    exact ⟨rest, fz, (Below.heap_setCell w _ _ r (h.rne hr)).trans h1, h2⟩
end

theorem bld_lies : liesAt Tryz.prog Tryz.prog.depth 74 (2 / Tryz.prog.cellsOf 74) 0 74 1 = true := by kernel_rfl
theorem cells_byte : Tryz.prog.cellsOf 5 = 1 := by kernel_rfl
theorem bld_size : (Tryz.prog.info? 74).map (·.size) = some 2 := by kernel_rfl
section
variable (w : World) (d : Nat) (g : BG)
set_option maxRecDepth 100000 in
theorem bld_len (h : BldAt w d g) : Calls Tryz.prog 22 #[.pointer (some ⟨d, 0, none⟩)] w fun e w' => e = .returned (.int .i64 (g.txt.length : Int)) ∧ w' = w := by
  have c1 := h.c1
  clear h
  go_enter Tryz.func22, Tryz.ntmps22
  go_wp2
  go_ret
  exact ⟨rfl, rfl⟩
set_option maxRecDepth 100000 in
theorem bld_reset (h : BldAt w d g) : Calls Tryz.prog 45 #[.pointer (some ⟨d, 0, none⟩)] w fun e w' => e = .returned (.tuple #[]) ∧ BldAt w' d ⟨none, [], 0, false⟩ ∧ Fr (Just d) w w' := by
  have c0 := h.c0
  have c1 := h.c1
  have f0 := h.f 0
  have f1 := h.f 1
  have H := Lib.hid h
  clear h
  go_enter Tryz.func45, Tryz.ntmps45
  go_wp2
  go_end0
  refine ⟨rfl, ⟨?_, (fun r q => by cases q), (fun r q => by cases q), fun _ => ⟨rfl, rfl⟩, by simp⟩, ((Fr.refl _ w).setCell (fun _ => just_self d) _).setCell (fun _ => just_self d) _⟩
  have := H.out.st
  simp [World.setCell, Array.getElem?_modify, this, BG.ptr]
set_option maxRecDepth 100000 in
theorem bld_check (h : BldAt w d g) : Calls Tryz.prog 74 #[.pointer (some ⟨d, 0, none⟩)] w fun e w' => e = .returned (.tuple #[]) ∧ BldAt w' d { g with chk := true } ∧ Fr (Just d) w w' := by
  have c0 := h.c0
  have f0 := h.f 0
  have H := Lib.hid h
  obtain ⟨j, hj, hjs⟩ := Option.map_eq_some_iff.1 bld_size
  have hsh : w.shape? d = some (74, 2) := by simp [World.shape?, h.st]
  clear h
  cases hc : g.chk with
  | false =>
    unfold BG.ptr at c0
    rw [hc] at c0
    simp only [Bool.false_eq_true, if_false] at c0
    go_enter Tryz.func74, Tryz.ntmps74
    go_wp2_with fail
    rw [Lib.run_to_unsafe w ⟨d, 0, none⟩ Tryz.underlying72 Tryz.underlying138 hj (by rw [hjs]; decide) hsh (Nat.zero_lt_succ 1)]
    simp only [Result.andThen]
    rw [Oper.upon_value]
    go_wp2_with fail
    rw [run_callFunc_extern Tryz.func84 (by kernel_rfl) (by kernel_rfl) (by kernel_rfl) (e := Extern.AbiNoEscape.same) (by kernel_rfl)]
    rw [Lib.run_noEscape]
    simp only [Result.andThen]
    rw [Oper.upon_value]
    go_wp2_with fail
    rw [Lib.run_from_unsafe w ⟨d, 0, none⟩ Tryz.underlying138 Tryz.underlying72 hj hsh bld_lies]
    simp only [Result.andThen]
    rw [Oper.upon_value]
    go_wp2_with fail
    go_end0
    exact ⟨rfl, H.out.chk', just_set _ _ _ _⟩
  | true =>
    unfold BG.ptr at c0
    rw [hc] at c0
    simp only [if_true] at c0
    go_enter Tryz.func74, Tryz.ntmps74
    go_wp2_with fail
    rw [Lib.run_neq_ptr_same w _ Tryz.underlying72 hj]
    go_wp2_with fail
    go_end0
    refine ⟨rfl, ?_, Fr.refl _ _⟩
    have := H.out
    obtain ⟨a1, a2, a3, a4⟩ := g
    simp only at hc
    subst hc
    exact this
end
end Go.Proofs.YtkggebhkjgjijaaGreatDoor

namespace Go.Proofs.YtkggebhkjgjijaaGreatDoor
open Go Go.RowKit

/-- A step of a builder: where it lies then. -/
structure BldStep (w : World) (d : Nat) (g : BG) (w' : World) (g' : BG) : Prop where
  at' : BldAt w' d g'
  row : g'.row = g.row ∨ g'.row = none ∨ ∃ r, g'.row = some r ∧ w.heap.size ≤ r
  fr : Fr (g.foot d) w w'
/-- What a write of l leaves. -/
structure Built (g : BG) (l : List UInt8) (g' : BG) : Prop where
  txt : g'.txt = g.txt ++ l
  cap : g.txt.length + l.length ≤ g.cap → g'.cap = g.cap

theorem BldStep.trans {w w1 w2 : World} {d : Nat} {g g1 g2 : BG} (h : BldStep w d g w1 g1) (k : BldStep w1 d g1 w2 g2) : BldStep w d g w2 g2 := by
  refine ⟨k.at', ?_, h.fr.trans' k.fr ?_⟩
  · rcases k.row with e | e | ⟨r, e, hr⟩
    · rw [e]
      exact h.row
    · exact .inr (.inl e)
    · exact .inr (.inr ⟨r, e, Nat.le_trans h.fr.size hr⟩)
  · intro i hi q
    rcases q with q | q
    · exact .inl q
    · rcases h.row with e | e | ⟨r, e, hr⟩
      · exact .inr (e ▸ q)
      · rw [e] at q; cases q
      · rw [e] at q; injection q with q; omega
theorem BldStep.of_just {w w' : World} {d : Nat} {g g' : BG} (h : BldAt w' d g') (hr : g'.row = g.row) (hf : Fr (Just d) w w') : BldStep w d g w' g' := ⟨h, .inl hr, hf.mono fun _ _ q => .inl q⟩
theorem BldAt.toSrc {w w' : World} {d : Nat} {g : BG} {v : Value} {l : List UInt8} (hb : BldAt w d g) (h : Src w v l) (hf : Fr (Just d) w w') : Src w' v l := by
  refine h.fr hf fun i c E fz q hc j x hj => ?_
  obtain rfl : i = d := q
  rw [hb.st] at hc
  injection hc with hc
  injection hc with hc
  subst hc
  match j, hj with
  | 0, hj => simp [BG.ptr] at hj
  | 1, hj => simp at hj
  | j + 2, hj => simp at hj

/-- A new slice in the struct. -/
theorem BldAt.put {w w' : World} {d : Nat} {g : BG} {row : Option Nat} {txt : List UInt8} {cap : Nat} (h : BldAt w d g) (hf : Fr (fun x => g.row = some x) w w')
    (hrow : ∀ r, row = some r → r ≠ d ∧ 0 < cap ∧ ∃ (rest : List Value) (fz : Nat × Nat), w'.heap[r]? = some (.cells (bcs txt ++ rest).toArray 5 fz) ∧ txt.length + rest.length = cap ∧ fz.2 ≤ txt.length)
    (hnil : row = none → txt = [] ∧ cap = 0) (hc : cap ≤ 9223372036854775807) : BldAt (w'.setCell ⟨d, 1, none⟩ (.slice (rowA row) txt.length cap)) d ⟨row, txt, cap, g.chk⟩ := by
  have hst : w'.heap[d]? = _ := hf.blk h.st (fun q => h.rne q rfl)
  refine ⟨?_, fun r hr => ?_, fun r hr => (hrow r hr).2.1, hnil, hc⟩
  · simp [World.setCell, Array.getElem?_modify, hst, BG.ptr]
  · obtain ⟨h1, h2, rest, fz, h3, h4⟩ := hrow r hr
    exact ⟨rest, fz, (Below.heap_setCell w' _ _ r h1).trans h3, h4⟩

/-- append to a builder's bytes. -/
structure BldApp (w : World) (d : Nat) (g : BG) (l : List UInt8) (v : Value) (w' : World) (g' : BG) : Prop where
  val : v = .slice (rowA g'.row) g'.txt.length g'.cap
  at' : BldAt (w'.setCell ⟨d, 1, none⟩ v) d g'
  built : Built g l g'
  chk : g'.chk = g.chk
  row : g'.row = g.row ∨ g'.row = none ∨ ∃ r, g'.row = some r ∧ w.heap.size ≤ r
  fr : Fr (fun x => g.row = some x) w w'
theorem BldApp.c1 {w w' : World} {d : Nat} {g g' : BG} {l : List UInt8} {v : Value} (h : BldApp w d g l v w' g') (hb : BldAt w d g) : w'.cell? ⟨d, 1, none⟩ = some (.slice (rowA g.row) g.txt.length g.cap) :=
  (h.fr.cell hb.lt (fun q => hb.rne q rfl)).trans hb.c1
theorem BldApp.f1 {w w' : World} {d : Nat} {g g' : BG} {l : List UInt8} {v : Value} (h : BldApp w d g l v w' g') (hb : BldAt w d g) : w'.frozen? ⟨d, 1, none⟩ = false := by
  have := h.fr.blk hb.st (fun q => hb.rne q rfl)
  simp [World.frozen?, this]
theorem BldApp.step {w w' : World} {d : Nat} {g g' : BG} {l : List UInt8} {v : Value} (h : BldApp w d g l v w' g') : BldStep w d g (w'.setCell ⟨d, 1, none⟩ v) g' :=
  ⟨h.at', h.row, (h.fr.mono fun _ _ q => .inr q).setCell (fun _ => .inl rfl) _⟩

theorem bld_app {w : World} {d : Nat} {g : BG} {l : List UInt8} {x : Value} {xT ty : TypeId} {u : TypeDesc} (h : BldAt w d g) (hx : Tryz.prog.underlying xT = some u) (hnot : ∀ k, u ≠ .int k) (hs : Src w x l) (hl : g.txt.length + l.length ≤ 1099511627776) :
    ∃ v w' g', (Builtin.append_ #[48, xT] ty #[.slice (rowA g.row) g.txt.length g.cap, x]).run Tryz.prog w = .ok v w' ∧ BldApp w d g l v w' g' := by
  obtain ⟨i0, hi, hz0, hz1, hz2⟩ := info_parts info_u8
  have hlen := run_lenOf_src (P := Tryz.prog) hs
  have hf := run_firstCells_src (P := Tryz.prog) hs l.length (Nat.le_refl _)
  rw [List.take_length] at hf
  by_cases hfit : g.txt.length + l.length ≤ g.cap
  · cases hr : g.row with
    | none =>
      obtain ⟨h1, h2⟩ := h.nil hr
      obtain rfl : l = [] := by rw [h1, h2] at hfit; exact List.eq_nil_of_length_eq_zero (by simpa using hfit)
      refine ⟨.slice none 0 0, w, g, ?_, ⟨by rw [hr, h1, h2]; rfl, ?_, ⟨by simp, fun _ => rfl⟩, rfl, .inl rfl, Fr.refl _ _⟩⟩
      · rw [h1, h2]
        have hf0 : (Builtin.firstCells 1 0 x).run Tryz.prog w = .ok (bcs []).toArray w := hf
        simp [Builtin.append_, run_underlying Tryz.underlying48, run_underlying hx, sizeOf, typeInfo, hi, hz1, hlen, hf0]
      · have := h.put (row := none) (txt := []) (cap := 0) (Fr.refl _ w) (fun r q => by cases q) (fun _ => ⟨rfl, rfl⟩) (by simp)
        obtain ⟨a1, a2, a3, a4⟩ := g
        simp only at hr h1 h2
        subst hr h1 h2
        exact this
    | some r =>
      obtain ⟨rest, fz, hb, hc, hz⟩ := h.row r hr
      have hst := run_storeCells_free Tryz.prog r g.txt.length 5 fz (bcs l) 0 (bcs g.txt ++ rest).toArray w hb (fun j h3 h4 => by omega) (by simp; omega) (bcs_one _)
      have e : (bcs g.txt ++ rest).toArray.toList.take (g.txt.length + 0) ++ bcs l ++ (bcs g.txt ++ rest).toArray.toList.drop (g.txt.length + 0 + (bcs l).length) = bcs (g.txt ++ l) ++ rest.drop l.length := by
        simp only [Nat.add_zero, bcs_append]
        rw [List.take_append_of_le_length (by simp), List.take_of_length_le (by simp), List.drop_append]
        simp
      rw [e] at hst
      have hfr : Fr (fun x => g.row = some x) w (w.setRow r (bcs (g.txt ++ l) ++ rest.drop l.length).toArray) := (Fr.refl _ w).setRow (fun _ => hr) _
      refine ⟨.slice (some ⟨r, 0, none⟩) (g.txt ++ l).length g.cap, w.setRow r (bcs (g.txt ++ l) ++ rest.drop l.length).toArray, ⟨some r, g.txt ++ l, g.cap, g.chk⟩, ?_, ⟨rfl, ?_, ⟨rfl, fun _ => rfl⟩, rfl, .inl hr.symm, hfr⟩⟩
      · have hv : (rowA (some r)) = some ⟨r, 0, none⟩ := rfl
        rw [hv]
        simp [Builtin.append_, run_underlying Tryz.underlying48, run_underlying hx, sizeOf, typeInfo, hi, hz1, hlen, hfit, hf, addr_add, hst]
      · refine h.put (row := some r) (txt := g.txt ++ l) (cap := g.cap) hfr (fun r' q => ?_) (fun q => by cases q) h.sz
        injection q with q
        subst q
        refine ⟨h.rne hr, h.pos _ hr, rest.drop l.length, fz, setRow_heap w r _ _ _ _ hb, ?_, ?_⟩
        · simp; omega
        · simp; omega
  · obtain ⟨cap2, w', hrun, hblk, hge, hle, hfr, hsz⟩ := run_append_grow (P := Tryz.prog) (dT := 48) (xT := xT) (ty := ty) (n := g.txt.length) (c := g.cap) Tryz.underlying48 hx hnot hi hz1 hz2 hz0 h.src rfl hs (by omega) (by omega)
    have hne : ¬ l = [] := by
      rintro rfl
      have := h.lc
      simp at hfit
      omega
    have hlp := List.length_pos_iff.2 hne
    refine ⟨_, w', ⟨some w.heap.size, g.txt ++ l, cap2, g.chk⟩, hrun, ⟨by simp, ?_, ⟨rfl, fun q => absurd q hfit⟩, rfl, .inr (.inr ⟨_, rfl, Nat.le_refl _⟩), hfr.mono fun _ _ q => q.elim⟩⟩
    have := h.put (row := some w.heap.size) (txt := g.txt ++ l) (cap := cap2) (hfr.mono fun _ _ q => q.elim) (fun r q => ?_) (fun q => by cases q) hle
    · simpa using this
    · injection q with q
      subst q
      refine ⟨fun q => by have := h.lt; omega, by omega, bcs (List.replicate (cap2 - (g.txt.length + l.length)) 0), (0, 0), ?_, by simp; omega, Nat.zero_le _⟩
      rw [← bcs_append]
      exact hblk

def BWPost (w : World) (d : Nat) (g : BG) (l : List UInt8) (e : Ending) (w' : World) : Prop :=
  ∃ g', e = .returned (.tuple #[.int .i64 (l.length : Int), .nilIface]) ∧ BldStep w d g w' g' ∧ Built g l g'
theorem Built.chk {g g' : BG} {l : List UInt8} (h : Built { g with chk := true } l g') : Built g l g' := ⟨h.txt, h.cap⟩
theorem BldStep.chk {w w' : World} {d : Nat} {g : BG} (h : BldAt w' d { g with chk := true }) (hf : Fr (Just d) w w') : BldStep w d g w' { g with chk := true } := BldStep.of_just h rfl hf

set_option maxHeartbeats 800000 in
set_option maxRecDepth 100000 in
theorem bldWS (l : List UInt8) (w : World) (d : Nat) (g : BG) (h : BldAt w d g) (hl : g.txt.length + l.length ≤ 1099511627776) :
    Calls Tryz.prog 41 #[.pointer (some ⟨d, 0, none⟩), .string ⟨l.toArray⟩] w (BWPost w d g l) := by
  have H := Lib.hid h
  clear h
  go_enter Tryz.func41, Tryz.ntmps41
  go_wp2_with fail
  refine (bld_check w d g H.out).mono ?_
  rintro e w1 ⟨rfl, H1, F1⟩
  obtain ⟨v, w2, g2, hrun, ha⟩ := bld_app (xT := 9) (ty := 48) H1 Tryz.underlying9 (fun k q => by cases q) (Src.str w1 l) hl
  obtain rfl := ha.val
  have c1 := H1.c1
  have k1 := ha.c1 H1
  have k2 := ha.f1 H1
  have HA := Lib.hid ha
  have S1 := Lib.hid (BldStep.chk H1 F1)
  simp only at c1
  clear H1 F1 ha
  go_wp2_with (at_builtin; refine wpList_plain rfl (fun K hK => wp_append_of_run _ _ _ _ rfl rfl rfl hrun (hK _ _ ?_)))
  go_ret2
  exact ⟨g2, by simp, S1.out.trans HA.out.step, HA.out.built.chk⟩

set_option maxHeartbeats 800000 in
set_option maxRecDepth 100000 in
theorem bldW (A : Option Addr) (k c : Nat) (l : List UInt8) (w : World) (d : Nat) (g : BG) (h : BldAt w d g) (hs : Src w (.slice A k c) l) (hk : l.length = k) (hl : g.txt.length + l.length ≤ 1099511627776) :
    Calls Tryz.prog 39 #[.pointer (some ⟨d, 0, none⟩), .slice A k c] w (BWPost w d g l) := by
  have H := Lib.hid h
  have HS := Lib.hid hs
  have HK := Lib.hid hk
  clear h hs hk
  go_enter Tryz.func39, Tryz.ntmps39
  go_wp2_with fail
  refine (bld_check w d g H.out).mono ?_
  rintro e w1 ⟨rfl, H1, F1⟩
  obtain ⟨v, w2, g2, hrun, ha⟩ := bld_app (xT := 48) (ty := 48) H1 Tryz.underlying48 (fun k q => by cases q) (H.out.toSrc HS.out F1) hl
  obtain rfl := ha.val
  have c1 := H1.c1
  have k1 := ha.c1 H1
  have k2 := ha.f1 H1
  have HA := Lib.hid ha
  have S1 := Lib.hid (BldStep.chk H1 F1)
  simp only at c1
  clear H1 F1 ha
  go_wp2_with (at_builtin; refine wpList_plain rfl (fun K hK => wp_append_of_run _ _ _ _ rfl rfl rfl hrun (hK _ _ ?_)))
  go_ret2
  exact ⟨g2, by rw [HK.out]; rfl, S1.out.trans HA.out.step, HA.out.built.chk⟩

def BBPost (w : World) (d : Nat) (g : BG) (x : UInt8) (e : Ending) (w' : World) : Prop :=
  ∃ g', e = .returned .nilIface ∧ BldStep w d g w' g' ∧ Built g [x] g'
set_option maxHeartbeats 800000 in
set_option maxRecDepth 100000 in
theorem bldWB (x : UInt8) (w : World) (d : Nat) (g : BG) (h : BldAt w d g) (hl : g.txt.length + 1 ≤ 1099511627776) :
    Calls Tryz.prog 42 #[.pointer (some ⟨d, 0, none⟩), .int .u8 (x.toNat : Int)] w (BBPost w d g x) := by
  have H := Lib.hid h
  clear h
  go_enter Tryz.func42, Tryz.ntmps42
  go_wp2_with fail
  refine (bld_check w d g H.out).mono ?_
  rintro e w1 ⟨rfl, H1, F1⟩
  have hnew := Row.new w1 5 [x]
  have hH2 : BldAt (w1.alloc (.cells (bcs [x]).toArray 5)) d { g with chk := true } := H1.fr ((Fr.refl (fun _ => False) w1).alloc _) (fun _ _ q => q)
  have hsrc := Src.of_row (o := 0) (n := 1) (c := 1) (A := some ⟨w1.heap.size, 0, none⟩) hnew (fun _ => rfl) (by simp)
  obtain ⟨v, w2, g2, hrun, ha⟩ := bld_app (xT := 48) (ty := 48) hH2 Tryz.underlying48 (fun k q => by cases q) hsrc (by simpa using hl)
  obtain rfl := ha.val
  have c1 := H1.c1
  have k1 := ha.c1 hH2
  have k2 := ha.f1 hH2
  have HA := Lib.hid ha
  have S1 := Lib.hid ((BldStep.chk H1 F1).trans ⟨hH2, .inl rfl, (Fr.refl _ w1).alloc _⟩)
  simp only [bcs, List.map_cons, List.map_nil] at c1 hrun
  clear H1 F1 ha hnew hH2 hsrc
  go_wp2_with (at_builtin; refine wpList_plain rfl (fun K hK => wp_append_of_run _ _ _ _ rfl rfl rfl hrun (hK _ _ ?_)))
  go_ret
  exact ⟨g2, rfl, S1.out.trans HA.out.step, HA.out.built.chk⟩

/-- A rune's bytes behind a builder's. -/
theorem bld_rune {w : World} {d : Nat} {g : BG} (h : BldAt w d g) (r : Int) (hl : g.txt.length + 4 ≤ 1099511627776) :
    ∃ v w2 g2, RuneApp w (.slice (rowA g.row) g.txt.length g.cap) r v w2 ∧ BldApp (w.alloc (.cells (Lib.runeCells r).toArray 5)) d g (Lib.encodeRune r) v w2 g2 ∧ BldAt (w.alloc (.cells (Lib.runeCells r).toArray 5)) d g := by
  have hle := Lib.encodeRuneZ_length r
  have hlen : (Lib.encodeRune r).length = (Lib.encodeRuneZ r).length := by simp [Lib.encodeRune]
  have hnew : Row 5 (w.alloc (.cells (Lib.runeCells r).toArray 5)) w.heap.size (Lib.encodeRune r) := by
    have := Row.new w 5 (Lib.encodeRune r)
    rwa [bcs_rune] at this
  have hsrc : Src (w.alloc (.cells (Lib.runeCells r).toArray 5)) (.slice (some ⟨w.heap.size, 0, none⟩) (Lib.runeCells r).length (Lib.runeCells r).length) (Lib.encodeRune r) := by
    have := Src.of_row (o := 0) (n := (Lib.runeCells r).length) (c := (Lib.runeCells r).length) (A := some ⟨w.heap.size, 0, none⟩) hnew (fun _ => rfl) (by rw [Lib.runeCells_length]; omega)
    rwa [List.drop_zero, List.take_of_length_le (by rw [Lib.runeCells_length]; omega)] at this
  have hH2 : BldAt (w.alloc (.cells (Lib.runeCells r).toArray 5)) d g := h.fr ((Fr.refl (fun _ => False) w).alloc _) (fun _ _ q => q)
  obtain ⟨v, w2, g2, hrun, ha⟩ := bld_app (xT := 48) (ty := 48) hH2 Tryz.underlying48 (fun k q => by cases q) hsrc (by omega)
  exact ⟨v, w2, g2, hrun, ha, hH2⟩

set_option maxHeartbeats 800000 in
set_option maxRecDepth 100000 in
theorem bldWR (r : Int) (w : World) (d : Nat) (g : BG) (h : BldAt w d g) (hgood : ¬ badRune r) (hl : g.txt.length + 4 ≤ 1099511627776) :
    Calls Tryz.prog 43 #[.pointer (some ⟨d, 0, none⟩), .int .i32 r] w (BWPost w d g (enc r)) := by
  rw [enc_good hgood]
  have hlen := Lib.encodeRuneZ_length r
  have hlen' : (Lib.encodeRune r).length = (Lib.encodeRuneZ r).length := by simp [Lib.encodeRune]
  have H := Lib.hid h
  have HG := Lib.hid hgood
  clear h hgood
  go_enter Tryz.func43, Tryz.ntmps43
  go_wp2_with fail
  refine (bld_check w d g H.out).mono ?_
  rintro e w1 ⟨rfl, H1, F1⟩
  obtain ⟨v, w2, g2, hrun, ha, hH2⟩ := bld_rune H1 r hl
  obtain rfl := ha.val
  have hc := appendRune_of _ _ r w1 w2 HG.out hrun
  have c1 := H1.c1
  have k1 := ha.c1 hH2
  have k2 := ha.f1 hH2
  have k3 := ha.at'.c1
  have htx : g2.txt.length = g.txt.length + (Lib.encodeRune r).length := by rw [ha.built.txt]; simp
  have hsub : (g2.txt.length : Int) - (g.txt.length : Int) = ((Lib.encodeRune r).length : Int) := by omega
  have hb1 : g2.txt.length ≤ 1099511627776 := by omega
  have hb2 : g.txt.length ≤ g2.txt.length := by omega
  have HA := Lib.hid ha
  have S1 := Lib.hid ((BldStep.chk H1 F1).trans ⟨hH2, .inl rfl, (Fr.refl _ w1).alloc _⟩)
  have HC := Lib.hid hc
  simp only at c1 k1
  clear H1 F1 ha hH2 hrun hc htx hlen hlen'
  go_wp2_with fail
  refine HC.out.mono ?_
  rintro e w3 ⟨rfl, rfl⟩
  go_wp2_with fail
  go_ret2
  exact ⟨g2, rfl, S1.out.trans HA.out.step, HA.out.built.chk⟩
end Go.Proofs.YtkggebhkjgjijaaGreatDoor

namespace Go.Proofs.YtkggebhkjgjijaaGreatDoor
open Go Go.RowKit

theorem freeze_fr (w : World) (r n : Nat) : Fr (Just r) w (w.freeze ⟨r, 0, none⟩ n) := by
  unfold World.freeze
  split
  · exact Fr.refl _ _
  · refine ⟨rfl, rfl, rfl, by simp, fun i hi hn => ?_⟩
    have : r ≠ i := fun q => hn q.symm
    simp [Array.getElem?_modify, this]
theorem BldAt.freeze {w : World} {d : Nat} {g : BG} {r : Nat} (h : BldAt w d g) (hr : g.row = some r) (h0 : g.txt.length ≠ 0) : BldAt (w.freeze ⟨r, 0, none⟩ g.txt.length) d g := by
  have hf := freeze_fr w r g.txt.length
  refine ⟨hf.blk h.st (fun q => h.rne hr q.symm), fun r' hr' => ?_, h.pos, h.nil, h.sz⟩
  obtain rfl : r = r' := by rw [hr] at hr'; exact Option.some.inj hr'
  obtain ⟨rest, ⟨lo, hi⟩, h1, h2, h3⟩ := h.row r hr
  refine ⟨rest, (if lo == hi then (0, 0 + g.txt.length) else (min lo 0, max hi (0 + g.txt.length))), ?_, h2, ?_⟩
  · simp [World.freeze, h0, Array.getElem?_modify, h1]
  · simp only at h3 ⊢
    split
    · simp
    · simp; omega

set_option maxHeartbeats 800000 in
set_option maxRecDepth 100000 in
theorem bld_string_some (w : World) (d : Nat) (g : BG) (h : BldAt w d g) (h0 : g.txt ≠ []) :
    Calls Tryz.prog 46 #[.pointer (some ⟨d, 0, none⟩)] w fun e w' => e = .returned (.string ⟨g.txt.toArray⟩) ∧ BldAt w' d g ∧ Fr (fun x => g.row = some x) w w' := by
  cases hr : g.row with
  | none => exact absurd (h.nil hr).1 h0
  | some r =>
    have hlc := h.lc
    have hz := h.sz
    have hp := h.pos r hr
    have hlen : g.txt.length ≠ 0 := fun q => h0 (List.eq_nil_of_length_eq_zero q)
    have c1 := h.drew.c1
    rw [hr, rowA_some] at c1
    obtain ⟨rest, fz, hb, hc, hfz⟩ := h.row r hr
    have hSD : (Builtin.unsafeSliceData_ #[48] 127 #[.slice (some ⟨r, 0, none⟩) g.txt.length g.cap]).run Tryz.prog w.drew = .ok (.pointer (some ⟨r, 0, none⟩)) w.drew :=
      Lib.run_unsafeSliceData_row _ _ _ _ _ _ (by omega)
    have hUS : (Builtin.unsafeString_ #[127, 3] 9 #[.pointer (some ⟨r, 0, none⟩), .int .i64 g.txt.length]).run Tryz.prog w.drew = .ok (.string ⟨g.txt.toArray⟩) (w.drew.freeze ⟨r, 0, none⟩ g.txt.length) := by
      refine Lib.run_unsafeString_row w.drew 127 3 9 5 Tryz.underlying127 cells_byte r (bcs g.txt ++ rest).toArray.size (by have hg' : w.drew.heap[r]? = _ := hb; simp [World.shape?, hg']) g.txt h0 (by simp) (by omega) ?_
      intro j x hx
      have hjl : j < g.txt.length := (List.getElem?_eq_some_iff.1 hx).1
      rw [addr_add, Nat.zero_add, cell_of_row w.drew r j _ _ _ hb]
      simp only [List.getElem?_toArray]
      rw [List.getElem?_append_left (by simpa using hjl)]
      exact bcs_get hx
    have HB := Lib.hid (h.drew.freeze hr hlen)
    have HF := Lib.hid (((Fr.refl (fun x => some r = some x) w).drew).trans ((freeze_fr w.drew r g.txt.length).mono fun x _ q => by rw [q]))
    clear h hb
    go_enter Tryz.func46, Tryz.ntmps46
    go_wp2_with fail
    refine wp_region_mixed 10 (by kernel_rfl) (by kernel_rfl) (fun _ _ d _ _ h => by cases d <;> exact h) ?_
    simp only [List.take_succ_cons, List.take_zero, List.drop_succ_cons, List.drop_zero, List.filter_cons, List.filter_nil, isMv, Array.isEmpty_iff, Bool.not_false, Bool.and_true, Option.isNone_none, if_true, if_false, Bool.false_eq_true]
    repeat still_step
    refine wpStill_nil ?_
    go_wp2_with fail
    go_ret
    exact ⟨rfl, HB.out, HF.out⟩

set_option maxHeartbeats 800000 in
set_option maxRecDepth 100000 in
theorem bld_string_none (w : World) (d : Nat) (g : BG) (h : BldAt w d g) (h0 : g.txt = []) :
    Calls Tryz.prog 46 #[.pointer (some ⟨d, 0, none⟩)] w fun e w' => e = .returned (.string ⟨#[]⟩) ∧ BldAt w' d g ∧ Fr (fun x => g.row = some x) w w' := by
  have hUS : ∀ q, (Builtin.unsafeString_ #[127, 3] 9 #[.pointer q, .int .i64 0]).run Tryz.prog w.drew = .ok (.string .empty) w.drew := fun q => Lib.run_unsafeString_none w.drew _ _ _ q
  have c1 := h.drew.c1
  rw [h0] at c1
  simp only [List.length_nil] at c1
  have HB := Lib.hid h.drew
  have HF := Lib.hid ((Fr.refl (fun x => g.row = some x) w).drew)
  cases hr : g.row with
  | none =>
    have hSD : (Builtin.unsafeSliceData_ #[48] 127 #[.slice none 0 0]).run Tryz.prog w.drew = .ok (.pointer none) w.drew := rfl
    rw [hr, rowA_none, (h.nil hr).2] at c1
    rw [hr] at HF
    clear h
    go_enter Tryz.func46, Tryz.ntmps46
    go_wp2_with fail
    refine wp_region_mixed 10 (by kernel_rfl) (by kernel_rfl) (fun _ _ d _ _ h => by cases d <;> exact h) ?_
    simp only [List.take_succ_cons, List.take_zero, List.drop_succ_cons, List.drop_zero, List.filter_cons, List.filter_nil, isMv, Array.isEmpty_iff, Bool.not_false, Bool.and_true, Option.isNone_none, if_true, if_false, Bool.false_eq_true]
    repeat still_step
    refine wpStill_nil ?_
    go_wp2_with fail
    go_ret
    exact ⟨rfl, HB.out, HF.out⟩
  | some r =>
    have hp := h.pos r hr
    have hSD : (Builtin.unsafeSliceData_ #[48] 127 #[.slice (some ⟨r, 0, none⟩) 0 g.cap]).run Tryz.prog w.drew = .ok (.pointer (some ⟨r, 0, none⟩)) w.drew :=
      Lib.run_unsafeSliceData_row _ _ _ _ _ _ (by omega)
    rw [hr, rowA_some] at c1
    rw [hr] at HF
    clear h
    go_enter Tryz.func46, Tryz.ntmps46
    go_wp2_with fail
    refine wp_region_mixed 10 (by kernel_rfl) (by kernel_rfl) (fun _ _ d _ _ h => by cases d <;> exact h) ?_
    simp only [List.take_succ_cons, List.take_zero, List.drop_succ_cons, List.drop_zero, List.filter_cons, List.filter_nil, isMv, Array.isEmpty_iff, Bool.not_false, Bool.and_true, Option.isNone_none, if_true, if_false, Bool.false_eq_true]
    repeat still_step
    refine wpStill_nil ?_
    go_wp2_with fail
    go_ret
    exact ⟨rfl, HB.out, HF.out⟩
theorem bld_string (w : World) (d : Nat) (g : BG) (h : BldAt w d g) :
    Calls Tryz.prog 46 #[.pointer (some ⟨d, 0, none⟩)] w fun e w' => e = .returned (.string ⟨g.txt.toArray⟩) ∧ BldAt w' d g ∧ Fr (fun x => g.row = some x) w w' := by
  by_cases h0 : g.txt = []
  · have := bld_string_none w d g h h0
    rw [h0]
    exact this
  · exact bld_string_some w d g h h0

/-- MakeNoZero, as a step of a region that draws its order. -/
theorem step_mnz {w : World} {ops : Array Oper} {o : Oper} {a : Act} {K : Act → World → Prop} {Q : Exit → Act → World → Prop} {E0 : Prop} (hgd : o.guard = none) (s : Operand) (ho : o.op = .call { callee := .value (.func 88), args := #[s], argTypes := #[3] })
    (n : Nat) (hs : a.eval s = .int .i64 (n : Int)) (hn : n ≤ 281474976710656)
    (h : ∀ (cs : Array Value) w', w'.heap[w.heap.size]? = some (.cells cs 5 (0, 0)) → n ≤ cs.size → cs.size ≤ 9223372036854775807 → Fr (fun _ => False) w w' → K (a.put o.dst (.slice (some ⟨w.heap.size, 0, none⟩) n cs.size)) w') :
    if Region.wanted o (yielded ops a.tmps) = true then Oper.wp Tryz.prog o a w K Q else E0 := by
  refine step_of_wp hgd ?_
  obtain ⟨cs, hrun, hle, hmax⟩ := Lib.run_makeNoZero (P := Tryz.prog) w #[3] 48 5 Tryz.underlying48 n hn
  have hcall : (callFunc 88 #[.int .i64 (n : Int)]).run Tryz.prog w = .ok (.value (.slice (some ⟨w.heap.size, 0, none⟩) n cs.size)) (w.drew.drew.alloc (.cells cs 5)) := by
    rw [run_callFunc_extern Tryz.func88 (by kernel_rfl) (by kernel_rfl) (by kernel_rfl) (e := Extern.BytealgMakeNoZero.makeNoZero #[3] #[48]) (by kernel_rfl), hrun]
    rfl
  have hK := h cs (w.drew.drew.alloc (.cells cs 5)) (heap_alloc_new w.drew.drew _) hle (hmax (by unfold maxLen; omega)) (((Fr.refl _ w).drew.drew).alloc _)
  have he : a.eval (.func 88) = .func (.func 88) #[] #[] := rfl
  unfold Oper.wp
  rw [execOp, ho]
  simp [resolve, he, invoke, hs, Deferred.ofValue, hcall]
  exact hK

/-- copy into the head of a row of whatever cells. -/
theorem run_copy_cells {P : Program} {w : World} {E : TypeId} {dT sT ty : TypeId} {r c : Nat} {l : List UInt8} {cur : Array Value} {v : Value} {i : TypeInfo}
    (hu : P.underlying dT = some (.slice E)) (hi : P.info? E = some i) (hs1 : i.size = 1) (hb : w.heap[r]? = some (.cells cur E (0, 0))) (hsrc : Src w v l) (hfit : l.length ≤ cur.size) :
    ∃ w', (Builtin.copy_ #[dT, sT] ty #[.slice (some ⟨r, 0, none⟩) l.length c, v]).run P w = .ok (.int .i64 (l.length : Int)) w' ∧ w'.heap[r]? = some (.cells (bcs l ++ cur.toList.drop l.length).toArray E (0, 0)) ∧ Fr (Just r) w w' := by
  have hlen := run_lenOf_src (P := P) hsrc
  have hf := run_firstCells_src (P := P) hsrc l.length (Nat.le_refl _)
  rw [List.take_length] at hf
  have hst := run_storeCells_free P r 0 E (0, 0) (bcs l) 0 cur w hb (fun j h3 h4 => by omega) (by simpa using hfit) (bcs_one _)
  refine ⟨w.setRow r (bcs l ++ cur.toList.drop l.length).toArray, ?_, setRow_heap w r _ _ E _ hb, (Fr.refl _ w).setRow (fun _ => just_self r) _⟩
  have e : cur.toList.take (0 + 0) ++ bcs l ++ cur.toList.drop (0 + 0 + (bcs l).length) = bcs l ++ cur.toList.drop l.length := by simp
  rw [e] at hst
  simp [Builtin.copy_, run_underlying hu, sizeOf, typeInfo, hi, hs1, hlen, hf, hst, goInt]

/-- What grow leaves. -/
structure Roomy (g : BG) (n : Nat) (g' : BG) : Prop where
  txt : g'.txt = g.txt
  room : g.txt.length + n ≤ g'.cap
  cap : g.txt.length + n ≤ g.cap → g'.cap = g.cap
set_option maxHeartbeats 1600000 in
set_option maxRecDepth 100000 in
theorem bld_grow (n : Nat) (w : World) (d : Nat) (g : BG) (h : BldAt w d g) (hc : g.cap < g.txt.length + n) (hl : g.txt.length + n ≤ 1099511627776) :
    Calls Tryz.prog 77 #[.pointer (some ⟨d, 0, none⟩), .int .i64 (n : Int)] w fun e w' => ∃ g', e = .returned (.tuple #[]) ∧ BldStep w d g w' g' ∧ Roomy g n g' := by
  have hlc := h.lc
  have hn1 : 1 ≤ n := by omega
  have c1 := h.drew.c1
  have hw1 : IntKind.i64.wrap (2 * (g.cap : Int)) = 2 * (g.cap : Int) := IntWalk.i64_in _ (by omega)
  have hw2 : IntKind.i64.wrap (2 * (g.cap : Int) + (n : Int)) = 2 * (g.cap : Int) + (n : Int) := IntWalk.i64_in _ (by omega)
  have H := Lib.hid h
  clear h
  go_enter Tryz.func77, Tryz.ntmps77
  go_wp2_with fail
  go_region_held3 (fun w' => w'.cell? ⟨d, 1, none⟩ = some (.slice (rowA g.row) g.txt.length g.cap)) (go_keep) ((refine step_mnz rfl (.tmp 12) rfl (2 * g.cap + n) (by simp [Act.eval]) (by omega) ?_; intro cs w1 hblk hcs1 hcs2 hfr; have k1 : w1.cell? ⟨d, 1, none⟩ = some (.slice (rowA g.row) g.txt.length g.cap) := (hfr.cell H.out.lt (fun q => q)).trans c1; have hcs3 : (g.txt.length : Int) ≤ (cs.size : Int) := by omega))
  obtain ⟨i0, hi, hz0, hz1, hz2⟩ := info_parts info_u8
  rw [show w.drew.heap.size = w.heap.size from rfl] at hblk
  have hsrc : Src w1 (.slice (rowA g.row) g.txt.length g.cap) g.txt := (H.out.drew.fr hfr (fun _ _ q => q)).src
  obtain ⟨w2, hrun, hblk2, hfr2⟩ := run_copy_cells (P := Tryz.prog) (dT := 48) (sT := 48) (ty := 3) (c := cs.size) Tryz.underlying48 hi hz1 hblk hsrc (by omega)
  have hlt := H.out.lt
  have hF : Fr (fun _ => False) w w2 := ((Fr.refl _ w).drew.trans hfr).trans' hfr2 (fun i hi q => by
    have q : i = w.heap.size := q
    omega)
  have k2 := (H.out.fr hF (fun _ _ q => q)).c1
  have k3 := (H.out.fr hF (fun _ _ q => q)).f 1
  have HP := Lib.hid (H.out.put (row := some w.heap.size) (txt := g.txt) (cap := cs.size) (hF.mono fun _ _ q => q.elim) (fun r q => by
    injection q with q
    subst q
    exact ⟨by omega, by omega, cs.toList.drop g.txt.length, (0, 0), hblk2, by simp; omega, Nat.zero_le _⟩) (fun q => by cases q) hcs2)
  have HF := Lib.hid hF
  clear hsrc hfr2 hblk2 hfr hF hblk
  go_wp2_with (at_builtin; refine wpList_plain rfl (fun K hK => wp_copy_of_run _ _ _ _ rfl rfl rfl hrun (hK _ _ ?_)))
  go_end0
  refine ⟨_, rfl, ⟨HP.out, .inr (.inr ⟨_, rfl, Nat.le_refl _⟩), (HF.out.mono fun _ _ q => q.elim).setCell (fun _ => .inl rfl) _⟩, ⟨rfl, by simp only; omega, fun q => by omega⟩⟩

set_option maxHeartbeats 1600000 in
set_option maxRecDepth 100000 in
theorem bld_Grow (n : Nat) (w : World) (d : Nat) (g : BG) (h : BldAt w d g) (hl : g.txt.length + n ≤ 1099511627776) :
    Calls Tryz.prog 44 #[.pointer (some ⟨d, 0, none⟩), .int .i64 (n : Int)] w fun e w' => ∃ g', e = .returned (.tuple #[]) ∧ BldStep w d g w' g' ∧ Roomy g n g' := by
  have hlc := h.lc
  have hz := h.sz
  have H := Lib.hid h
  clear h
  by_cases hc : g.cap < g.txt.length + n
  · go_enter Tryz.func44, Tryz.ntmps44
    go_wp2_with fail
    refine (bld_check w d g H.out).mono ?_
    rintro e w1 ⟨rfl, H1, F1⟩
    have c1 := H1.c1
    have HH := Lib.hid H1
    have S1 := Lib.hid (BldStep.chk H1 F1)
    simp only at c1
    clear H1 F1
    go_wp2_with fail
    go_quiet (fail)
    go_wp2_with fail
    refine (bld_grow n _ d _ (HH.out.drewN _) hc hl).mono ?_
    rintro e w2 ⟨g2, rfl, S2, R2⟩
    go_wp2_with fail
    go_end0
    exact ⟨g2, rfl, (S1.out.trans ⟨HH.out.drewN _, .inl rfl, (Fr.refl _ _).drewN _⟩).trans S2, ⟨R2.txt, R2.room, R2.cap⟩⟩
  · go_enter Tryz.func44, Tryz.ntmps44
    go_wp2_with fail
    refine (bld_check w d g H.out).mono ?_
    rintro e w1 ⟨rfl, H1, F1⟩
    have c1 := H1.c1
    have HH := Lib.hid H1
    have S1 := Lib.hid (BldStep.chk H1 F1)
    simp only at c1
    clear H1 F1
    go_wp2_with fail
    go_quiet (fail)
    go_wp2_with fail
    go_end0
    exact ⟨_, rfl, S1.out.trans ⟨HH.out.drewN _, .inl rfl, (Fr.refl _ _).drewN _⟩, ⟨rfl, by simp only; omega, fun _ => rfl⟩⟩
end Go.Proofs.YtkggebhkjgjijaaGreatDoor
