/- BufA, Grow. -/
import Derived.Test.YtkggebhkjgjijaaGreatDoorProg
import Derived.Test.YtkggebhkjgjijaaGreatDoorQ01
import Derived.Deep.QuietTactic
import Derived.BigQuiet
import Derived.RegionTactic
import Derived.OwnWalk
import Derived.Defers
import Derived.Recover
import Derived.Lib.Builder
import Derived.Deep.RegionHeld3
import Derived.StillTailTactics
import Derived.WalkSpells
import Derived.Lib.ByteType
import Derived.Lib.Walk
namespace Go.Proofs.YtkggebhkjgjijaaGreatDoor
open Go Go.RowKit

/-- What a buffer is made of: the block of its bytes (none: nil), all bytes up to the capacity, the slice's length, the place of the next read, what the last read was. -/
structure Gh where
  row : Option Nat
  all : List UInt8
  len : Nat
  off : Nat
  lr : Int

def rowA (row : Option Nat) : Option Addr := row.map fun r => ⟨r, 0, none⟩
@[simp] theorem rowA_some (r : Nat) : rowA (some r) = some ⟨r, 0, none⟩ := rfl
@[simp] theorem rowA_none : rowA none = none := rfl

/-- Where a slice of the row lies that begins at o. -/
def cutA (row : Option Nat) (o cap : Nat) : Option Addr := if cap = o then rowA row else row.map fun r => ⟨r, o, none⟩
theorem cutA_some (r o cap : Nat) (h : ¬ cap = o) : cutA (some r) o cap = some ⟨r, o, none⟩ := by simp [cutA, h]
theorem info_u8 : (Tryz.prog.info? 5).map (fun i => (i.zero, i.size, i.bytes)) = some (some (.int .u8 0), 1, 1) := by kernel_rfl
theorem addr_add1 (r o : Nat) : (⟨r, 0, none⟩ : Addr).add o = ⟨r, o, none⟩ := by rw [addr_add, Nat.zero_add]
/-- A slice of the row from o on. -/
theorem slice_from (row : Option Nat) (n c o : Nat) (ho : o ≤ n) (w : World) : (Instr.slice 48 (.slice (rowA row) n c) (some (.int .i64 (o : Int))) none none).run Tryz.prog w = .ok (.slice (cutA row o c) (n - o) (c - o)) w := by
  obtain ⟨i0, hi, hz0, hz1, hz2⟩ := info_parts info_u8
  have h1 : (0 : Int) ≤ (o : Int) := by omega
  have h2 : (o : Int) ≤ (n : Int) := by omega
  cases row <;> simp [Instr.slice, run_underlying Tryz.underlying48, Instr.sliceBounds, run_sliceBound, sizeOf, typeInfo, hi, hz1, cutA, h2, addr_add1]
theorem slice_lh (row : Option Nat) (n c lo h : Nat) (hl : lo ≤ h) (hh : h ≤ c) (w : World) : (Instr.slice 48 (.slice (rowA row) n c) (some (.int .i64 (lo : Int))) (some (.int .i64 (h : Int))) none).run Tryz.prog w = .ok (.slice (cutA row lo c) (h - lo) (c - lo)) w := by
  obtain ⟨i0, hi, hz0, hz1, hz2⟩ := info_parts info_u8
  have h1 : (lo : Int) ≤ (h : Int) := by omega
  have h2 : (h : Int) ≤ (c : Int) := by omega
  cases row <;> simp [Instr.slice, run_underlying Tryz.underlying48, Instr.sliceBounds, run_sliceBound, sizeOf, typeInfo, hi, hz1, cutA, h1, h2, addr_add1]

/-- Block b is a bytes.Buffer with this state, whatever its numbers. -/
structure BufRaw (w : World) (b : Nat) (g : Gh) : Prop where
  st : w.heap[b]? = some (.cells #[.slice (rowA g.row) g.len g.all.length, .int .i64 (g.off : Int), .int .i8 g.lr] 84 (0, 0))
  row : ∀ r, g.row = some r → Row 5 w r g.all
  nil : g.row = none → g.all = []
  sz : g.all.length ≤ 9223372036854775807

/-- Block b is a bytes.Buffer with this state. -/
structure BufAt (w : World) (b : Nat) (g : Gh) : Prop extends BufRaw w b g where
  ol : g.off ≤ g.len
  lc : g.len ≤ g.all.length

/-- What is unread. -/
def Gh.txt (g : Gh) : List UInt8 := (g.all.take g.len).drop g.off
/-- The blocks that a buffer lies in. -/
def Gh.foot (b : Nat) (g : Gh) : Nat → Prop := fun x => x = b ∨ g.row = some x

section
variable {w w' : World} {b : Nat} {g : Gh}
theorem BufRaw.lt (h : BufRaw w b g) : b < w.heap.size := lt_of_blk h.st
theorem BufRaw.c0 (h : BufRaw w b g) : w.cell? ⟨b, 0, none⟩ = some (.slice (rowA g.row) g.len g.all.length) := by rw [cell_of_row w b 0 _ _ _ h.st]; rfl
theorem BufRaw.c1 (h : BufRaw w b g) : w.cell? ⟨b, 1, none⟩ = some (.int .i64 (g.off : Int)) := by rw [cell_of_row w b 1 _ _ _ h.st]; rfl
theorem BufRaw.c2 (h : BufRaw w b g) : w.cell? ⟨b, 2, none⟩ = some (.int .i8 g.lr) := by rw [cell_of_row w b 2 _ _ _ h.st]; rfl
theorem BufRaw.f (h : BufRaw w b g) (i : Nat) : w.frozen? ⟨b, i, none⟩ = false := by simp [World.frozen?, h.st]
theorem BufRaw.rne (h : BufRaw w b g) {r : Nat} (hr : g.row = some r) : r ≠ b := (h.row r hr).ne_blk h.st (by decide)
theorem BufRaw.rlt (h : BufRaw w b g) {r : Nat} (hr : g.row = some r) : r < w.heap.size := (h.row r hr).lt
theorem BufRaw.fr {S : Nat → Prop} (h : BufRaw w b g) (hf : Fr S w w') (hn : ∀ x, g.foot b x → ¬ S x) : BufRaw w' b g :=
  ⟨hf.blk h.st (hn b (.inl rfl)), fun r hr => (h.row r hr).fr hf (hn r (.inr hr)), h.nil, h.sz⟩
theorem BufRaw.of_heap (h : BufRaw w b g) (hh : w'.heap = w.heap) : BufRaw w' b g :=
  ⟨by rw [hh]; exact h.st, fun r hr => (h.row r hr).of_block (by rw [hh]), h.nil, h.sz⟩
theorem BufRaw.alloc (h : BufRaw w b g) (o : Obj) : BufRaw (w.alloc o) b g := h.fr ((Fr.refl (fun _ => False) w).alloc o) (fun _ _ q => q)
theorem BufAt.fr {S : Nat → Prop} (h : BufAt w b g) (hf : Fr S w w') (hn : ∀ x, g.foot b x → ¬ S x) : BufAt w' b g := ⟨h.toBufRaw.fr hf hn, h.ol, h.lc⟩
theorem BufAt.drewN (h : BufAt w b g) (n : Nat) : BufAt (w.drewN n) b g := ⟨h.toBufRaw.of_heap rfl, h.ol, h.lc⟩
theorem BufAt.drew (h : BufAt w b g) : BufAt w.drew b g := ⟨h.toBufRaw.of_heap rfl, h.ol, h.lc⟩
theorem BufRaw.foot_lt (h : BufRaw w b g) {x : Nat} (hx : g.foot b x) : x < w.heap.size := by
  rcases hx with rfl | hx
  · exact h.lt
  · exact h.rlt hx
/-- The struct's cells laid anew. -/
theorem BufRaw.put0 (h : BufRaw w b g) (n : Nat) : BufRaw (w.setCell ⟨b, 0, none⟩ (.slice (rowA g.row) n g.all.length)) b { g with len := n } := by
  refine ⟨?_, fun r hr => (h.row r hr).setCell_far (h.rne hr) _, h.nil, h.sz⟩
  have := h.st
  simp [World.setCell, Array.getElem?_modify, this]
theorem BufRaw.put1 (h : BufRaw w b g) (n : Nat) : BufRaw (w.setCell ⟨b, 1, none⟩ (.int .i64 (n : Int))) b { g with off := n } := by
  refine ⟨?_, fun r hr => (h.row r hr).setCell_far (h.rne hr) _, h.nil, h.sz⟩
  have := h.st
  simp [World.setCell, Array.getElem?_modify, this]
theorem BufRaw.put2 (h : BufRaw w b g) (n : Int) : BufRaw (w.setCell ⟨b, 2, none⟩ (.int .i8 n)) b { g with lr := n } := by
  refine ⟨?_, fun r hr => (h.row r hr).setCell_far (h.rne hr) _, h.nil, h.sz⟩
  have := h.st
  simp [World.setCell, Array.getElem?_modify, this]
/-- A new row of bytes in the struct. -/
theorem BufRaw.putRow (h : BufRaw w b g) {r : Nat} {l : List UInt8} (n : Nat) (hr : Row 5 w r l) (hl : l.length ≤ 9223372036854775807) : BufRaw (w.setCell ⟨b, 0, none⟩ (.slice (some ⟨r, 0, none⟩) n l.length)) b { g with row := some r, all := l, len := n } := by
  have hne : r ≠ b := hr.ne_blk h.st (by decide)
  refine ⟨?_, fun r' hr' => ?_, (fun q => by cases q), hl⟩
  · have := h.st
    simp [World.setCell, Array.getElem?_modify, this]
  · simp only [Option.some.injEq] at hr'
    subst hr'
    exact hr.setCell_far hne _
/-- The row's bytes laid anew. -/
theorem BufRaw.putAll (h : BufRaw w b g) {r : Nat} {l : List UInt8} (hr : g.row = some r) (hf : Fr (Just r) w w') (hrow : Row 5 w' r l) (hl : l.length = g.all.length) : BufRaw w' b { g with all := l } := by
  refine ⟨?_, fun r' hr' => ?_, fun q => ?_, by rw [hl]; exact h.sz⟩
  · simp only [hl]
    exact hf.blk h.st (fun q => h.rne hr q.symm)
  · simp only [hr, Option.some.injEq] at hr'
    subst hr'
    exact hrow
  · simp only [hr] at q
    cases q
end

section
variable (w : World) (b : Nat) (g : Gh)
theorem buf_len (h : BufAt w b g) : Calls Tryz.prog 67 #[.pointer (some ⟨b, 0, none⟩)] w fun e w' => e = .returned (.int .i64 ((g.len : Int) - (g.off : Int))) ∧ ∃ k, w' = w.drewN k := by
  have h0 := h.c0; have h1 := h.c1; have ho := h.ol; have hl := h.lc; have hz := h.sz
  clear h
  go_enter Tryz.func67, Tryz.ntmps67
  go_wp2
  go_quiet (fail)
  go_wp2
  go_ret
  exact ⟨rfl, _, rfl⟩

theorem buf_empty (h : BufAt w b g) : Calls Tryz.prog 78 #[.pointer (some ⟨b, 0, none⟩)] w fun e w' => e = .returned (.bool (decide (g.len ≤ g.off))) ∧ ∃ k, w' = w.drewN k := by
  have h0 := h.c0; have h1 := h.c1; have ho := h.ol; have hl := h.lc; have hz := h.sz
  clear h
  go_enter Tryz.func78, Tryz.ntmps78
  go_wp2
  go_quiet (fail)
  go_wp2
  go_ret
  exact ⟨by simp, _, rfl⟩

theorem buf_reset (h : BufAt w b g) : Calls Tryz.prog 65 #[.pointer (some ⟨b, 0, none⟩)] w fun e w' => e = .returned (.tuple #[]) ∧ BufAt w' b { g with len := 0, off := 0, lr := 0 } ∧ Fr (Just b) w w' := by
  have h0 := h.c0; have h1 := h.c1; have h2 := h.c2; have f0 := h.f 0; have f1 := h.f 1; have f2 := h.f 2
  have hz := h.sz
  have H := Lib.hid h
  clear h
  go_enter Tryz.func65, Tryz.ntmps65
  go_wp2
  go_end0
  refine ⟨rfl, ⟨((H.out.toBufRaw.put0 0).put1 0).put2 0, Nat.le_refl _, Nat.zero_le _⟩, ?_⟩
  exact (((Fr.refl _ w).setCell (fun _ => just_self b) _).setCell (fun _ => just_self b) _).setCell (fun _ => just_self b) _

theorem buf_try_yes (n : Nat) (h : BufAt w b g) (hn : n ≤ g.all.length - g.len) :
    Calls Tryz.prog 72 #[.pointer (some ⟨b, 0, none⟩), .int .i64 (n : Int)] w fun e w' => e = .returned (.tuple #[.int .i64 (g.len : Int), .bool true]) ∧ BufAt w' b { g with len := g.len + n } ∧ Fr (Just b) w w' := by
  have h0 := h.c0; have f0 := h.f 0; have ho := h.ol; have hl := h.lc; have hz := h.sz
  have H := Lib.hid h
  clear h
  go_enter Tryz.func72, Tryz.ntmps72
  go_wp2
  go_ret2
  refine ⟨rfl, ⟨?_, ?_, ?_⟩, ?_⟩
  · exact H.out.toBufRaw.put0 _
  · simp; omega
  · simp; omega
  · exact (Fr.refl _ w).setCell (fun _ => just_self b) _

theorem buf_try_no (n : Nat) (h : BufAt w b g) (hn : g.all.length - g.len < n) :
    Calls Tryz.prog 72 #[.pointer (some ⟨b, 0, none⟩), .int .i64 (n : Int)] w fun e w' => e = .returned (.tuple #[.int .i64 0, .bool false]) ∧ w = w' := by
  have h0 := h.c0; have f0 := h.f 0; have ho := h.ol; have hl := h.lc; have hz := h.sz
  clear h
  go_enter Tryz.func72, Tryz.ntmps72
  go_wp2
  go_ret2
  exact ⟨rfl, rfl⟩
end
end Go.Proofs.YtkggebhkjgjijaaGreatDoor

namespace Go.Proofs.YtkggebhkjgjijaaGreatDoor
open Go Go.RowKit

/-- make of bytes, over this program. -/
theorem mk_bytes (l c : Nat) (hl : l ≤ c) (hc : c ≤ 281474976710656) (w : World) :
    (Instr.makeSlice 48 (.int .i64 (l : Int)) (.int .i64 (c : Int))).run Tryz.prog w = .ok (.slice (some ⟨w.heap.size, 0, none⟩) l c) (w.alloc (zrow 5 c)) := by
  obtain ⟨i0, hi, hz0, hz1, hz2⟩ := info_parts info_u8
  exact run_make_bytes Tryz.underlying48 hi hz0 hz1 hz2 .i64 .i64 l c hl hc w

section
variable {w : World} {ops : Array Oper} {rest : List Oper} {o : Oper} {a : Act} {Q : Exit → Act → World → Prop}
/-- copy of bytes into a row, as a step of a walk over this program. -/
theorem wpList_copy8 (hgd : o.guard = none) (d s : Operand) (sT : TypeId) (ho : o.op = .call { callee := .builtin .copy, args := #[d, s], argTypes := #[48, sT] })
    (r off n c k : Nat) (all l : List UInt8) (D : Option Addr) (v : Value) (hd : a.eval d = .slice D n c) (hs : a.eval s = v) (hrow : Row 5 w r all) (hsrc : Src w v l) (hk : Nat.min l.length n = k)
    (hD : 0 < k → D = some ⟨r, off, none⟩) (hfit : off + k ≤ all.length)
    (h : ∀ w', Row 5 w' r (splice all off (l.take k)) → Fr (Just r) w w' → wpList Tryz.prog ops Q rest (a.put o.dst (.int .i64 (k : Int))) w') : wpList Tryz.prog ops Q (o :: rest) a w := by
  obtain ⟨i0, hi, hz0, hz1, hz2⟩ := info_parts info_u8
  exact wpList_copyB hgd d s 48 sT ho 5 i0 Tryz.underlying48 hi hz1 r off n c k all l D v hd hs hrow hsrc hk hD hfit h
end

theorem growSlice_catch_idle (w : World) :
    CallsD Tryz.prog 91 #[] .returning w fun e u' w' => e = .returned (.tuple #[]) ∧ u' = .returning ∧ w' = w := by
  have hnn : ∀ w, (binOp .neq 20 .nilIface .nilIface).run Tryz.prog w = .ok (.bool false) w := fun w => Lib.run_neq_nil_nil w Tryz.underlying20
  refine callsD_of_wpS Tryz.func91 rfl fun c₀ cs hu => ?_
  apply wpS_seq
  apply wpS_region
  simp [wpOpsS, go_sem, recoverD, hu, hnn, Tryz.ntmps91, Exit.thenS]
  refine wpS_cond (t := false) (by simp [Act.eval, Array.replicate]) ?_
  simp only [Bool.false_eq_true, if_false]
  refine wpS_of_wp (wp_skip ?_)
  cases c₀
  simp_all [bodyPostS, results, Tryz.results91]

set_option maxHeartbeats 1600000 in
set_option maxRecDepth 100000 in
/-- growSlice: a new row that begins with the slice's bytes and has room for n more. -/
theorem growSlice_any (A : Option Addr) (c n C : Nat) (l : List UInt8) (w : World) (hs : Src w (.slice A l.length c) l) (hn : 1 ≤ n) (hl : l.length + n ≤ 281474976710656) (hc : c ≤ 140737488355328)
    (hC : C = if l.length + n < 2 * c then 2 * c else l.length + n) :
    Calls Tryz.prog 83 #[.slice A l.length c, .int .i64 (n : Int)] w fun e w' => ∃ (rest : List UInt8), e = .returned (.slice (some ⟨w.heap.size, 0, none⟩) l.length (l ++ rest).length) ∧
      Row 5 w' w.heap.size (l ++ rest) ∧ l.length + n ≤ (l ++ rest).length ∧ (l ++ rest).length ≤ 9223372036854775807 ∧ Fr (fun _ => False) w w' := by
  obtain ⟨i0, hi, hz0, hz1, hz2⟩ := info_parts info_u8
  have hC1 : 1 ≤ C ∧ C ≤ 281474976710656 ∧ l.length + n ≤ C := by subst hC; split <;> omega
  have happ := Lib.run_append_nil_zeros (P := Tryz.prog) w 48 3 48 5 i0 (.int .u8 0) .i64 .i64 Tryz.underlying48 Tryz.underlying3 hi hz0 C (by omega) (by omega) (by omega) (by rw [hz2]; omega)
  rw [zeroCells_bcs, zeroCells_bcs] at happ
  have hge := grownCap_ge w C 0 5
  have hle := grownCap_le_maxLen w C 0 5 (by unfold maxLen; omega)
  generalize grownCap w C 0 5 = cap2 at happ hge hle
  unfold maxLen at hle
  have hzz : (bcs (List.replicate C 0)).toArray ++ (bcs (List.replicate (cap2 - C) 0)).toArray = (bcs (List.replicate cap2 0)).toArray := by
    rw [List.append_toArray, ← bcs_append, List.replicate_append_replicate, show C + (cap2 - C) = cap2 by omega]
  rw [hzz] at happ
  have hw1 : w.drew.alloc (.cells (bcs (List.replicate cap2 0)).toArray 5) = (w.alloc (.cells (bcs (List.replicate cap2 0)).toArray 5)).drew := rfl
  rw [hw1] at happ
  have hrow : Row 5 (w.alloc (.cells (bcs (List.replicate cap2 0)).toArray 5)).drew w.heap.size (List.replicate cap2 0) := (Row.new w 5 _).drew
  have hf1 : Fr (fun _ => False) w (w.alloc (.cells (bcs (List.replicate cap2 0)).toArray 5)).drew := ((Fr.refl _ w).alloc _).drew
  have hs1 : Src (w.alloc (.cells (bcs (List.replicate cap2 0)).toArray 5)).drew (.slice A l.length c) l := by
    rcases hs with h | ⟨A', c', h, hh⟩
    · cases h
    · injection h with h1 h2 h3
      subst h1
      refine .inr ⟨A, c, rfl, fun h0 => ?_⟩
      obtain ⟨ad, rfl, hc⟩ := hh h0
      exact ⟨ad, rfl, fun j x hx => (hf1.cell (World.block_lt_of_cell? _ _ (hc j x hx)) (fun q => q)).trans (hc j x hx)⟩
  obtain ⟨w2, hcopy, hrow2, hfr2⟩ := run_copy_bytes (P := Tryz.prog) (sT := 48) (ty := 3) (n := C) (c := cap2) (k := l.length) (o := 0) (D := some ⟨w.heap.size, 0, none⟩) Tryz.underlying48 hi hz1 hrow hs1
    (Nat.min_eq_left (by omega)) (fun _ => rfl) (by simp; omega)
  generalize (w.alloc (.cells (bcs (List.replicate cap2 0)).toArray 5)).drew = w1 at happ hrow hf1 hs1 hcopy hrow2 hfr2
  have hfin : Fr (fun _ => False) w w2 := hf1.trans' hfr2 (fun i hi q => by unfold Just at q; omega)
  have hcells : splice (List.replicate cap2 (0 : UInt8)) 0 (l.take l.length) = l ++ List.replicate (cap2 - l.length) 0 := by
    simp [splice]
  rw [hcells] at hrow2
  have hlen2 : (l ++ List.replicate (cap2 - l.length) (0 : UInt8)).length = cap2 := by simp; omega
  have HC := Lib.hid hC
  clear hC hs hs1 hrow hcells hf1 hfr2 hzz hw1
  have HR := Lib.hid hrow2
  clear hrow2
  have HF := Lib.hid hfin
  clear hfin
  have HL := Lib.hid hlen2
  clear hlen2
  by_cases hb : l.length + n < 2 * c
  · obtain rfl : C = 2 * c := by rw [HC.out, if_pos hb]
    rw [show (((2 * c : Nat)) : Int) = 2 * (c : Int) by omega] at happ
    go_enter_defers Tryz.func83, Tryz.ntmps83
    go_wp2_with (at_builtin; refine wpList_plain rfl (fun K hK => wp_append_of_run _ _ _ _ rfl rfl rfl happ (hK _ _ ?_)))
    refine leaves_cons (f := 91) (args := #[]) (by simp) (by simp [go_sem]) ?_
    refine (growSlice_catch_idle _).mono ?_
    rintro e u' w'' ⟨rfl, rfl, rfl⟩
    refine ⟨_, results_tmp rfl _ _ _, List.replicate (cap2 - l.length) 0, ?_, HR.out, ?_, ?_, HF.out⟩
    · rw [HL.out]; rfl
    · rw [HL.out]; omega
    · rw [HL.out]; omega
  · obtain rfl : C = l.length + n := by rw [HC.out, if_neg hb]
    rw [show (((l.length + n : Nat)) : Int) = (l.length : Int) + (n : Int) by omega] at happ
    go_enter_defers Tryz.func83, Tryz.ntmps83
    go_wp2_with (at_builtin; refine wpList_plain rfl (fun K hK => wp_append_of_run _ _ _ _ rfl rfl rfl happ (hK _ _ ?_)))
    refine leaves_cons (f := 91) (args := #[]) (by simp) (by simp [go_sem]) ?_
    refine (growSlice_catch_idle _).mono ?_
    rintro e u' w'' ⟨rfl, rfl, rfl⟩
    refine ⟨_, results_tmp rfl _ _ _, List.replicate (cap2 - l.length) 0, ?_, HR.out, ?_, ?_, HF.out⟩
    · rw [HL.out]; rfl
    · rw [HL.out]; omega
    · rw [HL.out]; omega

/-- What growSlice leaves: a new row that begins with the bytes l and has room for n more. -/
def GSPost (w : World) (l : List UInt8) (k n : Nat) (e : Ending) (w' : World) : Prop :=
  ∃ (r2 : Nat) (all2 : List UInt8), e = .returned (.slice (some ⟨r2, 0, none⟩) k all2.length) ∧ w.heap.size ≤ r2 ∧ Row 5 w' r2 all2 ∧ all2.take k = l ∧ k + n ≤ all2.length ∧ all2.length ≤ 9223372036854775807 ∧ Fr (fun _ => False) w w'
theorem growSlice_at (A : Option Addr) (k c n : Nat) (z : Int) (l : List UInt8) (w : World) (hs : Src w (.slice A k c) l) (hk : l.length = k) (hz : z = (n : Int)) (hn : 1 ≤ n) (hl : k + n ≤ 281474976710656) (hc : c ≤ 140737488355328) :
    Calls Tryz.prog 83 #[.slice A k c, .int .i64 z] w (GSPost w l k n) := by
  subst hk hz
  refine (growSlice_any A c n _ l w hs hn hl hc rfl).mono ?_
  rintro e w' ⟨rest, rfl, h1, h2, h3, h4⟩
  exact ⟨_, _, rfl, Nat.le_refl _, h1, by simp, h2, h3, h4⟩
end Go.Proofs.YtkggebhkjgjijaaGreatDoor
