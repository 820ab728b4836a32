/- bytes.growSlice and (*bytes.Buffer).grow. -/
import Derived.Test.YtimigjjokdnfbaaDoorBufA
import Derived.Test.YtimigjjokdnfbaaDoorMemB
import Derived.Defers
import Derived.Recover
import Derived.Lib.Builder
import Derived.Deep.RegionHeld3
import Derived.StillTailTactics
import Derived.WalkSpells
import Derived.Lib.ByteType
import Derived.Lib.Walk
namespace Go.Proofs.YtimigjjokdnfbaaDoor
open Go Go.RowKit

/-- make of bytes, over this program. -/
theorem mk_bytes (l c : Nat) (hl : l ≤ c) (hc : c ≤ 281474976710656) (w : World) :
    (Instr.makeSlice 52 (.int .i64 (l : Int)) (.int .i64 (c : Int))).run Tryd.prog w = .ok (.slice (some ⟨w.heap.size, 0, none⟩) l c) (w.alloc (zrow 5 c)) := by
  obtain ⟨i0, hi, hz0, hz1, hz2⟩ := info_parts info_u8
  exact run_make_bytes Tryd.underlying52 hi hz0 hz1 hz2 .i64 .i64 l c hl hc w

section
variable {w : World} {ops : Array Oper} {rest : List Oper} {o : Oper} {a : Act} {Q : Exit → Act → World → Prop}
/-- copy of bytes into a row, as a step of a walk over this program. -/
theorem wpList_copy8 (hgd : o.guard = none) (d s : Operand) (sT : TypeId) (ho : o.op = .call { callee := .builtin .copy, args := #[d, s], argTypes := #[52, sT] })
    (r off n c k : Nat) (all l : List UInt8) (D : Option Addr) (v : Value) (hd : a.eval d = .slice D n c) (hs : a.eval s = v) (hrow : Row 5 w r all) (hsrc : Src w v l) (hk : Nat.min l.length n = k)
    (hD : 0 < k → D = some ⟨r, off, none⟩) (hfit : off + k ≤ all.length)
    (h : ∀ w', Row 5 w' r (splice all off (l.take k)) → Fr (Just r) w w' → wpList Tryd.prog ops Q rest (a.put o.dst (.int .i64 (k : Int))) w') : wpList Tryd.prog ops Q (o :: rest) a w := by
  obtain ⟨i0, hi, hz0, hz1, hz2⟩ := info_parts info_u8
  exact wpList_copyB hgd d s 52 sT ho 5 i0 Tryd.underlying52 hi hz1 r off n c k all l D v hd hs hrow hsrc hk hD hfit h
end

theorem growSlice_catch_idle (w : World) :
    CallsD Tryd.prog 72 #[] .returning w fun e u' w' => e = .returned (.tuple #[]) ∧ u' = .returning ∧ w' = w := by
  have hnn : ∀ w, (binOp .neq 20 .nilIface .nilIface).run Tryd.prog w = .ok (.bool false) w := fun w => Lib.run_neq_nil_nil w Tryd.underlying20
  refine callsD_of_wpS Tryd.func72 rfl fun c₀ cs hu => ?_
  apply wpS_seq
  apply wpS_region
  simp [wpOpsS, go_sem, recoverD, hu, hnn, Tryd.ntmps72, Exit.thenS]
  refine wpS_cond (t := false) (by simp [Act.eval, Array.replicate]) ?_
  simp only [Bool.false_eq_true, if_false]
  refine wpS_of_wp (wp_skip ?_)
  cases c₀
  simp_all [bodyPostS, results, Tryd.results72]

set_option maxHeartbeats 1600000 in
set_option maxRecDepth 100000 in
/-- growSlice: a new row that begins with the slice's bytes and has room for n more. -/
theorem growSlice_any (A : Option Addr) (c n C : Nat) (l : List UInt8) (w : World) (hs : Src w (.slice A l.length c) l) (hn : 1 ≤ n) (hl : l.length + n ≤ 281474976710656) (hc : c ≤ 140737488355328)
    (hC : C = if l.length + n < 2 * c then 2 * c else l.length + n) :
    Calls Tryd.prog 64 #[.slice A l.length c, .int .i64 (n : Int)] w fun e w' => ∃ (rest : List UInt8), e = .returned (.slice (some ⟨w.heap.size, 0, none⟩) l.length (l ++ rest).length) ∧
      Row 5 w' w.heap.size (l ++ rest) ∧ l.length + n ≤ (l ++ rest).length ∧ (l ++ rest).length ≤ 9223372036854775807 ∧ Fr (fun _ => False) w w' := by
  obtain ⟨i0, hi, hz0, hz1, hz2⟩ := info_parts info_u8
  have hC1 : 1 ≤ C ∧ C ≤ 281474976710656 ∧ l.length + n ≤ C := by subst hC; split <;> omega
  have happ := Lib.run_append_nil_zeros (P := Tryd.prog) w 52 3 52 5 i0 (.int .u8 0) .i64 .i64 Tryd.underlying52 Tryd.underlying3 hi hz0 C (by omega) (by omega) (by omega) (by rw [hz2]; omega)
  rw [zeroCells_bcs, zeroCells_bcs] at happ
  have hge := grownCap_ge w C 0 5
  have hle := grownCap_le_maxLen w C 0 5 (by unfold maxLen; omega)
  generalize grownCap w C 0 5 = cap2 at happ hge hle
  unfold maxLen at hle
  have hzz : (bcs (List.replicate C 0)).toArray ++ (bcs (List.replicate (cap2 - C) 0)).toArray = (bcs (List.replicate cap2 0)).toArray := by
    rw [List.append_toArray, ← bcs_append, List.replicate_append_replicate, show C + (cap2 - C) = cap2 by omega]
  rw [hzz] at happ
  have hw1 : w.drew.alloc (.cells (bcs (List.replicate cap2 0)).toArray 5) = (w.alloc (.cells (bcs (List.replicate cap2 0)).toArray 5)).drew := rfl
  rw [hw1] at happ
  have hrow : Row 5 (w.alloc (.cells (bcs (List.replicate cap2 0)).toArray 5)).drew w.heap.size (List.replicate cap2 0) := (Row.new w 5 _).drew
  have hf1 : Fr (fun _ => False) w (w.alloc (.cells (bcs (List.replicate cap2 0)).toArray 5)).drew := ((Fr.refl _ w).alloc _).drew
  have hs1 : Src (w.alloc (.cells (bcs (List.replicate cap2 0)).toArray 5)).drew (.slice A l.length c) l := by
    rcases hs with h | ⟨A', c', h, hh⟩
    · cases h
    · injection h with h1 h2 h3
      subst h1
      refine .inr ⟨A, c, rfl, fun h0 => ?_⟩
      obtain ⟨ad, rfl, hc⟩ := hh h0
      exact ⟨ad, rfl, fun j x hx => (hf1.cell (World.block_lt_of_cell? _ _ (hc j x hx)) (fun q => q)).trans (hc j x hx)⟩
  obtain ⟨w2, hcopy, hrow2, hfr2⟩ := run_copy_bytes (P := Tryd.prog) (sT := 52) (ty := 3) (n := C) (c := cap2) (k := l.length) (o := 0) (D := some ⟨w.heap.size, 0, none⟩) Tryd.underlying52 hi hz1 hrow hs1
    (Nat.min_eq_left (by omega)) (fun _ => rfl) (by simp; omega)
  generalize (w.alloc (.cells (bcs (List.replicate cap2 0)).toArray 5)).drew = w1 at happ hrow hf1 hs1 hcopy hrow2 hfr2
  have hfin : Fr (fun _ => False) w w2 := hf1.trans' hfr2 (fun i hi q => by unfold Just at q; omega)
  have hcells : splice (List.replicate cap2 (0 : UInt8)) 0 (l.take l.length) = l ++ List.replicate (cap2 - l.length) 0 := by
    simp [splice]
  rw [hcells] at hrow2
  have hlen2 : (l ++ List.replicate (cap2 - l.length) (0 : UInt8)).length = cap2 := by simp; omega
  have HC := Lib.hid hC
  clear hC hs hs1 hrow hcells hf1 hfr2 hzz hw1
  have HR := Lib.hid hrow2
  clear hrow2
  have HF := Lib.hid hfin
  clear hfin
  have HL := Lib.hid hlen2
  clear hlen2
  by_cases hb : l.length + n < 2 * c
  · obtain rfl : C = 2 * c := by rw [HC.out, if_pos hb]
    rw [show (((2 * c : Nat)) : Int) = 2 * (c : Int) by omega] at happ
    go_enter_defers Tryd.func64, Tryd.ntmps64
    go_wp2_with (at_builtin; refine wpList_plain rfl (fun K hK => wp_append_of_run _ _ _ _ rfl rfl rfl happ (hK _ _ ?_)))
    refine leaves_cons (f := 72) (args := #[]) (by simp) (by simp [go_sem]) ?_
    refine (growSlice_catch_idle _).mono ?_
    rintro e u' w'' ⟨rfl, rfl, rfl⟩
    refine ⟨_, results_tmp rfl _ _ _, List.replicate (cap2 - l.length) 0, ?_, HR.out, ?_, ?_, HF.out⟩
    · rw [HL.out]; rfl
    · rw [HL.out]; omega
    · rw [HL.out]; omega
  · obtain rfl : C = l.length + n := by rw [HC.out, if_neg hb]
    rw [show (((l.length + n : Nat)) : Int) = (l.length : Int) + (n : Int) by omega] at happ
    go_enter_defers Tryd.func64, Tryd.ntmps64
    go_wp2_with (at_builtin; refine wpList_plain rfl (fun K hK => wp_append_of_run _ _ _ _ rfl rfl rfl happ (hK _ _ ?_)))
    refine leaves_cons (f := 72) (args := #[]) (by simp) (by simp [go_sem]) ?_
    refine (growSlice_catch_idle _).mono ?_
    rintro e u' w'' ⟨rfl, rfl, rfl⟩
    refine ⟨_, results_tmp rfl _ _ _, List.replicate (cap2 - l.length) 0, ?_, HR.out, ?_, ?_, HF.out⟩
    · rw [HL.out]; rfl
    · rw [HL.out]; omega
    · rw [HL.out]; omega

/-- What growSlice leaves: a new row that begins with the bytes l and has room for n more. -/
def GSPost (w : World) (l : List UInt8) (k n : Nat) (e : Ending) (w' : World) : Prop :=
  ∃ (r2 : Nat) (all2 : List UInt8), e = .returned (.slice (some ⟨r2, 0, none⟩) k all2.length) ∧ w.heap.size ≤ r2 ∧ Row 5 w' r2 all2 ∧ all2.take k = l ∧ k + n ≤ all2.length ∧ all2.length ≤ 9223372036854775807 ∧ Fr (fun _ => False) w w'
theorem growSlice_at (A : Option Addr) (k c n : Nat) (z : Int) (l : List UInt8) (w : World) (hs : Src w (.slice A k c) l) (hk : l.length = k) (hz : z = (n : Int)) (hn : 1 ≤ n) (hl : k + n ≤ 281474976710656) (hc : c ≤ 140737488355328) :
    Calls Tryd.prog 64 #[.slice A k c, .int .i64 z] w (GSPost w l k n) := by
  subst hk hz
  refine (growSlice_any A c n _ l w hs hn hl hc rfl).mono ?_
  rintro e w' ⟨rest, rfl, h1, h2, h3, h4⟩
  exact ⟨_, _, rfl, Nat.le_refl _, h1, by simp, h2, h3, h4⟩
end Go.Proofs.YtimigjjokdnfbaaDoor
