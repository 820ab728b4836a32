/- SpecR. -/
import Derived.Test.YtbodbajgpgaoeaaGreatDoorQ13
import Derived.Test.YtbodbajgpgaoeaaGreatDoorQ14
namespace Go.Proofs.YtbodbajgpgaoeaaGreatDoor
open Go Go.RowKit

theorem upTo_hit (s : UInt8) : ∀ (l : List UInt8) (i : Nat), (∀ j, j < i → l[j]? ≠ some s) → l[i]? = some s → upTo s l = some (i + 1)
  | [], i, _, h => by simp at h
  | x :: l, 0, _, h => by
    simp only [List.getElem?_cons_zero, Option.some.injEq] at h
    simp [upTo, h]
  | x :: l, i + 1, h, k => by
    have h0 := h 0 (by omega)
    simp only [List.getElem?_cons_zero, ne_eq, Option.some.injEq] at h0
    have := upTo_hit s l i (fun j hj => by have := h (j + 1) (by omega); simpa using this) (by simpa using k)
    simp [upTo, h0, this]
theorem upTo_miss (s : UInt8) : ∀ (l : List UInt8), (∀ j, j < l.length → l[j]? ≠ some s) → upTo s l = none
  | [], _ => rfl
  | x :: l, h => by
    have h0 := h 0 (by simp)
    simp only [List.getElem?_cons_zero, ne_eq, Option.some.injEq] at h0
    have := upTo_miss s l (fun j hj => by have := h (j + 1) (by simp; omega); simpa using this)
    simp [upTo, h0, this]
theorem byte_at {l : List UInt8} {i : Nat} {x : UInt8} (hx : l[i]? = some x) (h : i < (⟨l.toArray⟩ : ByteArray).size) : (⟨l.toArray⟩ : ByteArray)[i]'h = x := by
  obtain ⟨hl, e⟩ := List.getElem?_eq_some_iff.1 hx
  subst e
  rfl
section
variable (text : List UInt8) (recent : Int) (last : List UInt8) (begun : Bool) (a bb : Int) (size : Nat) (n : Int) (sign : UInt8) (char : Int) (ctext : List UInt8) (cuts : List Nat) (ad : Option Addr) (cap : Nat)
set_option maxHeartbeats 1600000 in
set_option maxRecDepth 100000 in
theorem spr_6e (m : Nat) (w : World) (hl : text.length ≤ 1099511627776) (hs : size ≤ 65535) (hm : m = min size text.length) (he : text.isEmpty = true) (hz : (0 : Int) < (size : Int)) :
    Calls Tryz.prog 61 #[SB.val ⟨text, recent, last, begun⟩, .agg #[.int .i64 6, .int .i64 a, .int .i64 bb, .int .u16 (size : Int), .int .i64 n, .int .u8 (sign.toNat : Int), .int .i32 char, .string ⟨ctext.toArray⟩, .slice ad cuts.length cap]] w (DoPost w (SB.read ⟨text, recent, last, begun⟩ 0 1) ⟨0, [], 0, 1⟩ true) := by
  have hcHC : ∀ wx, Calls Tryz.prog 96 #[SB.val ⟨text, recent, last, begun⟩, .int .i64 0, .int .i64 1] wx fun e w' => e = .returned (SB.val (SB.read ⟨text, recent, last, begun⟩ 0 1)) ∧ Fr (fun _ => False) wx w' := fun wx => sp_read text recent last begun 0 1 wx (by omega) (by omega)
  obtain ⟨rt, rr, rl, rb, hresHC⟩ : ∃ rt rr rl rb, (SB.read ⟨text, recent, last, begun⟩ 0 1) = SB.mk rt rr rl rb := ⟨_, _, _, _, rfl⟩
  rw [hresHC] at hcHC ⊢
  simp only [SB.val, SB.cells] at hcHC
  have HC := Lib.hid hcHC
  clear hresHC hcHC
  have hsw : IntKind.i64.wrap (size : Int) = (size : Int) := IntWalk.i64_in _ (by omega)
  have hmin : min (size : Int) (text.length : Int) = (m : Int) := by omega
  clear hm
  obtain ⟨w0, hw0, hX⟩ := box4_ex text recent last begun a bb size n sign char ctext cuts ad cap w (6)
  have HX := Lib.hid hX
  have HW0 := Lib.hid hw0
  obtain ⟨b0, b1, b2, b3, e0, e1, e2, e3, e4, e5, e6, e7, e8, r0, r1, r2, r3, t0, t1, t2, t3, rz, tz, _, hlt⟩ := hX
  have rz0 := rz 0; have rz1 := rz 1; have rz2 := rz 2; have rz3 := rz 3; have tz0 := tz 0; have tz1 := tz 1; have tz2 := tz 2; have tz3 := tz 3
  clear hw0 rz tz
  simp only [SB.val, SB.cells]
  go_enter Tryz.func61, Tryz.ntmps61
  go_wp2_with fail
  rw [← HW0.out]
  refine (HC.out _).mono ?_
  rintro e w1 ⟨rfl, F1⟩
  have HF1 : Hid (Fr (fun _ => False) w0 w1) := Lib.hid (Fr.trans (by (repeat (with_reducible first | exact Fr.refl _ _ | exact HF1.out | refine Fr.drew ?_ | refine Fr.alloc ?_ _ | refine Fr.drewN ?_ _))) F1)
  clear F1
  obtain ⟨r0x, r1x, r2x, r3x, t0x, t1x, t2x, t3x, rz0x, rz1x, rz2x, rz3x, tz0x, tz1x, tz2x, tz3x⟩ := kept_rt HF1.out r0 r1 r2 r3 t0 t1 t2 t3 rz0 rz1 rz2 rz3 tz0 tz1 tz2 tz3
  go_wp2_with fail
  obtain ⟨w8, hw8, hF8, q0, q1, q2, q3, q4, q5, q6, q7⟩ := two_end (w1 := w1) (x := w.heap.size + 1 + 1) (y := w.heap.size + 1 + 1 + 1) (by first | exact HX.out.fr.trans HF2.out | exact HX.out.fr.trans HF1.out | exact HX.out.b4.fr.trans HF1.out | exact HX.out.fr | exact HX.out.b4.fr) (by omega) (by omega) (by omega) r0x r1x r2x r3x t0x t1x t2x t3x (.string ⟨rt.toArray⟩) (.int .i64 rr) (.string ⟨rl.toArray⟩) (.bool rb) (.int .i64 0) (.string ⟨#[]⟩) (.int .i32 0) (.int .i64 1)
  have HF8 := Lib.hid hF8
  rw [← hw8]
  refine bodyPost_ret (v := .tuple #[SB.val ⟨rt, rr, rl, rb⟩, Td.val ⟨0, [], 0, 1⟩, .bool true]) (by simp [results, Tryz.results61, go_sem, SB.val, SB.cells, Td.val, Td.cells, q0, q1, q2, q3, q4, q5, q6, q7]) rfl ?_
  exact ⟨rfl, HF8.out⟩
set_option maxHeartbeats 1600000 in
set_option maxRecDepth 100000 in
theorem spr_6a (m : Nat) (w : World) (hl : text.length ≤ 1099511627776) (hs : size ≤ 65535) (hm : m = min size text.length) (he : text.isEmpty = true) (hz : ¬ (0 : Int) < (size : Int)) :
    Calls Tryz.prog 61 #[SB.val ⟨text, recent, last, begun⟩, .agg #[.int .i64 6, .int .i64 a, .int .i64 bb, .int .u16 (size : Int), .int .i64 n, .int .u8 (sign.toNat : Int), .int .i32 char, .string ⟨ctext.toArray⟩, .slice ad cuts.length cap]] w (DoPost w (SB.read ⟨text, recent, last, begun⟩ m 1) ⟨m, text.take m, 0, 0⟩ true) := by
  have hcHC : ∀ wx, Calls Tryz.prog 96 #[SB.val ⟨text, recent, last, begun⟩, .int .i64 (m : Int), .int .i64 1] wx fun e w' => e = .returned (SB.val (SB.read ⟨text, recent, last, begun⟩ m 1)) ∧ Fr (fun _ => False) wx w' := fun wx => sp_read text recent last begun m 1 wx (by omega) (by omega)
  obtain ⟨rt, rr, rl, rb, hresHC⟩ : ∃ rt rr rl rb, (SB.read ⟨text, recent, last, begun⟩ m 1) = SB.mk rt rr rl rb := ⟨_, _, _, _, rfl⟩
  rw [hresHC] at hcHC ⊢
  simp only [SB.val, SB.cells] at hcHC
  have HC := Lib.hid hcHC
  clear hresHC hcHC
  have hsw : IntKind.i64.wrap (size : Int) = (size : Int) := IntWalk.i64_in _ (by omega)
  have hmin : min (size : Int) (text.length : Int) = (m : Int) := by omega
  have x1 := ext_take text m
  obtain ⟨pk, hpk⟩ : ∃ pk, pk = text.take m := ⟨_, rfl⟩
  rw [← hpk] at x1 ⊢
  have hm2 : (m : Int) ≤ (text.length : Int) := by omega
  have hm3 : (0 : Int) ≤ (m : Int) := by omega
  clear hm hpk
  obtain ⟨w0, hw0, hX⟩ := box4_ex text recent last begun a bb size n sign char ctext cuts ad cap w (6)
  have HX := Lib.hid hX
  have HW0 := Lib.hid hw0
  obtain ⟨b0, b1, b2, b3, e0, e1, e2, e3, e4, e5, e6, e7, e8, r0, r1, r2, r3, t0, t1, t2, t3, rz, tz, _, hlt⟩ := hX
  have rz0 := rz 0; have rz1 := rz 1; have rz2 := rz 2; have rz3 := rz 3; have tz0 := tz 0; have tz1 := tz 1; have tz2 := tz 2; have tz3 := tz 3
  clear hw0 rz tz
  simp only [SB.val, SB.cells]
  go_enter Tryz.func61, Tryz.ntmps61
  go_wp2_with fail
  rw [← HW0.out]
  go_region_held3 (fun w' => w'.cell? ⟨w.heap.size, 0, none⟩ = some (.string ⟨text.toArray⟩) ∧ w'.cell? ⟨w.heap.size, 1, none⟩ = some (.int .i64 recent) ∧ w'.cell? ⟨w.heap.size, 2, none⟩ = some (.string ⟨last.toArray⟩) ∧ w'.cell? ⟨w.heap.size, 3, none⟩ = some (.bool begun)) (((repeat' apply And.intro) <;> (try simp only [World.cell?_drew]) <;> first | with_reducible assumption | with_reducible exact alloc_cell (by with_reducible assumption) | with_reducible exact far4 (by with_reducible assumption) (by dsimp only; omega) | with_reducible exact far4 (far4 (by with_reducible assumption) (by dsimp only; omega)) (by dsimp only; omega))) ((go_at_call 96; refine (HC.out _).mono ?_; rintro e w1 ⟨rfl, F1⟩; have HF1 : Hid (Fr (fun _ => False) w0 w1) := Lib.hid (Fr.trans (by (repeat (with_reducible first | exact Fr.refl _ _ | exact HF1.out | refine Fr.drew ?_ | refine Fr.alloc ?_ _ | refine Fr.drewN ?_ _))) F1); clear F1; have b0x := keep1 HF1.out b0; have b1x := keep1 HF1.out b1; have b2x := keep1 HF1.out b2; have b3x := keep1 HF1.out b3; obtain ⟨r0x, r1x, r2x, r3x, t0x, t1x, t2x, t3x, rz0x, rz1x, rz2x, rz3x, tz0x, tz1x, tz2x, tz3x⟩ := kept_rt HF1.out r0 r1 r2 r3 t0 t1 t2 t3 rz0 rz1 rz2 rz3 tz0 tz1 tz2 tz3))
  go_wp2_with fail
  obtain ⟨w8, hw8, hF8, q0, q1, q2, q3, q4, q5, q6, q7⟩ := two_end (w1 := w1) (x := w.heap.size + 1 + 1) (y := w.heap.size + 1 + 1 + 1) (by first | exact HX.out.fr.trans HF2.out | exact HX.out.fr.trans HF1.out | exact HX.out.b4.fr.trans HF1.out | exact HX.out.fr | exact HX.out.b4.fr) (by omega) (by omega) (by omega) r0x r1x r2x r3x t0x t1x t2x t3x (.string ⟨rt.toArray⟩) (.int .i64 rr) (.string ⟨rl.toArray⟩) (.bool rb) (.int .i64 (m : Int)) (.string ⟨pk.toArray⟩) (.int .i32 0) (.int .i64 0)
  have HF8 := Lib.hid hF8
  rw [← hw8]
  refine bodyPost_ret (v := .tuple #[SB.val ⟨rt, rr, rl, rb⟩, Td.val ⟨m, pk, 0, 0⟩, .bool true]) (by simp [results, Tryz.results61, go_sem, SB.val, SB.cells, Td.val, Td.cells, q0, q1, q2, q3, q4, q5, q6, q7]) rfl ?_
  exact ⟨rfl, HF8.out⟩
set_option maxHeartbeats 1600000 in
set_option maxRecDepth 100000 in
theorem spr_6b (m : Nat) (w : World) (hl : text.length ≤ 1099511627776) (hs : size ≤ 65535) (hm : m = min size text.length) (he : text.isEmpty = false) :
    Calls Tryz.prog 61 #[SB.val ⟨text, recent, last, begun⟩, .agg #[.int .i64 6, .int .i64 a, .int .i64 bb, .int .u16 (size : Int), .int .i64 n, .int .u8 (sign.toNat : Int), .int .i32 char, .string ⟨ctext.toArray⟩, .slice ad cuts.length cap]] w (DoPost w (SB.read ⟨text, recent, last, begun⟩ m 1) ⟨m, text.take m, 0, 0⟩ true) := by
  have hcHC : ∀ wx, Calls Tryz.prog 96 #[SB.val ⟨text, recent, last, begun⟩, .int .i64 (m : Int), .int .i64 1] wx fun e w' => e = .returned (SB.val (SB.read ⟨text, recent, last, begun⟩ m 1)) ∧ Fr (fun _ => False) wx w' := fun wx => sp_read text recent last begun m 1 wx (by omega) (by omega)
  obtain ⟨rt, rr, rl, rb, hresHC⟩ : ∃ rt rr rl rb, (SB.read ⟨text, recent, last, begun⟩ m 1) = SB.mk rt rr rl rb := ⟨_, _, _, _, rfl⟩
  rw [hresHC] at hcHC ⊢
  simp only [SB.val, SB.cells] at hcHC
  have HC := Lib.hid hcHC
  clear hresHC hcHC
  have hsw : IntKind.i64.wrap (size : Int) = (size : Int) := IntWalk.i64_in _ (by omega)
  have hmin : min (size : Int) (text.length : Int) = (m : Int) := by omega
  have x1 := ext_take text m
  obtain ⟨pk, hpk⟩ : ∃ pk, pk = text.take m := ⟨_, rfl⟩
  rw [← hpk] at x1 ⊢
  have hm2 : (m : Int) ≤ (text.length : Int) := by omega
  have hm3 : (0 : Int) ≤ (m : Int) := by omega
  clear hm hpk
  obtain ⟨w0, hw0, hX⟩ := box4_ex text recent last begun a bb size n sign char ctext cuts ad cap w (6)
  have HX := Lib.hid hX
  have HW0 := Lib.hid hw0
  obtain ⟨b0, b1, b2, b3, e0, e1, e2, e3, e4, e5, e6, e7, e8, r0, r1, r2, r3, t0, t1, t2, t3, rz, tz, _, hlt⟩ := hX
  have rz0 := rz 0; have rz1 := rz 1; have rz2 := rz 2; have rz3 := rz 3; have tz0 := tz 0; have tz1 := tz 1; have tz2 := tz 2; have tz3 := tz 3
  clear hw0 rz tz
  simp only [SB.val, SB.cells]
  go_enter Tryz.func61, Tryz.ntmps61
  go_wp2_with fail
  rw [← HW0.out]
  go_region_held3 (fun w' => w'.cell? ⟨w.heap.size, 0, none⟩ = some (.string ⟨text.toArray⟩) ∧ w'.cell? ⟨w.heap.size, 1, none⟩ = some (.int .i64 recent) ∧ w'.cell? ⟨w.heap.size, 2, none⟩ = some (.string ⟨last.toArray⟩) ∧ w'.cell? ⟨w.heap.size, 3, none⟩ = some (.bool begun)) (((repeat' apply And.intro) <;> (try simp only [World.cell?_drew]) <;> first | with_reducible assumption | with_reducible exact alloc_cell (by with_reducible assumption) | with_reducible exact far4 (by with_reducible assumption) (by dsimp only; omega) | with_reducible exact far4 (far4 (by with_reducible assumption) (by dsimp only; omega)) (by dsimp only; omega))) ((go_at_call 96; refine (HC.out _).mono ?_; rintro e w1 ⟨rfl, F1⟩; have HF1 : Hid (Fr (fun _ => False) w0 w1) := Lib.hid (Fr.trans (by (repeat (with_reducible first | exact Fr.refl _ _ | exact HF1.out | refine Fr.drew ?_ | refine Fr.alloc ?_ _ | refine Fr.drewN ?_ _))) F1); clear F1; have b0x := keep1 HF1.out b0; have b1x := keep1 HF1.out b1; have b2x := keep1 HF1.out b2; have b3x := keep1 HF1.out b3; obtain ⟨r0x, r1x, r2x, r3x, t0x, t1x, t2x, t3x, rz0x, rz1x, rz2x, rz3x, tz0x, tz1x, tz2x, tz3x⟩ := kept_rt HF1.out r0 r1 r2 r3 t0 t1 t2 t3 rz0 rz1 rz2 rz3 tz0 tz1 tz2 tz3))
  go_wp2_with fail
  obtain ⟨w8, hw8, hF8, q0, q1, q2, q3, q4, q5, q6, q7⟩ := two_end (w1 := w1) (x := w.heap.size + 1 + 1) (y := w.heap.size + 1 + 1 + 1) (by first | exact HX.out.fr.trans HF2.out | exact HX.out.fr.trans HF1.out | exact HX.out.b4.fr.trans HF1.out | exact HX.out.fr | exact HX.out.b4.fr) (by omega) (by omega) (by omega) r0x r1x r2x r3x t0x t1x t2x t3x (.string ⟨rt.toArray⟩) (.int .i64 rr) (.string ⟨rl.toArray⟩) (.bool rb) (.int .i64 (m : Int)) (.string ⟨pk.toArray⟩) (.int .i32 0) (.int .i64 0)
  have HF8 := Lib.hid hF8
  rw [← hw8]
  refine bodyPost_ret (v := .tuple #[SB.val ⟨rt, rr, rl, rb⟩, Td.val ⟨m, pk, 0, 0⟩, .bool true]) (by simp [results, Tryz.results61, go_sem, SB.val, SB.cells, Td.val, Td.cells, q0, q1, q2, q3, q4, q5, q6, q7]) rfl ?_
  exact ⟨rfl, HF8.out⟩
set_option maxHeartbeats 1600000 in
set_option maxRecDepth 100000 in
theorem spr_7 (m : Nat) (w : World) (hl : text.length ≤ 1099511627776) (hs : size ≤ 65535) (hm : m = min size text.length) :
    Calls Tryz.prog 61 #[SB.val ⟨text, recent, last, begun⟩, .agg #[.int .i64 7, .int .i64 a, .int .i64 bb, .int .u16 (size : Int), .int .i64 n, .int .u8 (sign.toNat : Int), .int .i32 char, .string ⟨ctext.toArray⟩, .slice ad cuts.length cap]] w (DoPost w (SB.read ⟨text, recent, last, begun⟩ m 1) ⟨0, text.take m, 0, 0⟩ true) := by
  have hcHC : ∀ wx, Calls Tryz.prog 96 #[SB.val ⟨text, recent, last, begun⟩, .int .i64 (m : Int), .int .i64 1] wx fun e w' => e = .returned (SB.val (SB.read ⟨text, recent, last, begun⟩ m 1)) ∧ Fr (fun _ => False) wx w' := fun wx => sp_read text recent last begun m 1 wx (by omega) (by omega)
  obtain ⟨rt, rr, rl, rb, hresHC⟩ : ∃ rt rr rl rb, (SB.read ⟨text, recent, last, begun⟩ m 1) = SB.mk rt rr rl rb := ⟨_, _, _, _, rfl⟩
  rw [hresHC] at hcHC ⊢
  simp only [SB.val, SB.cells] at hcHC
  have HC := Lib.hid hcHC
  clear hresHC hcHC
  have hsw : IntKind.i64.wrap (size : Int) = (size : Int) := IntWalk.i64_in _ (by omega)
  have hmin : min (size : Int) (text.length : Int) = (m : Int) := by omega
  have x1 := ext_take text m
  obtain ⟨pk, hpk⟩ : ∃ pk, pk = text.take m := ⟨_, rfl⟩
  rw [← hpk] at x1 ⊢
  have hm2 : (m : Int) ≤ (text.length : Int) := by omega
  have hm3 : (0 : Int) ≤ (m : Int) := by omega
  clear hm hpk
  obtain ⟨w0, hw0, hX⟩ := box4_ex text recent last begun a bb size n sign char ctext cuts ad cap w (7)
  have HX := Lib.hid hX
  have HW0 := Lib.hid hw0
  obtain ⟨b0, b1, b2, b3, e0, e1, e2, e3, e4, e5, e6, e7, e8, r0, r1, r2, r3, t0, t1, t2, t3, rz, tz, _, hlt⟩ := hX
  have rz0 := rz 0; have rz1 := rz 1; have rz2 := rz 2; have rz3 := rz 3; have tz0 := tz 0; have tz1 := tz 1; have tz2 := tz 2; have tz3 := tz 3
  clear hw0 rz tz
  simp only [SB.val, SB.cells]
  go_enter Tryz.func61, Tryz.ntmps61
  go_wp2_with fail
  rw [← HW0.out]
  go_region_held3 (fun w' => w'.cell? ⟨w.heap.size, 0, none⟩ = some (.string ⟨text.toArray⟩) ∧ w'.cell? ⟨w.heap.size, 1, none⟩ = some (.int .i64 recent) ∧ w'.cell? ⟨w.heap.size, 2, none⟩ = some (.string ⟨last.toArray⟩) ∧ w'.cell? ⟨w.heap.size, 3, none⟩ = some (.bool begun)) (((repeat' apply And.intro) <;> (try simp only [World.cell?_drew]) <;> first | with_reducible assumption | with_reducible exact alloc_cell (by with_reducible assumption) | with_reducible exact far4 (by with_reducible assumption) (by dsimp only; omega) | with_reducible exact far4 (far4 (by with_reducible assumption) (by dsimp only; omega)) (by dsimp only; omega))) ((go_at_call 96; refine (HC.out _).mono ?_; rintro e w1 ⟨rfl, F1⟩; have HF1 : Hid (Fr (fun _ => False) w0 w1) := Lib.hid (Fr.trans (by (repeat (with_reducible first | exact Fr.refl _ _ | exact HF1.out | refine Fr.drew ?_ | refine Fr.alloc ?_ _ | refine Fr.drewN ?_ _))) F1); clear F1; have b0x := keep1 HF1.out b0; have b1x := keep1 HF1.out b1; have b2x := keep1 HF1.out b2; have b3x := keep1 HF1.out b3; obtain ⟨r0x, r1x, r2x, r3x, t0x, t1x, t2x, t3x, rz0x, rz1x, rz2x, rz3x, tz0x, tz1x, tz2x, tz3x⟩ := kept_rt HF1.out r0 r1 r2 r3 t0 t1 t2 t3 rz0 rz1 rz2 rz3 tz0 tz1 tz2 tz3))
  go_wp2_with fail
  obtain ⟨w8, hw8, hF8, q0, q1, q2, q3, q4, q5, q6, q7⟩ := two_end (w1 := w1) (x := w.heap.size + 1 + 1) (y := w.heap.size + 1 + 1 + 1) (by first | exact HX.out.fr.trans HF2.out | exact HX.out.fr.trans HF1.out | exact HX.out.b4.fr.trans HF1.out | exact HX.out.fr | exact HX.out.b4.fr) (by omega) (by omega) (by omega) r0x r1x r2x r3x t0x t1x t2x t3x (.string ⟨rt.toArray⟩) (.int .i64 rr) (.string ⟨rl.toArray⟩) (.bool rb) (.int .i64 0) (.string ⟨pk.toArray⟩) (.int .i32 0) (.int .i64 0)
  have HF8 := Lib.hid hF8
  rw [← hw8]
  refine bodyPost_ret (v := .tuple #[SB.val ⟨rt, rr, rl, rb⟩, Td.val ⟨0, pk, 0, 0⟩, .bool true]) (by simp [results, Tryz.results61, go_sem, SB.val, SB.cells, Td.val, Td.cells, q0, q1, q2, q3, q4, q5, q6, q7]) rfl ?_
  exact ⟨rfl, HF8.out⟩
set_option maxHeartbeats 1600000 in
set_option maxRecDepth 100000 in
theorem spr_8e (m : Nat) (w : World) (hl : text.length ≤ 1099511627776) (hs : size ≤ 65535) (hm : m = min size text.length) (he : text.isEmpty = true) :
    Calls Tryz.prog 61 #[SB.val ⟨text, recent, last, begun⟩, .agg #[.int .i64 8, .int .i64 a, .int .i64 bb, .int .u16 (size : Int), .int .i64 n, .int .u8 (sign.toNat : Int), .int .i32 char, .string ⟨ctext.toArray⟩, .slice ad cuts.length cap]] w (DoPost w (SB.read ⟨text, recent, last, begun⟩ 0 1) ⟨0, [], 0, 1⟩ true) := by
  have hcHC : ∀ wx, Calls Tryz.prog 96 #[SB.val ⟨text, recent, last, begun⟩, .int .i64 0, .int .i64 1] wx fun e w' => e = .returned (SB.val (SB.read ⟨text, recent, last, begun⟩ 0 1)) ∧ Fr (fun _ => False) wx w' := fun wx => sp_read text recent last begun 0 1 wx (by omega) (by omega)
  obtain ⟨rt, rr, rl, rb, hresHC⟩ : ∃ rt rr rl rb, (SB.read ⟨text, recent, last, begun⟩ 0 1) = SB.mk rt rr rl rb := ⟨_, _, _, _, rfl⟩
  rw [hresHC] at hcHC ⊢
  simp only [SB.val, SB.cells] at hcHC
  have HC := Lib.hid hcHC
  clear hresHC hcHC
  have hsw : IntKind.i64.wrap (size : Int) = (size : Int) := IntWalk.i64_in _ (by omega)
  have hmin : min (size : Int) (text.length : Int) = (m : Int) := by omega
  clear hm
  obtain ⟨w0, hw0, hX⟩ := box4_ex text recent last begun a bb size n sign char ctext cuts ad cap w (8)
  have HX := Lib.hid hX
  have HW0 := Lib.hid hw0
  obtain ⟨b0, b1, b2, b3, e0, e1, e2, e3, e4, e5, e6, e7, e8, r0, r1, r2, r3, t0, t1, t2, t3, rz, tz, _, hlt⟩ := hX
  have rz0 := rz 0; have rz1 := rz 1; have rz2 := rz 2; have rz3 := rz 3; have tz0 := tz 0; have tz1 := tz 1; have tz2 := tz 2; have tz3 := tz 3
  clear hw0 rz tz
  simp only [SB.val, SB.cells]
  go_enter Tryz.func61, Tryz.ntmps61
  go_wp2_with fail
  rw [← HW0.out]
  refine (HC.out _).mono ?_
  rintro e w1 ⟨rfl, F1⟩
  have HF1 : Hid (Fr (fun _ => False) w0 w1) := Lib.hid (Fr.trans (by (repeat (with_reducible first | exact Fr.refl _ _ | exact HF1.out | refine Fr.drew ?_ | refine Fr.alloc ?_ _ | refine Fr.drewN ?_ _))) F1)
  clear F1
  obtain ⟨r0x, r1x, r2x, r3x, t0x, t1x, t2x, t3x, rz0x, rz1x, rz2x, rz3x, tz0x, tz1x, tz2x, tz3x⟩ := kept_rt HF1.out r0 r1 r2 r3 t0 t1 t2 t3 rz0 rz1 rz2 rz3 tz0 tz1 tz2 tz3
  go_wp2_with fail
  obtain ⟨w8, hw8, hF8, q0, q1, q2, q3, q4, q5, q6, q7⟩ := two_end (w1 := w1) (x := w.heap.size + 1 + 1) (y := w.heap.size + 1 + 1 + 1) (by first | exact HX.out.fr.trans HF2.out | exact HX.out.fr.trans HF1.out | exact HX.out.b4.fr.trans HF1.out | exact HX.out.fr | exact HX.out.b4.fr) (by omega) (by omega) (by omega) r0x r1x r2x r3x t0x t1x t2x t3x (.string ⟨rt.toArray⟩) (.int .i64 rr) (.string ⟨rl.toArray⟩) (.bool rb) (.int .i64 0) (.string ⟨#[]⟩) (.int .i32 0) (.int .i64 1)
  have HF8 := Lib.hid hF8
  rw [← hw8]
  refine bodyPost_ret (v := .tuple #[SB.val ⟨rt, rr, rl, rb⟩, Td.val ⟨0, [], 0, 1⟩, .bool true]) (by simp [results, Tryz.results61, go_sem, SB.val, SB.cells, Td.val, Td.cells, q0, q1, q2, q3, q4, q5, q6, q7]) rfl ?_
  exact ⟨rfl, HF8.out⟩
set_option maxHeartbeats 1600000 in
set_option maxRecDepth 100000 in
theorem spr_8 (m : Nat) (w : World) (hl : text.length ≤ 1099511627776) (hs : size ≤ 65535) (hm : m = min size text.length) (he : text.isEmpty = false) (x : UInt8) (hx : text[0]? = some x) :
    Calls Tryz.prog 61 #[SB.val ⟨text, recent, last, begun⟩, .agg #[.int .i64 8, .int .i64 a, .int .i64 bb, .int .u16 (size : Int), .int .i64 n, .int .u8 (sign.toNat : Int), .int .i32 char, .string ⟨ctext.toArray⟩, .slice ad cuts.length cap]] w (DoPost w (SB.read ⟨text, recent, last, begun⟩ 1 1) ⟨0, [], x.toNat, 0⟩ true) := by
  have hcHC : ∀ wx, Calls Tryz.prog 96 #[SB.val ⟨text, recent, last, begun⟩, .int .i64 1, .int .i64 1] wx fun e w' => e = .returned (SB.val (SB.read ⟨text, recent, last, begun⟩ 1 1)) ∧ Fr (fun _ => False) wx w' := fun wx => sp_read text recent last begun 1 1 wx (by obtain ⟨h, _⟩ := List.getElem?_eq_some_iff.1 hx; omega) (by omega)
  obtain ⟨rt, rr, rl, rb, hresHC⟩ : ∃ rt rr rl rb, (SB.read ⟨text, recent, last, begun⟩ 1 1) = SB.mk rt rr rl rb := ⟨_, _, _, _, rfl⟩
  rw [hresHC] at hcHC ⊢
  simp only [SB.val, SB.cells] at hcHC
  have HC := Lib.hid hcHC
  clear hresHC hcHC
  have hsw : IntKind.i64.wrap (size : Int) = (size : Int) := IntWalk.i64_in _ (by omega)
  have hmin : min (size : Int) (text.length : Int) = (m : Int) := by omega
  have hget : ∀ h : 0 < (⟨text.toArray⟩ : ByteArray).size, (⟨text.toArray⟩ : ByteArray)[0]'h = x := fun h => byte_at hx h
  have hlt0 : (0 : Int) < (text.length : Int) := by obtain ⟨h, _⟩ := List.getElem?_eq_some_iff.1 hx; omega
  have hlt1 : 0 < text.length := by omega
  have hw32 : wrap32 (x.toNat : Int) = (x.toNat : Int) := wrap32_in _ (by omega) (by have := x.toNat_lt; omega)
  have hw33 : IntKind.i32.wrap (x.toNat : Int) = (x.toNat : Int) := IntWalk.i32_in _ (by have := x.toNat_lt; omega)
  clear hm hx
  obtain ⟨w0, hw0, hX⟩ := box4_ex text recent last begun a bb size n sign char ctext cuts ad cap w (8)
  have HX := Lib.hid hX
  have HW0 := Lib.hid hw0
  obtain ⟨b0, b1, b2, b3, e0, e1, e2, e3, e4, e5, e6, e7, e8, r0, r1, r2, r3, t0, t1, t2, t3, rz, tz, _, hlt⟩ := hX
  have rz0 := rz 0; have rz1 := rz 1; have rz2 := rz 2; have rz3 := rz 3; have tz0 := tz 0; have tz1 := tz 1; have tz2 := tz 2; have tz3 := tz 3
  clear hw0 rz tz
  simp only [SB.val, SB.cells]
  go_enter Tryz.func61, Tryz.ntmps61
  go_wp2_with fail
  rw [← HW0.out]
  go_region_held3 (fun w' => w'.cell? ⟨w.heap.size, 0, none⟩ = some (.string ⟨text.toArray⟩) ∧ w'.cell? ⟨w.heap.size, 1, none⟩ = some (.int .i64 recent) ∧ w'.cell? ⟨w.heap.size, 2, none⟩ = some (.string ⟨last.toArray⟩) ∧ w'.cell? ⟨w.heap.size, 3, none⟩ = some (.bool begun)) (((repeat' apply And.intro) <;> (try simp only [World.cell?_drew]) <;> first | with_reducible assumption | with_reducible exact alloc_cell (by with_reducible assumption) | with_reducible exact far4 (by with_reducible assumption) (by dsimp only; omega) | with_reducible exact far4 (far4 (by with_reducible assumption) (by dsimp only; omega)) (by dsimp only; omega))) ((go_at_call 96; refine (HC.out _).mono ?_; rintro e w1 ⟨rfl, F1⟩; have HF1 : Hid (Fr (fun _ => False) w0 w1) := Lib.hid (Fr.trans (by (repeat (with_reducible first | exact Fr.refl _ _ | exact HF1.out | refine Fr.drew ?_ | refine Fr.alloc ?_ _ | refine Fr.drewN ?_ _))) F1); clear F1; have b0x := keep1 HF1.out b0; have b1x := keep1 HF1.out b1; have b2x := keep1 HF1.out b2; have b3x := keep1 HF1.out b3; obtain ⟨r0x, r1x, r2x, r3x, t0x, t1x, t2x, t3x, rz0x, rz1x, rz2x, rz3x, tz0x, tz1x, tz2x, tz3x⟩ := kept_rt HF1.out r0 r1 r2 r3 t0 t1 t2 t3 rz0 rz1 rz2 rz3 tz0 tz1 tz2 tz3))
  all_goals
    go_wp2_with fail
    obtain ⟨w8, hw8, hF8, q0, q1, q2, q3, q4, q5, q6, q7⟩ := two_end (w1 := w1) (x := w.heap.size + 1 + 1) (y := w.heap.size + 1 + 1 + 1) (by first | exact HX.out.fr.trans HF2.out | exact HX.out.fr.trans HF1.out | exact HX.out.b4.fr.trans HF1.out | exact HX.out.fr | exact HX.out.b4.fr) (by omega) (by omega) (by omega) r0x r1x r2x r3x t0x t1x t2x t3x (.string ⟨rt.toArray⟩) (.int .i64 rr) (.string ⟨rl.toArray⟩) (.bool rb) (.int .i64 0) (.string ⟨#[]⟩) (.int .i32 (x.toNat : Int)) (.int .i64 0)
    have HF8 := Lib.hid hF8
    rw [← hw8]
    refine bodyPost_ret (v := .tuple #[SB.val ⟨rt, rr, rl, rb⟩, Td.val ⟨0, [], x.toNat, 0⟩, .bool true]) (by simp [results, Tryz.results61, go_sem, SB.val, SB.cells, Td.val, Td.cells, q0, q1, q2, q3, q4, q5, q6, q7]) rfl ?_
    exact ⟨rfl, HF8.out⟩
set_option maxHeartbeats 1600000 in
set_option maxRecDepth 100000 in
theorem spr_9e (m : Nat) (w : World) (hs : size ≤ 65535) (hm : m = min size text.length) (he : text = []) :
    Calls Tryz.prog 61 #[SB.val ⟨text, recent, last, begun⟩, .agg #[.int .i64 9, .int .i64 a, .int .i64 bb, .int .u16 (size : Int), .int .i64 n, .int .u8 (sign.toNat : Int), .int .i32 char, .string ⟨ctext.toArray⟩, .slice ad cuts.length cap]] w (DoPost w ⟨[], 5, [], true⟩ ⟨0, [], 0, 1⟩ true) := by
  have hsw : IntKind.i64.wrap (size : Int) = (size : Int) := IntWalk.i64_in _ (by omega)
  have hmin : min (size : Int) (text.length : Int) = (m : Int) := by omega
  have hie : text.isEmpty = true := by rw [he]; rfl
  have hl0 : (text.length : Int) = 0 := by rw [he]; rfl
  clear hm he
  obtain ⟨w0, hw0, hX⟩ := box4_ex text recent last begun a bb size n sign char ctext cuts ad cap w (9)
  have HX := Lib.hid hX
  have HW0 := Lib.hid hw0
  obtain ⟨b0, b1, b2, b3, e0, e1, e2, e3, e4, e5, e6, e7, e8, r0, r1, r2, r3, t0, t1, t2, t3, rz, tz, _, hlt⟩ := hX
  have rz0 := rz 0; have rz1 := rz 1; have rz2 := rz 2; have rz3 := rz 3; have tz0 := tz 0; have tz1 := tz 1; have tz2 := tz 2; have tz3 := tz 3
  clear hw0 rz tz
  simp only [SB.val, SB.cells]
  go_enter Tryz.func61, Tryz.ntmps61
  go_wp2_with fail
  rw [← HW0.out]
  go_loopw [8, 73] (fun v8 v73 wr => v73 = .int .i64 0 ∧ v8 = undef ∧ wr = w0) (fun _ _ _ => 0)
  case atStart => exact ⟨rfl, rfl, rfl⟩
  case round =>
    obtain ⟨rfl, rfl, rfl⟩ := hrel
    go_wp2_with fail
    obtain ⟨w8, hw8, hF8, q0, q1, q2, q3, q4, q5, q6, q7⟩ := two_end (w1 := wr) (x := w.heap.size + 1 + 1) (y := w.heap.size + 1 + 1 + 1) (by (repeat (with_reducible first | exact HX.out.fr | exact HX.out.b4.fr | refine Fr.setCell ?_ (fun q => by dsimp only at q; omega) _ | refine Fr.drew ?_ | refine Fr.alloc ?_ _ | exact Fr.trans HX.out.fr HF2.out | exact Fr.trans HX.out.fr HF1.out | exact Fr.trans HX.out.b4.fr HF1.out))) (by omega) (by omega) (by omega) r0 r1 r2 r3 t0 t1 t2 t3 (.string ⟨#[]⟩) (.int .i64 5) (.string ⟨#[]⟩) (.bool true) (.int .i64 0) (.string ⟨#[]⟩) (.int .i32 0) (.int .i64 1)
    have HF8 := Lib.hid hF8
    rw [← hw8]
    refine bodyPost_ret (v := .tuple #[SB.val ⟨[], 5, [], true⟩, Td.val ⟨0, [], 0, 1⟩, .bool true]) (by simp [results, Tryz.results61, go_sem, SB.val, SB.cells, Td.val, Td.cells, q0, q1, q2, q3, q4, q5, q6, q7]) rfl ?_
    exact ⟨rfl, HF8.out⟩
set_option maxHeartbeats 1600000 in
set_option maxRecDepth 100000 in
theorem spr_9 (m : Nat) (w : World) (hl : text.length ≤ 1099511627776) (hs : size ≤ 65535) (hm : m = min size text.length) (he : text.isEmpty = false) (RR : SB) (TT : Td)
    (h1 : ∀ i, (∀ j, j < i → text[j]? ≠ some sign) → text[i]? = some sign → RR = SB.read ⟨text, recent, last, begun⟩ (i + 1) 1 ∧ TT = ⟨0, text.take (i + 1), 0, 0⟩)
    (h2 : (∀ j, j < text.length → text[j]? ≠ some sign) → RR = SB.read ⟨text, recent, last, begun⟩ text.length 5 ∧ TT = ⟨0, text, 0, 1⟩) :
    Calls Tryz.prog 61 #[SB.val ⟨text, recent, last, begun⟩, .agg #[.int .i64 9, .int .i64 a, .int .i64 bb, .int .u16 (size : Int), .int .i64 n, .int .u8 (sign.toNat : Int), .int .i32 char, .string ⟨ctext.toArray⟩, .slice ad cuts.length cap]] w (DoPost w RR TT true) := by
  have hc : ∀ (k : Nat) (r : Int) wx, k ≤ text.length → Calls Tryz.prog 96 #[SB.val ⟨text, recent, last, begun⟩, .int .i64 (k : Int), .int .i64 r] wx fun e w' => e = .returned (SB.val (SB.read ⟨text, recent, last, begun⟩ k r)) ∧ Fr (fun _ => False) wx w' := fun k r wx hk => sp_read text recent last begun k r wx hk (by omega)
  have HC := Lib.hid hc
  have H1 := Lib.hid h1
  have H2 := Lib.hid h2
  clear hc h1 h2
  have hsw : IntKind.i64.wrap (size : Int) = (size : Int) := IntWalk.i64_in _ (by omega)
  have hmin : min (size : Int) (text.length : Int) = (m : Int) := by omega
  clear hm
  obtain ⟨w0, hw0, hX⟩ := box4_ex text recent last begun a bb size n sign char ctext cuts ad cap w (9)
  have HX := Lib.hid hX
  have HW0 := Lib.hid hw0
  obtain ⟨b0, b1, b2, b3, e0, e1, e2, e3, e4, e5, e6, e7, e8, r0, r1, r2, r3, t0, t1, t2, t3, rz, tz, _, hlt⟩ := hX
  have rz0 := rz 0; have rz1 := rz 1; have rz2 := rz 2; have rz3 := rz 3; have tz0 := tz 0; have tz1 := tz 1; have tz2 := tz 2; have tz3 := tz 3
  clear hw0 rz tz
  simp only [SB.val, SB.cells]
  go_enter Tryz.func61, Tryz.ntmps61
  go_wp2_with fail
  rw [← HW0.out]
  go_loopw [8, 73] (fun v8 v73 wr => ∃ i : Nat, i ≤ text.length ∧ v73 = .int .i64 (i : Int) ∧ (∃ u, v8 = u) ∧ Fr (fun _ => False) w0 wr ∧ Hid (∀ j, j < i → text[j]? ≠ some sign)) (fun _ v73 _ => text.length - (intOf v73).toNat)
  case atStart => exact ⟨0, Nat.zero_le _, rfl, ⟨_, rfl⟩, Fr.refl _ w0, Lib.hid (fun j hj => by omega)⟩
  case round =>
    obtain ⟨i, hi, rfl, ⟨u, rfl⟩, hF, hN⟩ := hrel
    have HFR := Lib.hid hF
    clear hF
    have b0r := keep1 HFR.out b0
    have b1r := keep1 HFR.out b1
    have b2r := keep1 HFR.out b2
    have b3r := keep1 HFR.out b3
    have e5r := keep1 HFR.out e5
    obtain ⟨r0r, r1r, r2r, r3r, t0r, t1r, t2r, t3r, rz0r, rz1r, rz2r, rz3r, tz0r, tz1r, tz2r, tz3r⟩ := kept_rt HFR.out r0 r1 r2 r3 t0 t1 t2 t3 rz0 rz1 rz2 rz3 tz0 tz1 tz2 tz3
    by_cases hil : i < text.length
    · obtain ⟨x, hx⟩ : ∃ x, text[i]? = some x := ⟨_, List.getElem?_eq_getElem hil⟩
      have hget : ∀ h : i < (⟨text.toArray⟩ : ByteArray).size, (⟨text.toArray⟩ : ByteArray)[i]'h = x := fun h => byte_at hx h
      have hii : (i : Int) < (text.length : Int) := by omega
      have hi0 : (0 : Int) ≤ (i : Int) := by omega
      have hw1 : IntKind.i64.wrap ((i : Int) + 1) = ((i + 1 : Nat) : Int) := by rw [IntWalk.i64_in _ (by omega)]; omega
      have HX2 := Lib.hid hx
      clear hx
      by_cases hxs : x = sign
      · have hxb : ((x.toNat : Int) == (sign.toNat : Int)) = true := by rw [hxs]; simp
        have hx3 : text[i]? = some sign := by rw [HX2.out, hxs]
        obtain ⟨eR, eT⟩ := H1.out i hN.out hx3
        have hcc := HC.out (i + 1) 1
        obtain ⟨rt, rr, rl, rb, hres⟩ : ∃ rt rr rl rb, SB.read ⟨text, recent, last, begun⟩ (i + 1) 1 = SB.mk rt rr rl rb := ⟨_, _, _, _, rfl⟩
        rw [hres] at hcc eR
        simp only [SB.val, SB.cells] at hcc
        have HCC := Lib.hid hcc
        have x1 := ext_take text (i + 1)
        obtain ⟨pk, hpk⟩ : ∃ pk, pk = text.take (i + 1) := ⟨_, rfl⟩
        rw [← hpk] at x1 eT
        have HER := Lib.hid eR
        have HET := Lib.hid eT
        have hk2 : ((i + 1 : Nat) : Int) ≤ (text.length : Int) := by omega
        have hk3 : (0 : Int) ≤ ((i + 1 : Nat) : Int) := by omega
        obtain ⟨k1, hkk1⟩ : ∃ k1, k1 = i + 1 := ⟨_, rfl⟩
        rw [← hkk1] at x1 hk2 hk3 hw1 HCC
        have hkl : k1 ≤ text.length := by omega
        clear hres hcc hpk eR eT hx3 hkk1 hi hxs
        go_wp2_with fail
        go_region_held3 (fun w' => w'.cell? ⟨w.heap.size, 0, none⟩ = some (.string ⟨text.toArray⟩) ∧ w'.cell? ⟨w.heap.size, 1, none⟩ = some (.int .i64 recent) ∧ w'.cell? ⟨w.heap.size, 2, none⟩ = some (.string ⟨last.toArray⟩) ∧ w'.cell? ⟨w.heap.size, 3, none⟩ = some (.bool begun) ∧ w'.cell? ⟨w.heap.size + 1, 5, none⟩ = some (.int .u8 (sign.toNat : Int))) (((repeat' apply And.intro) <;> (try simp only [World.cell?_drew]) <;> first | with_reducible assumption | with_reducible exact alloc_cell (by with_reducible assumption) | with_reducible exact far4 (by with_reducible assumption) (by dsimp only; omega) | with_reducible exact far4 (far4 (by with_reducible assumption) (by dsimp only; omega)) (by dsimp only; omega))) (fail)
        go_wp2_with fail
        go_region_held3 (fun w' => w'.cell? ⟨w.heap.size, 0, none⟩ = some (.string ⟨text.toArray⟩) ∧ w'.cell? ⟨w.heap.size, 1, none⟩ = some (.int .i64 recent) ∧ w'.cell? ⟨w.heap.size, 2, none⟩ = some (.string ⟨last.toArray⟩) ∧ w'.cell? ⟨w.heap.size, 3, none⟩ = some (.bool begun)) (((repeat' apply And.intro) <;> (try simp only [World.cell?_drew]) <;> first | with_reducible assumption | with_reducible exact alloc_cell (by with_reducible assumption) | with_reducible exact far4 (by with_reducible assumption) (by dsimp only; omega) | with_reducible exact far4 (far4 (by with_reducible assumption) (by dsimp only; omega)) (by dsimp only; omega))) ((go_at_call 96; refine (HCC.out _ hkl).mono ?_; rintro e w1 ⟨rfl, F1⟩; have HF1 : Hid (Fr (fun _ => False) w0 w1) := Lib.hid (Fr.trans (by (repeat (with_reducible first | exact HFR.out | refine Fr.drew ?_ | refine Fr.alloc ?_ _))) F1); clear F1; have b0x := keep1 HF1.out b0; have b1x := keep1 HF1.out b1; have b2x := keep1 HF1.out b2; have b3x := keep1 HF1.out b3; obtain ⟨r0x, r1x, r2x, r3x, t0x, t1x, t2x, t3x, rz0x, rz1x, rz2x, rz3x, tz0x, tz1x, tz2x, tz3x⟩ := kept_rt HF1.out r0 r1 r2 r3 t0 t1 t2 t3 rz0 rz1 rz2 rz3 tz0 tz1 tz2 tz3))
        go_wp2_with fail
        obtain ⟨w8, hw8, hF8, q0, q1, q2, q3, q4, q5, q6, q7⟩ := two_end (w1 := w1) (x := w.heap.size + 1 + 1) (y := w.heap.size + 1 + 1 + 1) (by first | exact HX.out.fr.trans HF2.out | exact HX.out.fr.trans HF1.out | exact HX.out.b4.fr.trans HF1.out | exact HX.out.fr | exact HX.out.b4.fr) (by omega) (by omega) (by omega) r0x r1x r2x r3x t0x t1x t2x t3x (.string ⟨rt.toArray⟩) (.int .i64 rr) (.string ⟨rl.toArray⟩) (.bool rb) (.int .i64 0) (.string ⟨pk.toArray⟩) (.int .i32 0) (.int .i64 0)
        have HF8 := Lib.hid hF8
        rw [← hw8]
        refine bodyPost_ret (v := .tuple #[SB.val ⟨rt, rr, rl, rb⟩, Td.val ⟨0, pk, 0, 0⟩, .bool true]) (by simp [results, Tryz.results61, go_sem, SB.val, SB.cells, Td.val, Td.cells, q0, q1, q2, q3, q4, q5, q6, q7]) rfl ?_
        exact ⟨by rw [HER.out, HET.out], HF8.out⟩
      · have hxb : ((x.toNat : Int) == (sign.toNat : Int)) = false := by
          have : x.toNat ≠ sign.toNat := fun q => hxs (UInt8.toNat_inj.1 q)
          simp; omega
        have hN2 : Hid (∀ j, j < i + 1 → text[j]? ≠ some sign) := Lib.hid (fun j hj => by
          by_cases hji : j < i
          · exact hN.out j hji
          · obtain rfl : j = i := by omega
            rw [HX2.out]
            simpa using hxs)
        go_wp2_with fail
        go_region_held3 (fun w' => w'.cell? ⟨w.heap.size, 0, none⟩ = some (.string ⟨text.toArray⟩) ∧ w'.cell? ⟨w.heap.size, 1, none⟩ = some (.int .i64 recent) ∧ w'.cell? ⟨w.heap.size, 2, none⟩ = some (.string ⟨last.toArray⟩) ∧ w'.cell? ⟨w.heap.size, 3, none⟩ = some (.bool begun) ∧ w'.cell? ⟨w.heap.size + 1, 5, none⟩ = some (.int .u8 (sign.toNat : Int))) (((repeat' apply And.intro) <;> (try simp only [World.cell?_drew]) <;> first | with_reducible assumption | with_reducible exact alloc_cell (by with_reducible assumption) | with_reducible exact far4 (by with_reducible assumption) (by dsimp only; omega) | with_reducible exact far4 (far4 (by with_reducible assumption) (by dsimp only; omega)) (by dsimp only; omega))) (fail)
        go_wp2_with fail
        go_roundw
        case rel => exact ⟨i + 1, by omega, by go_num, ⟨_, rfl⟩, by (repeat (with_reducible first | exact Fr.refl _ _ | exact HFR.out | refine Fr.drew ?_ | refine Fr.alloc ?_ _ | refine Fr.drewN ?_ _)), hN2⟩
        case measure => simp [intOf]; omega
    · have hii : ¬ (i : Int) < (text.length : Int) := by omega
      have hil2 : i = text.length := by omega
      obtain ⟨eR, eT⟩ := H2.out (fun j hj => hN.out j (by omega))
      have hcc := HC.out text.length 5
      obtain ⟨rt, rr, rl, rb, hres⟩ : ∃ rt rr rl rb, SB.read ⟨text, recent, last, begun⟩ text.length 5 = SB.mk rt rr rl rb := ⟨_, _, _, _, rfl⟩
      rw [hres] at hcc eR
      simp only [SB.val, SB.cells] at hcc
      have HCC := Lib.hid hcc
      have HER := Lib.hid eR
      have HET := Lib.hid eT
      clear hres hcc eR eT hil2
      go_wp2_with fail
      go_region_held3 (fun w' => w'.cell? ⟨w.heap.size, 0, none⟩ = some (.string ⟨text.toArray⟩) ∧ w'.cell? ⟨w.heap.size, 1, none⟩ = some (.int .i64 recent) ∧ w'.cell? ⟨w.heap.size, 2, none⟩ = some (.string ⟨last.toArray⟩) ∧ w'.cell? ⟨w.heap.size, 3, none⟩ = some (.bool begun)) (((repeat' apply And.intro) <;> (try simp only [World.cell?_drew]) <;> first | with_reducible assumption | with_reducible exact alloc_cell (by with_reducible assumption) | with_reducible exact far4 (by with_reducible assumption) (by dsimp only; omega) | with_reducible exact far4 (far4 (by with_reducible assumption) (by dsimp only; omega)) (by dsimp only; omega))) ((go_at_call 96; refine (HCC.out _ (Nat.le_refl _)).mono ?_; rintro e w1 ⟨rfl, F1⟩; have HF1 : Hid (Fr (fun _ => False) w0 w1) := Lib.hid (Fr.trans (by (repeat (with_reducible first | exact HFR.out | refine Fr.drew ?_ | refine Fr.alloc ?_ _))) F1); clear F1; have b0x := keep1 HF1.out b0; have b1x := keep1 HF1.out b1; have b2x := keep1 HF1.out b2; have b3x := keep1 HF1.out b3; obtain ⟨r0x, r1x, r2x, r3x, t0x, t1x, t2x, t3x, rz0x, rz1x, rz2x, rz3x, tz0x, tz1x, tz2x, tz3x⟩ := kept_rt HF1.out r0 r1 r2 r3 t0 t1 t2 t3 rz0 rz1 rz2 rz3 tz0 tz1 tz2 tz3))
      go_wp2_with fail
      obtain ⟨w8, hw8, hF8, q0, q1, q2, q3, q4, q5, q6, q7⟩ := two_end (w1 := w1) (x := w.heap.size + 1 + 1) (y := w.heap.size + 1 + 1 + 1) (by first | exact HX.out.fr.trans HF2.out | exact HX.out.fr.trans HF1.out | exact HX.out.b4.fr.trans HF1.out | exact HX.out.fr | exact HX.out.b4.fr) (by omega) (by omega) (by omega) r0x r1x r2x r3x t0x t1x t2x t3x (.string ⟨rt.toArray⟩) (.int .i64 rr) (.string ⟨rl.toArray⟩) (.bool rb) (.int .i64 0) (.string ⟨text.toArray⟩) (.int .i32 0) (.int .i64 1)
      have HF8 := Lib.hid hF8
      rw [← hw8]
      refine bodyPost_ret (v := .tuple #[SB.val ⟨rt, rr, rl, rb⟩, Td.val ⟨0, text, 0, 1⟩, .bool true]) (by simp [results, Tryz.results61, go_sem, SB.val, SB.cells, Td.val, Td.cells, q0, q1, q2, q3, q4, q5, q6, q7]) rfl ?_
      exact ⟨by rw [HER.out, HET.out], HF8.out⟩
set_option maxHeartbeats 1600000 in
set_option maxRecDepth 100000 in
theorem spr_10e (m : Nat) (w : World) (hs : size ≤ 65535) (hm : m = min size text.length) (he : text = []) :
    Calls Tryz.prog 61 #[SB.val ⟨text, recent, last, begun⟩, .agg #[.int .i64 10, .int .i64 a, .int .i64 bb, .int .u16 (size : Int), .int .i64 n, .int .u8 (sign.toNat : Int), .int .i32 char, .string ⟨ctext.toArray⟩, .slice ad cuts.length cap]] w (DoPost w ⟨[], 5, [], true⟩ ⟨0, [], 0, 1⟩ true) := by
  have hsw : IntKind.i64.wrap (size : Int) = (size : Int) := IntWalk.i64_in _ (by omega)
  have hmin : min (size : Int) (text.length : Int) = (m : Int) := by omega
  have hie : text.isEmpty = true := by rw [he]; rfl
  have hl0 : (text.length : Int) = 0 := by rw [he]; rfl
  clear hm he
  obtain ⟨w0, hw0, hX⟩ := box4_ex text recent last begun a bb size n sign char ctext cuts ad cap w (10)
  have HX := Lib.hid hX
  have HW0 := Lib.hid hw0
  obtain ⟨b0, b1, b2, b3, e0, e1, e2, e3, e4, e5, e6, e7, e8, r0, r1, r2, r3, t0, t1, t2, t3, rz, tz, _, hlt⟩ := hX
  have rz0 := rz 0; have rz1 := rz 1; have rz2 := rz 2; have rz3 := rz 3; have tz0 := tz 0; have tz1 := tz 1; have tz2 := tz 2; have tz3 := tz 3
  clear hw0 rz tz
  simp only [SB.val, SB.cells]
  go_enter Tryz.func61, Tryz.ntmps61
  go_wp2_with fail
  rw [← HW0.out]
  go_loopw [8, 73] (fun v8 v73 wr => v73 = .int .i64 0 ∧ v8 = undef ∧ wr = w0) (fun _ _ _ => 0)
  case atStart => exact ⟨rfl, rfl, rfl⟩
  case round =>
    obtain ⟨rfl, rfl, rfl⟩ := hrel
    go_wp2_with fail
    obtain ⟨w8, hw8, hF8, q0, q1, q2, q3, q4, q5, q6, q7⟩ := two_end (w1 := wr) (x := w.heap.size + 1 + 1) (y := w.heap.size + 1 + 1 + 1) (by (repeat (with_reducible first | exact HX.out.fr | exact HX.out.b4.fr | refine Fr.setCell ?_ (fun q => by dsimp only at q; omega) _ | refine Fr.drew ?_ | refine Fr.alloc ?_ _ | exact Fr.trans HX.out.fr HF2.out | exact Fr.trans HX.out.fr HF1.out | exact Fr.trans HX.out.b4.fr HF1.out))) (by omega) (by omega) (by omega) r0 r1 r2 r3 t0 t1 t2 t3 (.string ⟨#[]⟩) (.int .i64 5) (.string ⟨#[]⟩) (.bool true) (.int .i64 0) (.string ⟨#[]⟩) (.int .i32 0) (.int .i64 1)
    have HF8 := Lib.hid hF8
    rw [← hw8]
    refine bodyPost_ret (v := .tuple #[SB.val ⟨[], 5, [], true⟩, Td.val ⟨0, [], 0, 1⟩, .bool true]) (by simp [results, Tryz.results61, go_sem, SB.val, SB.cells, Td.val, Td.cells, q0, q1, q2, q3, q4, q5, q6, q7]) rfl ?_
    exact ⟨rfl, HF8.out⟩
set_option maxHeartbeats 1600000 in
set_option maxRecDepth 100000 in
theorem spr_10 (m : Nat) (w : World) (hl : text.length ≤ 1099511627776) (hs : size ≤ 65535) (hm : m = min size text.length) (he : text.isEmpty = false) (RR : SB) (TT : Td)
    (h1 : ∀ i, (∀ j, j < i → text[j]? ≠ some sign) → text[i]? = some sign → RR = SB.read ⟨text, recent, last, begun⟩ (i + 1) 1 ∧ TT = ⟨0, text.take (i + 1), 0, 0⟩)
    (h2 : (∀ j, j < text.length → text[j]? ≠ some sign) → RR = SB.read ⟨text, recent, last, begun⟩ text.length 5 ∧ TT = ⟨0, text, 0, 1⟩) :
    Calls Tryz.prog 61 #[SB.val ⟨text, recent, last, begun⟩, .agg #[.int .i64 10, .int .i64 a, .int .i64 bb, .int .u16 (size : Int), .int .i64 n, .int .u8 (sign.toNat : Int), .int .i32 char, .string ⟨ctext.toArray⟩, .slice ad cuts.length cap]] w (DoPost w RR TT true) := by
  have hc : ∀ (k : Nat) (r : Int) wx, k ≤ text.length → Calls Tryz.prog 96 #[SB.val ⟨text, recent, last, begun⟩, .int .i64 (k : Int), .int .i64 r] wx fun e w' => e = .returned (SB.val (SB.read ⟨text, recent, last, begun⟩ k r)) ∧ Fr (fun _ => False) wx w' := fun k r wx hk => sp_read text recent last begun k r wx hk (by omega)
  have HC := Lib.hid hc
  have H1 := Lib.hid h1
  have H2 := Lib.hid h2
  clear hc h1 h2
  have hsw : IntKind.i64.wrap (size : Int) = (size : Int) := IntWalk.i64_in _ (by omega)
  have hmin : min (size : Int) (text.length : Int) = (m : Int) := by omega
  clear hm
  obtain ⟨w0, hw0, hX⟩ := box4_ex text recent last begun a bb size n sign char ctext cuts ad cap w (10)
  have HX := Lib.hid hX
  have HW0 := Lib.hid hw0
  obtain ⟨b0, b1, b2, b3, e0, e1, e2, e3, e4, e5, e6, e7, e8, r0, r1, r2, r3, t0, t1, t2, t3, rz, tz, _, hlt⟩ := hX
  have rz0 := rz 0; have rz1 := rz 1; have rz2 := rz 2; have rz3 := rz 3; have tz0 := tz 0; have tz1 := tz 1; have tz2 := tz 2; have tz3 := tz 3
  clear hw0 rz tz
  simp only [SB.val, SB.cells]
  go_enter Tryz.func61, Tryz.ntmps61
  go_wp2_with fail
  rw [← HW0.out]
  go_loopw [8, 73] (fun v8 v73 wr => ∃ i : Nat, i ≤ text.length ∧ v73 = .int .i64 (i : Int) ∧ (∃ u, v8 = u) ∧ Fr (fun _ => False) w0 wr ∧ Hid (∀ j, j < i → text[j]? ≠ some sign)) (fun _ v73 _ => text.length - (intOf v73).toNat)
  case atStart => exact ⟨0, Nat.zero_le _, rfl, ⟨_, rfl⟩, Fr.refl _ w0, Lib.hid (fun j hj => by omega)⟩
  case round =>
    obtain ⟨i, hi, rfl, ⟨u, rfl⟩, hF, hN⟩ := hrel
    have HFR := Lib.hid hF
    clear hF
    have b0r := keep1 HFR.out b0
    have b1r := keep1 HFR.out b1
    have b2r := keep1 HFR.out b2
    have b3r := keep1 HFR.out b3
    have e5r := keep1 HFR.out e5
    obtain ⟨r0r, r1r, r2r, r3r, t0r, t1r, t2r, t3r, rz0r, rz1r, rz2r, rz3r, tz0r, tz1r, tz2r, tz3r⟩ := kept_rt HFR.out r0 r1 r2 r3 t0 t1 t2 t3 rz0 rz1 rz2 rz3 tz0 tz1 tz2 tz3
    by_cases hil : i < text.length
    · obtain ⟨x, hx⟩ : ∃ x, text[i]? = some x := ⟨_, List.getElem?_eq_getElem hil⟩
      have hget : ∀ h : i < (⟨text.toArray⟩ : ByteArray).size, (⟨text.toArray⟩ : ByteArray)[i]'h = x := fun h => byte_at hx h
      have hii : (i : Int) < (text.length : Int) := by omega
      have hi0 : (0 : Int) ≤ (i : Int) := by omega
      have hw1 : IntKind.i64.wrap ((i : Int) + 1) = ((i + 1 : Nat) : Int) := by rw [IntWalk.i64_in _ (by omega)]; omega
      have HX2 := Lib.hid hx
      clear hx
      by_cases hxs : x = sign
      · have hxb : ((x.toNat : Int) == (sign.toNat : Int)) = true := by rw [hxs]; simp
        have hx3 : text[i]? = some sign := by rw [HX2.out, hxs]
        obtain ⟨eR, eT⟩ := H1.out i hN.out hx3
        have hcc := HC.out (i + 1) 1
        obtain ⟨rt, rr, rl, rb, hres⟩ : ∃ rt rr rl rb, SB.read ⟨text, recent, last, begun⟩ (i + 1) 1 = SB.mk rt rr rl rb := ⟨_, _, _, _, rfl⟩
        rw [hres] at hcc eR
        simp only [SB.val, SB.cells] at hcc
        have HCC := Lib.hid hcc
        have x1 := ext_take text (i + 1)
        obtain ⟨pk, hpk⟩ : ∃ pk, pk = text.take (i + 1) := ⟨_, rfl⟩
        rw [← hpk] at x1 eT
        have HER := Lib.hid eR
        have HET := Lib.hid eT
        have hk2 : ((i + 1 : Nat) : Int) ≤ (text.length : Int) := by omega
        have hk3 : (0 : Int) ≤ ((i + 1 : Nat) : Int) := by omega
        obtain ⟨k1, hkk1⟩ : ∃ k1, k1 = i + 1 := ⟨_, rfl⟩
        rw [← hkk1] at x1 hk2 hk3 hw1 HCC
        have hkl : k1 ≤ text.length := by omega
        clear hres hcc hpk eR eT hx3 hkk1 hi hxs
        go_wp2_with fail
        go_region_held3 (fun w' => w'.cell? ⟨w.heap.size, 0, none⟩ = some (.string ⟨text.toArray⟩) ∧ w'.cell? ⟨w.heap.size, 1, none⟩ = some (.int .i64 recent) ∧ w'.cell? ⟨w.heap.size, 2, none⟩ = some (.string ⟨last.toArray⟩) ∧ w'.cell? ⟨w.heap.size, 3, none⟩ = some (.bool begun) ∧ w'.cell? ⟨w.heap.size + 1, 5, none⟩ = some (.int .u8 (sign.toNat : Int))) (((repeat' apply And.intro) <;> (try simp only [World.cell?_drew]) <;> first | with_reducible assumption | with_reducible exact alloc_cell (by with_reducible assumption) | with_reducible exact far4 (by with_reducible assumption) (by dsimp only; omega) | with_reducible exact far4 (far4 (by with_reducible assumption) (by dsimp only; omega)) (by dsimp only; omega))) (fail)
        go_wp2_with fail
        go_region_held3 (fun w' => w'.cell? ⟨w.heap.size, 0, none⟩ = some (.string ⟨text.toArray⟩) ∧ w'.cell? ⟨w.heap.size, 1, none⟩ = some (.int .i64 recent) ∧ w'.cell? ⟨w.heap.size, 2, none⟩ = some (.string ⟨last.toArray⟩) ∧ w'.cell? ⟨w.heap.size, 3, none⟩ = some (.bool begun)) (((repeat' apply And.intro) <;> (try simp only [World.cell?_drew]) <;> first | with_reducible assumption | with_reducible exact alloc_cell (by with_reducible assumption) | with_reducible exact far4 (by with_reducible assumption) (by dsimp only; omega) | with_reducible exact far4 (far4 (by with_reducible assumption) (by dsimp only; omega)) (by dsimp only; omega))) ((go_at_call 96; refine (HCC.out _ hkl).mono ?_; rintro e w1 ⟨rfl, F1⟩; have HF1 : Hid (Fr (fun _ => False) w0 w1) := Lib.hid (Fr.trans (by (repeat (with_reducible first | exact HFR.out | refine Fr.drew ?_ | refine Fr.alloc ?_ _))) F1); clear F1; have b0x := keep1 HF1.out b0; have b1x := keep1 HF1.out b1; have b2x := keep1 HF1.out b2; have b3x := keep1 HF1.out b3; obtain ⟨r0x, r1x, r2x, r3x, t0x, t1x, t2x, t3x, rz0x, rz1x, rz2x, rz3x, tz0x, tz1x, tz2x, tz3x⟩ := kept_rt HF1.out r0 r1 r2 r3 t0 t1 t2 t3 rz0 rz1 rz2 rz3 tz0 tz1 tz2 tz3))
        go_wp2_with fail
        obtain ⟨w8, hw8, hF8, q0, q1, q2, q3, q4, q5, q6, q7⟩ := two_end (w1 := w1) (x := w.heap.size + 1 + 1) (y := w.heap.size + 1 + 1 + 1) (by first | exact HX.out.fr.trans HF2.out | exact HX.out.fr.trans HF1.out | exact HX.out.b4.fr.trans HF1.out | exact HX.out.fr | exact HX.out.b4.fr) (by omega) (by omega) (by omega) r0x r1x r2x r3x t0x t1x t2x t3x (.string ⟨rt.toArray⟩) (.int .i64 rr) (.string ⟨rl.toArray⟩) (.bool rb) (.int .i64 0) (.string ⟨pk.toArray⟩) (.int .i32 0) (.int .i64 0)
        have HF8 := Lib.hid hF8
        rw [← hw8]
        refine bodyPost_ret (v := .tuple #[SB.val ⟨rt, rr, rl, rb⟩, Td.val ⟨0, pk, 0, 0⟩, .bool true]) (by simp [results, Tryz.results61, go_sem, SB.val, SB.cells, Td.val, Td.cells, q0, q1, q2, q3, q4, q5, q6, q7]) rfl ?_
        exact ⟨by rw [HER.out, HET.out], HF8.out⟩
      · have hxb : ((x.toNat : Int) == (sign.toNat : Int)) = false := by
          have : x.toNat ≠ sign.toNat := fun q => hxs (UInt8.toNat_inj.1 q)
          simp; omega
        have hN2 : Hid (∀ j, j < i + 1 → text[j]? ≠ some sign) := Lib.hid (fun j hj => by
          by_cases hji : j < i
          · exact hN.out j hji
          · obtain rfl : j = i := by omega
            rw [HX2.out]
            simpa using hxs)
        go_wp2_with fail
        go_region_held3 (fun w' => w'.cell? ⟨w.heap.size, 0, none⟩ = some (.string ⟨text.toArray⟩) ∧ w'.cell? ⟨w.heap.size, 1, none⟩ = some (.int .i64 recent) ∧ w'.cell? ⟨w.heap.size, 2, none⟩ = some (.string ⟨last.toArray⟩) ∧ w'.cell? ⟨w.heap.size, 3, none⟩ = some (.bool begun) ∧ w'.cell? ⟨w.heap.size + 1, 5, none⟩ = some (.int .u8 (sign.toNat : Int))) (((repeat' apply And.intro) <;> (try simp only [World.cell?_drew]) <;> first | with_reducible assumption | with_reducible exact alloc_cell (by with_reducible assumption) | with_reducible exact far4 (by with_reducible assumption) (by dsimp only; omega) | with_reducible exact far4 (far4 (by with_reducible assumption) (by dsimp only; omega)) (by dsimp only; omega))) (fail)
        go_wp2_with fail
        go_roundw
        case rel => exact ⟨i + 1, by omega, by go_num, ⟨_, rfl⟩, by (repeat (with_reducible first | exact Fr.refl _ _ | exact HFR.out | refine Fr.drew ?_ | refine Fr.alloc ?_ _ | refine Fr.drewN ?_ _)), hN2⟩
        case measure => simp [intOf]; omega
    · have hii : ¬ (i : Int) < (text.length : Int) := by omega
      have hil2 : i = text.length := by omega
      obtain ⟨eR, eT⟩ := H2.out (fun j hj => hN.out j (by omega))
      have hcc := HC.out text.length 5
      obtain ⟨rt, rr, rl, rb, hres⟩ : ∃ rt rr rl rb, SB.read ⟨text, recent, last, begun⟩ text.length 5 = SB.mk rt rr rl rb := ⟨_, _, _, _, rfl⟩
      rw [hres] at hcc eR
      simp only [SB.val, SB.cells] at hcc
      have HCC := Lib.hid hcc
      have HER := Lib.hid eR
      have HET := Lib.hid eT
      clear hres hcc eR eT hil2
      go_wp2_with fail
      go_region_held3 (fun w' => w'.cell? ⟨w.heap.size, 0, none⟩ = some (.string ⟨text.toArray⟩) ∧ w'.cell? ⟨w.heap.size, 1, none⟩ = some (.int .i64 recent) ∧ w'.cell? ⟨w.heap.size, 2, none⟩ = some (.string ⟨last.toArray⟩) ∧ w'.cell? ⟨w.heap.size, 3, none⟩ = some (.bool begun)) (((repeat' apply And.intro) <;> (try simp only [World.cell?_drew]) <;> first | with_reducible assumption | with_reducible exact alloc_cell (by with_reducible assumption) | with_reducible exact far4 (by with_reducible assumption) (by dsimp only; omega) | with_reducible exact far4 (far4 (by with_reducible assumption) (by dsimp only; omega)) (by dsimp only; omega))) ((go_at_call 96; refine (HCC.out _ (Nat.le_refl _)).mono ?_; rintro e w1 ⟨rfl, F1⟩; have HF1 : Hid (Fr (fun _ => False) w0 w1) := Lib.hid (Fr.trans (by (repeat (with_reducible first | exact HFR.out | refine Fr.drew ?_ | refine Fr.alloc ?_ _))) F1); clear F1; have b0x := keep1 HF1.out b0; have b1x := keep1 HF1.out b1; have b2x := keep1 HF1.out b2; have b3x := keep1 HF1.out b3; obtain ⟨r0x, r1x, r2x, r3x, t0x, t1x, t2x, t3x, rz0x, rz1x, rz2x, rz3x, tz0x, tz1x, tz2x, tz3x⟩ := kept_rt HF1.out r0 r1 r2 r3 t0 t1 t2 t3 rz0 rz1 rz2 rz3 tz0 tz1 tz2 tz3))
      go_wp2_with fail
      obtain ⟨w8, hw8, hF8, q0, q1, q2, q3, q4, q5, q6, q7⟩ := two_end (w1 := w1) (x := w.heap.size + 1 + 1) (y := w.heap.size + 1 + 1 + 1) (by first | exact HX.out.fr.trans HF2.out | exact HX.out.fr.trans HF1.out | exact HX.out.b4.fr.trans HF1.out | exact HX.out.fr | exact HX.out.b4.fr) (by omega) (by omega) (by omega) r0x r1x r2x r3x t0x t1x t2x t3x (.string ⟨rt.toArray⟩) (.int .i64 rr) (.string ⟨rl.toArray⟩) (.bool rb) (.int .i64 0) (.string ⟨text.toArray⟩) (.int .i32 0) (.int .i64 1)
      have HF8 := Lib.hid hF8
      rw [← hw8]
      refine bodyPost_ret (v := .tuple #[SB.val ⟨rt, rr, rl, rb⟩, Td.val ⟨0, text, 0, 1⟩, .bool true]) (by simp [results, Tryz.results61, go_sem, SB.val, SB.cells, Td.val, Td.cells, q0, q1, q2, q3, q4, q5, q6, q7]) rfl ?_
      exact ⟨by rw [HER.out, HET.out], HF8.out⟩
set_option maxHeartbeats 1600000 in
set_option maxRecDepth 100000 in
theorem spr_11e (m : Nat) (w : World) (hl : text.length ≤ 1099511627776) (hs : size ≤ 65535) (hm : m = min size text.length) (he : text.isEmpty = true) :
    Calls Tryz.prog 61 #[SB.val ⟨text, recent, last, begun⟩, .agg #[.int .i64 11, .int .i64 a, .int .i64 bb, .int .u16 (size : Int), .int .i64 n, .int .u8 (sign.toNat : Int), .int .i32 char, .string ⟨ctext.toArray⟩, .slice ad cuts.length cap]] w (DoPost w (SB.read ⟨text, recent, last, begun⟩ 0 2) ⟨0, [], 0, 1⟩ true) := by
  have hcHC : ∀ wx, Calls Tryz.prog 96 #[SB.val ⟨text, recent, last, begun⟩, .int .i64 0, .int .i64 2] wx fun e w' => e = .returned (SB.val (SB.read ⟨text, recent, last, begun⟩ 0 2)) ∧ Fr (fun _ => False) wx w' := fun wx => sp_read text recent last begun 0 2 wx (by omega) (by omega)
  obtain ⟨rt, rr, rl, rb, hresHC⟩ : ∃ rt rr rl rb, (SB.read ⟨text, recent, last, begun⟩ 0 2) = SB.mk rt rr rl rb := ⟨_, _, _, _, rfl⟩
  rw [hresHC] at hcHC ⊢
  simp only [SB.val, SB.cells] at hcHC
  have HC := Lib.hid hcHC
  clear hresHC hcHC
  have hsw : IntKind.i64.wrap (size : Int) = (size : Int) := IntWalk.i64_in _ (by omega)
  have hmin : min (size : Int) (text.length : Int) = (m : Int) := by omega
  clear hm
  obtain ⟨w0, hw0, hX⟩ := box4_ex text recent last begun a bb size n sign char ctext cuts ad cap w (11)
  have HX := Lib.hid hX
  have HW0 := Lib.hid hw0
  obtain ⟨b0, b1, b2, b3, e0, e1, e2, e3, e4, e5, e6, e7, e8, r0, r1, r2, r3, t0, t1, t2, t3, rz, tz, _, hlt⟩ := hX
  have rz0 := rz 0; have rz1 := rz 1; have rz2 := rz 2; have rz3 := rz 3; have tz0 := tz 0; have tz1 := tz 1; have tz2 := tz 2; have tz3 := tz 3
  clear hw0 rz tz
  simp only [SB.val, SB.cells]
  go_enter Tryz.func61, Tryz.ntmps61
  go_wp2_with fail
  rw [← HW0.out]
  refine (HC.out _).mono ?_
  rintro e w1 ⟨rfl, F1⟩
  have HF1 : Hid (Fr (fun _ => False) w0 w1) := Lib.hid (Fr.trans (by (repeat (with_reducible first | exact Fr.refl _ _ | exact HF1.out | refine Fr.drew ?_ | refine Fr.alloc ?_ _ | refine Fr.drewN ?_ _))) F1)
  clear F1
  obtain ⟨r0x, r1x, r2x, r3x, t0x, t1x, t2x, t3x, rz0x, rz1x, rz2x, rz3x, tz0x, tz1x, tz2x, tz3x⟩ := kept_rt HF1.out r0 r1 r2 r3 t0 t1 t2 t3 rz0 rz1 rz2 rz3 tz0 tz1 tz2 tz3
  go_wp2_with fail
  obtain ⟨w8, hw8, hF8, q0, q1, q2, q3, q4, q5, q6, q7⟩ := two_end (w1 := w1) (x := w.heap.size + 1 + 1) (y := w.heap.size + 1 + 1 + 1) (by first | exact HX.out.fr.trans HF2.out | exact HX.out.fr.trans HF1.out | exact HX.out.b4.fr.trans HF1.out | exact HX.out.fr | exact HX.out.b4.fr) (by omega) (by omega) (by omega) r0x r1x r2x r3x t0x t1x t2x t3x (.string ⟨rt.toArray⟩) (.int .i64 rr) (.string ⟨rl.toArray⟩) (.bool rb) (.int .i64 0) (.string ⟨#[]⟩) (.int .i32 0) (.int .i64 1)
  have HF8 := Lib.hid hF8
  rw [← hw8]
  refine bodyPost_ret (v := .tuple #[SB.val ⟨rt, rr, rl, rb⟩, Td.val ⟨0, [], 0, 1⟩, .bool true]) (by simp [results, Tryz.results61, go_sem, SB.val, SB.cells, Td.val, Td.cells, q0, q1, q2, q3, q4, q5, q6, q7]) rfl ?_
  exact ⟨rfl, HF8.out⟩
set_option maxHeartbeats 1600000 in
set_option maxRecDepth 100000 in
theorem spr_11 (m : Nat) (w : World) (hl : text.length ≤ 1099511627776) (hs : size ≤ 65535) (hm : m = min size text.length) (he : text.isEmpty = false) (ch : Int) (dn : Nat) (hd : dec text = (ch, dn)) (hdn : dn ≤ text.length) :
    Calls Tryz.prog 61 #[SB.val ⟨text, recent, last, begun⟩, .agg #[.int .i64 11, .int .i64 a, .int .i64 bb, .int .u16 (size : Int), .int .i64 n, .int .u8 (sign.toNat : Int), .int .i32 char, .string ⟨ctext.toArray⟩, .slice ad cuts.length cap]] w (DoPost w (SB.read ⟨text, recent, last, begun⟩ dn 2) ⟨dn, [], ch, 0⟩ true) := by
  have hcHC : ∀ wx, Calls Tryz.prog 96 #[SB.val ⟨text, recent, last, begun⟩, .int .i64 (dn : Int), .int .i64 2] wx fun e w' => e = .returned (SB.val (SB.read ⟨text, recent, last, begun⟩ dn 2)) ∧ Fr (fun _ => False) wx w' := fun wx => sp_read text recent last begun dn 2 wx (by omega) (by omega)
  obtain ⟨rt, rr, rl, rb, hresHC⟩ : ∃ rt rr rl rb, (SB.read ⟨text, recent, last, begun⟩ dn 2) = SB.mk rt rr rl rb := ⟨_, _, _, _, rfl⟩
  rw [hresHC] at hcHC ⊢
  simp only [SB.val, SB.cells] at hcHC
  have HC := Lib.hid hcHC
  clear hresHC hcHC
  have hdc : ∀ wx, Calls Tryz.prog 97 #[.string ⟨text.toArray⟩] wx fun e w' => e = .returned (.tuple #[.int .i32 ch, .int .i64 (dn : Int)]) ∧ Fr (fun _ => False) wx w' := fun wx => by
    have := sp_decode text wx (by intro q; rw [q] at he; simp at he)
    unfold DecPost at this
    rw [hd] at this
    exact this
  have HD := Lib.hid hdc
  have hsw : IntKind.i64.wrap (size : Int) = (size : Int) := IntWalk.i64_in _ (by omega)
  have hmin : min (size : Int) (text.length : Int) = (m : Int) := by omega
  clear hm hd hdc
  obtain ⟨w0, hw0, hX⟩ := box4_ex text recent last begun a bb size n sign char ctext cuts ad cap w (11)
  have HX := Lib.hid hX
  have HW0 := Lib.hid hw0
  obtain ⟨b0, b1, b2, b3, e0, e1, e2, e3, e4, e5, e6, e7, e8, r0, r1, r2, r3, t0, t1, t2, t3, rz, tz, _, hlt⟩ := hX
  have rz0 := rz 0; have rz1 := rz 1; have rz2 := rz 2; have rz3 := rz 3; have tz0 := tz 0; have tz1 := tz 1; have tz2 := tz 2; have tz3 := tz 3
  clear hw0 rz tz
  simp only [SB.val, SB.cells]
  go_enter Tryz.func61, Tryz.ntmps61
  go_wp2_with fail
  rw [← HW0.out]
  refine (HD.out _).mono ?_
  rintro e w1 ⟨rfl, F1⟩
  have HF1 : Hid (Fr (fun _ => False) w0 w1) := Lib.hid (Fr.trans (by (repeat (with_reducible first | exact Fr.refl _ _ | exact HF1.out | refine Fr.drew ?_ | refine Fr.alloc ?_ _ | refine Fr.drewN ?_ _))) F1)
  clear F1
  have b0x := keep1 HF1.out b0
  have b1x := keep1 HF1.out b1
  have b2x := keep1 HF1.out b2
  have b3x := keep1 HF1.out b3
  obtain ⟨r0x, r1x, r2x, r3x, t0x, t1x, t2x, t3x, rz0x, rz1x, rz2x, rz3x, tz0x, tz1x, tz2x, tz3x⟩ := kept_rt HF1.out r0 r1 r2 r3 t0 t1 t2 t3 rz0 rz1 rz2 rz3 tz0 tz1 tz2 tz3
  go_wp2_with fail
  refine (HC.out _).mono ?_
  rintro e w2 ⟨rfl, F1⟩
  have HF2 : Hid (Fr (fun _ => False) w0 w2) := Lib.hid (Fr.trans (by (repeat (with_reducible first | exact Fr.refl _ _ | exact HF1.out | refine Fr.drew ?_ | refine Fr.alloc ?_ _ | refine Fr.drewN ?_ _))) F1)
  clear F1
  obtain ⟨r0y, r1y, r2y, r3y, t0y, t1y, t2y, t3y, rz0y, rz1y, rz2y, rz3y, tz0y, tz1y, tz2y, tz3y⟩ := kept_rt HF2.out r0 r1 r2 r3 t0 t1 t2 t3 rz0 rz1 rz2 rz3 tz0 tz1 tz2 tz3
  go_wp2_with fail
  obtain ⟨w8, hw8, hF8, q0, q1, q2, q3, q4, q5, q6, q7⟩ := two_end (w1 := w2) (x := w.heap.size + 1 + 1) (y := w.heap.size + 1 + 1 + 1) (by first | exact HX.out.fr.trans HF2.out | exact HX.out.fr.trans HF1.out | exact HX.out.b4.fr.trans HF1.out | exact HX.out.fr | exact HX.out.b4.fr) (by omega) (by omega) (by omega) r0y r1y r2y r3y t0y t1y t2y t3y (.string ⟨rt.toArray⟩) (.int .i64 rr) (.string ⟨rl.toArray⟩) (.bool rb) (.int .i64 (dn : Int)) (.string ⟨#[]⟩) (.int .i32 ch) (.int .i64 0)
  have HF8 := Lib.hid hF8
  rw [← hw8]
  refine bodyPost_ret (v := .tuple #[SB.val ⟨rt, rr, rl, rb⟩, Td.val ⟨dn, [], ch, 0⟩, .bool true]) (by simp [results, Tryz.results61, go_sem, SB.val, SB.cells, Td.val, Td.cells, q0, q1, q2, q3, q4, q5, q6, q7]) rfl ?_
  exact ⟨rfl, HF8.out⟩
theorem sp_reads (op : Int) (hop : op = 6 ∨ op = 7 ∨ op = 8 ∨ op = 9 ∨ op = 10 ∨ op = 11) (w : World) (hl : text.length ≤ 1099511627776) (hs : size ≤ 65535) :
    Calls Tryz.prog 61 #[SB.val ⟨text, recent, last, begun⟩, .agg #[.int .i64 op, .int .i64 a, .int .i64 bb, .int .u16 (size : Int), .int .i64 n, .int .u8 (sign.toNat : Int), .int .i32 char, .string ⟨ctext.toArray⟩, .slice ad cuts.length cap]] w (DoPost w (SB.reads ⟨text, recent, last, begun⟩ ⟨op, a, bb, size, n, sign, char, ctext, cuts, ad, cap⟩).1 (SB.reads ⟨text, recent, last, begun⟩ ⟨op, a, bb, size, n, sign, char, ctext, cuts, ad, cap⟩).2.1 (SB.reads ⟨text, recent, last, begun⟩ ⟨op, a, bb, size, n, sign, char, ctext, cuts, ad, cap⟩).2.2) := by
  have hie : text ≠ [] → text.isEmpty = false := fun q => by cases text with
    | nil => exact absurd rfl q
    | cons x l => rfl
  have hit : text = [] → text.isEmpty = true := fun q => by rw [q]; rfl
  unfold SB.reads
  simp only
  rcases hop with rfl | rfl | rfl | rfl | rfl | rfl
  · rw [if_pos rfl]
    by_cases he : text = []
    · by_cases hz : 0 < size
      · rw [if_pos ⟨he, hz⟩]
        exact spr_6e text recent last begun a bb size n sign char ctext cuts ad cap _ w hl hs rfl (hit he) (by omega)
      · rw [if_neg (fun q => hz q.2)]
        exact spr_6a text recent last begun a bb size n sign char ctext cuts ad cap _ w hl hs rfl (hit he) (by omega)
    · rw [if_neg (fun q => he q.1)]
      exact spr_6b text recent last begun a bb size n sign char ctext cuts ad cap _ w hl hs rfl (hie he)
  · rw [if_neg (by decide), if_pos rfl]
    exact spr_7 text recent last begun a bb size n sign char ctext cuts ad cap _ w hl hs rfl
  · rw [if_neg (by decide), if_neg (by decide), if_pos rfl]
    cases text with
    | nil => exact spr_8e [] recent last begun a bb size n sign char ctext cuts ad cap _ w hl hs rfl rfl
    | cons x l => exact spr_8 (x :: l) recent last begun a bb size n sign char ctext cuts ad cap _ w hl hs rfl rfl x rfl
  · rw [if_neg (by decide), if_neg (by decide), if_neg (by decide), if_pos (.inl rfl)]
    by_cases he : text = []
    · have hu : upTo sign text = none := by rw [he]; rfl
      rw [hu]
      simp only
      rw [if_pos he]
      exact spr_9e text recent last begun a bb size n sign char ctext cuts ad cap _ w hs rfl he
    · cases hu : upTo sign text with
      | some k =>
        refine spr_9 text recent last begun a bb size n sign char ctext cuts ad cap _ w hl hs rfl (hie he) _ _ (fun i h1 h2 => ?_) (fun h1 => ?_)
        · have q := upTo_hit sign text i h1 h2
          rw [hu] at q
          injection q with q
          subst q
          exact ⟨rfl, rfl⟩
        · have q := upTo_miss sign text h1
          rw [hu] at q
          cases q
      | none =>
        simp only
        rw [if_neg he]
        refine spr_9 text recent last begun a bb size n sign char ctext cuts ad cap _ w hl hs rfl (hie he) _ _ (fun i h1 h2 => ?_) (fun h1 => ⟨rfl, rfl⟩)
        have q := upTo_hit sign text i h1 h2
        rw [hu] at q
        cases q
  · rw [if_neg (by decide), if_neg (by decide), if_neg (by decide), if_pos (.inr rfl)]
    by_cases he : text = []
    · have hu : upTo sign text = none := by rw [he]; rfl
      rw [hu]
      simp only
      rw [if_pos he]
      exact spr_10e text recent last begun a bb size n sign char ctext cuts ad cap _ w hs rfl he
    · cases hu : upTo sign text with
      | some k =>
        refine spr_10 text recent last begun a bb size n sign char ctext cuts ad cap _ w hl hs rfl (hie he) _ _ (fun i h1 h2 => ?_) (fun h1 => ?_)
        · have q := upTo_hit sign text i h1 h2
          rw [hu] at q
          injection q with q
          subst q
          exact ⟨rfl, rfl⟩
        · have q := upTo_miss sign text h1
          rw [hu] at q
          cases q
      | none =>
        simp only
        rw [if_neg he]
        refine spr_10 text recent last begun a bb size n sign char ctext cuts ad cap _ w hl hs rfl (hie he) _ _ (fun i h1 h2 => ?_) (fun h1 => ⟨rfl, rfl⟩)
        have q := upTo_hit sign text i h1 h2
        rw [hu] at q
        cases q
  · rw [if_neg (by decide), if_neg (by decide), if_neg (by decide), if_neg (by decide)]
    by_cases he : text = []
    · rw [if_pos he]
      exact spr_11e text recent last begun a bb size n sign char ctext cuts ad cap _ w hl hs rfl (hit he)
    · rw [if_neg he]
      exact spr_11 text recent last begun a bb size n sign char ctext cuts ad cap _ w hl hs rfl (hie he) _ _ rfl (dec_le text he).2.1
end
end Go.Proofs.YtbodbajgpgaoeaaGreatDoor
