/- SpecY. -/
import Derived.Test.YtbodbajgpgaoeaaGreatDoorQ13
namespace Go.Proofs.YtbodbajgpgaoeaaGreatDoor
open Go Go.RowKit

section
variable (text : List UInt8) (recent : Int) (last : List UInt8) (begun : Bool) (a bb : Int) (size : Nat) (n : Int) (sign : UInt8) (char : Int) (ctext : List UInt8) (cuts : List Nat) (ad : Option Addr) (cap : Nat)
set_option maxHeartbeats 1600000 in
set_option maxRecDepth 100000 in
theorem spd_1 (w : World) (hl : text.length + ctext.length + 8 ≤ 1099511627776) :
    Calls Tryz.prog 45 #[SB.val ⟨text, recent, last, begun⟩, .agg #[.int .i64 1, .int .i64 a, .int .i64 bb, .int .u16 (size : Int), .int .i64 n, .int .u8 (sign.toNat : Int), .int .i32 char, .string ⟨ctext.toArray⟩, .slice ad cuts.length cap]] w (DoPost w (SB.write ⟨text, recent, last, begun⟩ ctext) ⟨ctext.length, [], 0, 0⟩ true) := by
  have hcHC : ∀ wx, Calls Tryz.prog 58 #[SB.val ⟨text, recent, last, begun⟩, .string ⟨(ctext).toArray⟩] wx fun e w' => e = .returned (SB.val (SB.write ⟨text, recent, last, begun⟩ (ctext))) ∧ Fr (fun _ => False) wx w' := fun wx => sp_write text recent last begun ctext wx (by omega)
  obtain ⟨rt, rr, rl, rb, hresHC⟩ : ∃ rt rr rl rb, (SB.write ⟨text, recent, last, begun⟩ (ctext)) = SB.mk rt rr rl rb := ⟨_, _, _, _, rfl⟩
  rw [hresHC] at hcHC ⊢
  simp only [SB.val, SB.cells] at hcHC
  have HC := Lib.hid hcHC
  clear hresHC hcHC
  obtain ⟨w0, hw0, hX⟩ := box4_ex text recent last begun a bb size n sign char ctext cuts ad cap w (1)
  have HX := Lib.hid hX
  have HW0 := Lib.hid hw0
  obtain ⟨b0, b1, b2, b3, e0, e1, e2, e3, e4, e5, e6, e7, e8, r0, r1, r2, r3, t0, t1, t2, t3, rz, tz, _, hlt⟩ := hX
  have rz0 := rz 0; have rz1 := rz 1; have rz2 := rz 2; have rz3 := rz 3; have tz0 := tz 0; have tz1 := tz 1; have tz2 := tz 2; have tz3 := tz 3
  clear hw0 rz tz
  simp only [SB.val, SB.cells]
  go_enter Tryz.func45, Tryz.ntmps45
  go_wp2_with fail
  rw [← HW0.out]
  go_region_held3 (fun w' => w'.cell? ⟨w.heap.size, 0, none⟩ = some (.string ⟨text.toArray⟩) ∧ w'.cell? ⟨w.heap.size, 1, none⟩ = some (.int .i64 recent) ∧ w'.cell? ⟨w.heap.size, 2, none⟩ = some (.string ⟨last.toArray⟩) ∧ w'.cell? ⟨w.heap.size, 3, none⟩ = some (.bool begun) ∧ w'.cell? ⟨w.heap.size + 1, 7, none⟩ = some (.string ⟨ctext.toArray⟩)) (((repeat' apply And.intro) <;> (try simp only [World.cell?_drew]) <;> first | with_reducible assumption | with_reducible exact alloc_cell (by with_reducible assumption) | with_reducible exact far4 (by with_reducible assumption) (by dsimp only; omega) | with_reducible exact far4 (far4 (by with_reducible assumption) (by dsimp only; omega)) (by dsimp only; omega))) ((go_at_call 58; refine (HC.out _).mono ?_; rintro e w1 ⟨rfl, F1⟩; have HF1 : Hid (Fr (fun _ => False) w0 w1) := Lib.hid (Fr.trans (by (repeat (with_reducible first | exact Fr.refl _ _ | exact HF1.out | refine Fr.drew ?_ | refine Fr.alloc ?_ _ | refine Fr.drewN ?_ _))) F1); clear F1; have b0x := keep1 HF1.out b0; have b1x := keep1 HF1.out b1; have b2x := keep1 HF1.out b2; have b3x := keep1 HF1.out b3; have e7x := keep1 HF1.out e7; obtain ⟨r0x, r1x, r2x, r3x, t0x, t1x, t2x, t3x, rz0x, rz1x, rz2x, rz3x, tz0x, tz1x, tz2x, tz3x⟩ := kept_rt HF1.out r0 r1 r2 r3 t0 t1 t2 t3 rz0 rz1 rz2 rz3 tz0 tz1 tz2 tz3))
  go_wp2_with fail
  obtain ⟨w8, hw8, hF8, q0, q1, q2, q3, q4, q5, q6, q7⟩ := two_end (w1 := w1) (x := w.heap.size + 1 + 1) (y := w.heap.size + 1 + 1 + 1) (by first | exact HX.out.fr.trans HF2.out | exact HX.out.fr.trans HF1.out | exact HX.out.b4.fr.trans HF1.out | exact HX.out.fr | exact HX.out.b4.fr) (by omega) (by omega) (by omega) r0x r1x r2x r3x t0x t1x t2x t3x (.string ⟨rt.toArray⟩) (.int .i64 rr) (.string ⟨rl.toArray⟩) (.bool rb) (.int .i64 (ctext.length : Int)) (.string ⟨#[]⟩) (.int .i32 0) (.int .i64 0)
  have HF8 := Lib.hid hF8
  rw [← hw8]
  refine bodyPost_ret (v := .tuple #[SB.val ⟨rt, rr, rl, rb⟩, Td.val ⟨ctext.length, [], 0, 0⟩, .bool true]) (by simp [results, Tryz.results45, go_sem, SB.val, SB.cells, Td.val, Td.cells, q0, q1, q2, q3, q4, q5, q6, q7]) rfl ?_
  exact ⟨rfl, HF8.out⟩
set_option maxHeartbeats 1600000 in
set_option maxRecDepth 100000 in
theorem spd_2 (w : World) (hl : text.length + ctext.length + 8 ≤ 1099511627776) :
    Calls Tryz.prog 45 #[SB.val ⟨text, recent, last, begun⟩, .agg #[.int .i64 2, .int .i64 a, .int .i64 bb, .int .u16 (size : Int), .int .i64 n, .int .u8 (sign.toNat : Int), .int .i32 char, .string ⟨ctext.toArray⟩, .slice ad cuts.length cap]] w (DoPost w (SB.write ⟨text, recent, last, begun⟩ ctext) ⟨ctext.length, [], 0, 0⟩ true) := by
  have hcHC : ∀ wx, Calls Tryz.prog 58 #[SB.val ⟨text, recent, last, begun⟩, .string ⟨(ctext).toArray⟩] wx fun e w' => e = .returned (SB.val (SB.write ⟨text, recent, last, begun⟩ (ctext))) ∧ Fr (fun _ => False) wx w' := fun wx => sp_write text recent last begun ctext wx (by omega)
  obtain ⟨rt, rr, rl, rb, hresHC⟩ : ∃ rt rr rl rb, (SB.write ⟨text, recent, last, begun⟩ (ctext)) = SB.mk rt rr rl rb := ⟨_, _, _, _, rfl⟩
  rw [hresHC] at hcHC ⊢
  simp only [SB.val, SB.cells] at hcHC
  have HC := Lib.hid hcHC
  clear hresHC hcHC
  obtain ⟨w0, hw0, hX⟩ := box4_ex text recent last begun a bb size n sign char ctext cuts ad cap w (2)
  have HX := Lib.hid hX
  have HW0 := Lib.hid hw0
  obtain ⟨b0, b1, b2, b3, e0, e1, e2, e3, e4, e5, e6, e7, e8, r0, r1, r2, r3, t0, t1, t2, t3, rz, tz, _, hlt⟩ := hX
  have rz0 := rz 0; have rz1 := rz 1; have rz2 := rz 2; have rz3 := rz 3; have tz0 := tz 0; have tz1 := tz 1; have tz2 := tz 2; have tz3 := tz 3
  clear hw0 rz tz
  simp only [SB.val, SB.cells]
  go_enter Tryz.func45, Tryz.ntmps45
  go_wp2_with fail
  rw [← HW0.out]
  go_region_held3 (fun w' => w'.cell? ⟨w.heap.size, 0, none⟩ = some (.string ⟨text.toArray⟩) ∧ w'.cell? ⟨w.heap.size, 1, none⟩ = some (.int .i64 recent) ∧ w'.cell? ⟨w.heap.size, 2, none⟩ = some (.string ⟨last.toArray⟩) ∧ w'.cell? ⟨w.heap.size, 3, none⟩ = some (.bool begun) ∧ w'.cell? ⟨w.heap.size + 1, 7, none⟩ = some (.string ⟨ctext.toArray⟩)) (((repeat' apply And.intro) <;> (try simp only [World.cell?_drew]) <;> first | with_reducible assumption | with_reducible exact alloc_cell (by with_reducible assumption) | with_reducible exact far4 (by with_reducible assumption) (by dsimp only; omega) | with_reducible exact far4 (far4 (by with_reducible assumption) (by dsimp only; omega)) (by dsimp only; omega))) ((go_at_call 58; refine (HC.out _).mono ?_; rintro e w1 ⟨rfl, F1⟩; have HF1 : Hid (Fr (fun _ => False) w0 w1) := Lib.hid (Fr.trans (by (repeat (with_reducible first | exact Fr.refl _ _ | exact HF1.out | refine Fr.drew ?_ | refine Fr.alloc ?_ _ | refine Fr.drewN ?_ _))) F1); clear F1; have b0x := keep1 HF1.out b0; have b1x := keep1 HF1.out b1; have b2x := keep1 HF1.out b2; have b3x := keep1 HF1.out b3; have e7x := keep1 HF1.out e7; obtain ⟨r0x, r1x, r2x, r3x, t0x, t1x, t2x, t3x, rz0x, rz1x, rz2x, rz3x, tz0x, tz1x, tz2x, tz3x⟩ := kept_rt HF1.out r0 r1 r2 r3 t0 t1 t2 t3 rz0 rz1 rz2 rz3 tz0 tz1 tz2 tz3))
  go_wp2_with fail
  obtain ⟨w8, hw8, hF8, q0, q1, q2, q3, q4, q5, q6, q7⟩ := two_end (w1 := w1) (x := w.heap.size + 1 + 1) (y := w.heap.size + 1 + 1 + 1) (by first | exact HX.out.fr.trans HF2.out | exact HX.out.fr.trans HF1.out | exact HX.out.b4.fr.trans HF1.out | exact HX.out.fr | exact HX.out.b4.fr) (by omega) (by omega) (by omega) r0x r1x r2x r3x t0x t1x t2x t3x (.string ⟨rt.toArray⟩) (.int .i64 rr) (.string ⟨rl.toArray⟩) (.bool rb) (.int .i64 (ctext.length : Int)) (.string ⟨#[]⟩) (.int .i32 0) (.int .i64 0)
  have HF8 := Lib.hid hF8
  rw [← hw8]
  refine bodyPost_ret (v := .tuple #[SB.val ⟨rt, rr, rl, rb⟩, Td.val ⟨ctext.length, [], 0, 0⟩, .bool true]) (by simp [results, Tryz.results45, go_sem, SB.val, SB.cells, Td.val, Td.cells, q0, q1, q2, q3, q4, q5, q6, q7]) rfl ?_
  exact ⟨rfl, HF8.out⟩
set_option maxHeartbeats 1600000 in
set_option maxRecDepth 100000 in
theorem spd_5 (w : World) (hl : text.length + ctext.length + 8 ≤ 1099511627776) :
    Calls Tryz.prog 45 #[SB.val ⟨text, recent, last, begun⟩, .agg #[.int .i64 5, .int .i64 a, .int .i64 bb, .int .u16 (size : Int), .int .i64 n, .int .u8 (sign.toNat : Int), .int .i32 char, .string ⟨ctext.toArray⟩, .slice ad cuts.length cap]] w (DoPost w (SB.write ⟨text, recent, last, begun⟩ ctext) ⟨ctext.length, [], 0, 0⟩ true) := by
  have hcHC : ∀ wx, Calls Tryz.prog 58 #[SB.val ⟨text, recent, last, begun⟩, .string ⟨(ctext).toArray⟩] wx fun e w' => e = .returned (SB.val (SB.write ⟨text, recent, last, begun⟩ (ctext))) ∧ Fr (fun _ => False) wx w' := fun wx => sp_write text recent last begun ctext wx (by omega)
  obtain ⟨rt, rr, rl, rb, hresHC⟩ : ∃ rt rr rl rb, (SB.write ⟨text, recent, last, begun⟩ (ctext)) = SB.mk rt rr rl rb := ⟨_, _, _, _, rfl⟩
  rw [hresHC] at hcHC ⊢
  simp only [SB.val, SB.cells] at hcHC
  have HC := Lib.hid hcHC
  clear hresHC hcHC
  obtain ⟨w0, hw0, hX⟩ := box4_ex text recent last begun a bb size n sign char ctext cuts ad cap w (5)
  have HX := Lib.hid hX
  have HW0 := Lib.hid hw0
  obtain ⟨b0, b1, b2, b3, e0, e1, e2, e3, e4, e5, e6, e7, e8, r0, r1, r2, r3, t0, t1, t2, t3, rz, tz, _, hlt⟩ := hX
  have rz0 := rz 0; have rz1 := rz 1; have rz2 := rz 2; have rz3 := rz 3; have tz0 := tz 0; have tz1 := tz 1; have tz2 := tz 2; have tz3 := tz 3
  clear hw0 rz tz
  simp only [SB.val, SB.cells]
  go_enter Tryz.func45, Tryz.ntmps45
  go_wp2_with fail
  rw [← HW0.out]
  go_region_held3 (fun w' => w'.cell? ⟨w.heap.size, 0, none⟩ = some (.string ⟨text.toArray⟩) ∧ w'.cell? ⟨w.heap.size, 1, none⟩ = some (.int .i64 recent) ∧ w'.cell? ⟨w.heap.size, 2, none⟩ = some (.string ⟨last.toArray⟩) ∧ w'.cell? ⟨w.heap.size, 3, none⟩ = some (.bool begun) ∧ w'.cell? ⟨w.heap.size + 1, 7, none⟩ = some (.string ⟨ctext.toArray⟩)) (((repeat' apply And.intro) <;> (try simp only [World.cell?_drew]) <;> first | with_reducible assumption | with_reducible exact alloc_cell (by with_reducible assumption) | with_reducible exact far4 (by with_reducible assumption) (by dsimp only; omega) | with_reducible exact far4 (far4 (by with_reducible assumption) (by dsimp only; omega)) (by dsimp only; omega))) ((go_at_call 58; refine (HC.out _).mono ?_; rintro e w1 ⟨rfl, F1⟩; have HF1 : Hid (Fr (fun _ => False) w0 w1) := Lib.hid (Fr.trans (by (repeat (with_reducible first | exact Fr.refl _ _ | exact HF1.out | refine Fr.drew ?_ | refine Fr.alloc ?_ _ | refine Fr.drewN ?_ _))) F1); clear F1; have b0x := keep1 HF1.out b0; have b1x := keep1 HF1.out b1; have b2x := keep1 HF1.out b2; have b3x := keep1 HF1.out b3; have e7x := keep1 HF1.out e7; obtain ⟨r0x, r1x, r2x, r3x, t0x, t1x, t2x, t3x, rz0x, rz1x, rz2x, rz3x, tz0x, tz1x, tz2x, tz3x⟩ := kept_rt HF1.out r0 r1 r2 r3 t0 t1 t2 t3 rz0 rz1 rz2 rz3 tz0 tz1 tz2 tz3))
  go_wp2_with fail
  obtain ⟨w8, hw8, hF8, q0, q1, q2, q3, q4, q5, q6, q7⟩ := two_end (w1 := w1) (x := w.heap.size + 1 + 1) (y := w.heap.size + 1 + 1 + 1) (by first | exact HX.out.fr.trans HF2.out | exact HX.out.fr.trans HF1.out | exact HX.out.b4.fr.trans HF1.out | exact HX.out.fr | exact HX.out.b4.fr) (by omega) (by omega) (by omega) r0x r1x r2x r3x t0x t1x t2x t3x (.string ⟨rt.toArray⟩) (.int .i64 rr) (.string ⟨rl.toArray⟩) (.bool rb) (.int .i64 (ctext.length : Int)) (.string ⟨#[]⟩) (.int .i32 0) (.int .i64 0)
  have HF8 := Lib.hid hF8
  rw [← hw8]
  refine bodyPost_ret (v := .tuple #[SB.val ⟨rt, rr, rl, rb⟩, Td.val ⟨ctext.length, [], 0, 0⟩, .bool true]) (by simp [results, Tryz.results45, go_sem, SB.val, SB.cells, Td.val, Td.cells, q0, q1, q2, q3, q4, q5, q6, q7]) rfl ?_
  exact ⟨rfl, HF8.out⟩
set_option maxHeartbeats 1600000 in
set_option maxRecDepth 100000 in
theorem spd_3 (w : World) (hl : text.length + ctext.length + 8 ≤ 1099511627776) :
    Calls Tryz.prog 45 #[SB.val ⟨text, recent, last, begun⟩, .agg #[.int .i64 3, .int .i64 a, .int .i64 bb, .int .u16 (size : Int), .int .i64 n, .int .u8 (sign.toNat : Int), .int .i32 char, .string ⟨ctext.toArray⟩, .slice ad cuts.length cap]] w (DoPost w (SB.write ⟨text, recent, last, begun⟩ [sign]) ⟨0, [], 0, 0⟩ true) := by
  have hcHC : ∀ wx, Calls Tryz.prog 58 #[SB.val ⟨text, recent, last, begun⟩, .string ⟨([sign]).toArray⟩] wx fun e w' => e = .returned (SB.val (SB.write ⟨text, recent, last, begun⟩ ([sign]))) ∧ Fr (fun _ => False) wx w' := fun wx => sp_write text recent last begun [sign] wx (by simp; omega)
  obtain ⟨rt, rr, rl, rb, hresHC⟩ : ∃ rt rr rl rb, (SB.write ⟨text, recent, last, begun⟩ ([sign])) = SB.mk rt rr rl rb := ⟨_, _, _, _, rfl⟩
  rw [hresHC] at hcHC ⊢
  simp only [SB.val, SB.cells] at hcHC
  have HC := Lib.hid hcHC
  clear hresHC hcHC
  obtain ⟨w0, hw0, hX⟩ := box4_ex text recent last begun a bb size n sign char ctext cuts ad cap w (3)
  have HX := Lib.hid hX
  have HW0 := Lib.hid hw0
  have hcv := conv_sign w0 sign
  rw [hw0] at hcv
  simp only [World.size_alloc] at hcv
  obtain ⟨b0, b1, b2, b3, e0, e1, e2, e3, e4, e5, e6, e7, e8, r0, r1, r2, r3, t0, t1, t2, t3, rz, tz, _, hlt⟩ := hX
  have rz0 := rz 0; have rz1 := rz 1; have rz2 := rz 2; have rz3 := rz 3; have tz0 := tz 0; have tz1 := tz 1; have tz2 := tz 2; have tz3 := tz 3
  clear hw0 rz tz
  simp only [SB.val, SB.cells]
  go_enter Tryz.func45, Tryz.ntmps45
  go_wp2_with fail
  rw [← HW0.out]
  refine (HC.out _).mono ?_
  rintro e w1 ⟨rfl, F1⟩
  have HF1 : Hid (Fr (fun _ => False) w0 w1) := Lib.hid (Fr.trans (by (repeat (with_reducible first | exact Fr.refl _ _ | exact HF1.out | refine Fr.drew ?_ | refine Fr.alloc ?_ _ | refine Fr.drewN ?_ _))) F1)
  clear F1
  obtain ⟨r0x, r1x, r2x, r3x, t0x, t1x, t2x, t3x, rz0x, rz1x, rz2x, rz3x, tz0x, tz1x, tz2x, tz3x⟩ := kept_rt HF1.out r0 r1 r2 r3 t0 t1 t2 t3 rz0 rz1 rz2 rz3 tz0 tz1 tz2 tz3
  go_wp2_with fail
  obtain ⟨w8, hw8, hF8, q0, q1, q2, q3, q4, q5, q6, q7⟩ := two_end (w1 := w1) (x := w.heap.size + 1 + 1) (y := w.heap.size + 1 + 1 + 1) (by first | exact HX.out.fr.trans HF2.out | exact HX.out.fr.trans HF1.out | exact HX.out.b4.fr.trans HF1.out | exact HX.out.fr | exact HX.out.b4.fr) (by omega) (by omega) (by omega) r0x r1x r2x r3x t0x t1x t2x t3x (.string ⟨rt.toArray⟩) (.int .i64 rr) (.string ⟨rl.toArray⟩) (.bool rb) (.int .i64 0) (.string ⟨#[]⟩) (.int .i32 0) (.int .i64 0)
  have HF8 := Lib.hid hF8
  rw [← hw8]
  refine bodyPost_ret (v := .tuple #[SB.val ⟨rt, rr, rl, rb⟩, Td.val ⟨0, [], 0, 0⟩, .bool true]) (by simp [results, Tryz.results45, go_sem, SB.val, SB.cells, Td.val, Td.cells, q0, q1, q2, q3, q4, q5, q6, q7]) rfl ?_
  exact ⟨rfl, HF8.out⟩
set_option maxHeartbeats 1600000 in
set_option maxRecDepth 100000 in
theorem spd_4 (w : World) (hl : text.length + ctext.length + 8 ≤ 1099511627776) :
    Calls Tryz.prog 45 #[SB.val ⟨text, recent, last, begun⟩, .agg #[.int .i64 4, .int .i64 a, .int .i64 bb, .int .u16 (size : Int), .int .i64 n, .int .u8 (sign.toNat : Int), .int .i32 char, .string ⟨ctext.toArray⟩, .slice ad cuts.length cap]] w (DoPost w (SB.write ⟨text, recent, last, begun⟩ (enc char)) ⟨(enc char).length, [], 0, 0⟩ (decide (enc char ≠ []))) := by
  have hcHC : ∀ wx, Calls Tryz.prog 58 #[SB.val ⟨text, recent, last, begun⟩, .string ⟨(enc char).toArray⟩] wx fun e w' => e = .returned (SB.val (SB.write ⟨text, recent, last, begun⟩ (enc char))) ∧ Fr (fun _ => False) wx w' := fun wx => sp_write text recent last begun (enc char) wx (by have := enc_len char; omega)
  obtain ⟨rt, rr, rl, rb, hresHC⟩ : ∃ rt rr rl rb, (SB.write ⟨text, recent, last, begun⟩ (enc char)) = SB.mk rt rr rl rb := ⟨_, _, _, _, rfl⟩
  rw [hresHC] at hcHC ⊢
  simp only [SB.val, SB.cells] at hcHC
  have HC := Lib.hid hcHC
  clear hresHC hcHC
  obtain ⟨el, hen⟩ : ∃ el, el = enc char := ⟨_, rfl⟩
  rw [← hen] at HC ⊢
  have HEN := Lib.hid hen
  have hie : el.isEmpty = decide (el = []) := by cases el <;> simp
  have hel : el.length ≤ 4 := by rw [hen]; exact enc_len char
  obtain ⟨ob, hob⟩ : ∃ ob, ob = decide (el ≠ []) := ⟨_, rfl⟩
  have hok : (!el.isEmpty) = ob := by rw [hob, hie]; simp
  rw [← hob]
  clear hen hel hie hob
  obtain ⟨w0, hw0, hX⟩ := box4_ex text recent last begun a bb size n sign char ctext cuts ad cap w (4)
  have HX := Lib.hid hX
  have HW0 := Lib.hid hw0
  obtain ⟨b0, b1, b2, b3, e0, e1, e2, e3, e4, e5, e6, e7, e8, r0, r1, r2, r3, t0, t1, t2, t3, rz, tz, _, hlt⟩ := hX
  have rz0 := rz 0; have rz1 := rz 1; have rz2 := rz 2; have rz3 := rz 3; have tz0 := tz 0; have tz1 := tz 1; have tz2 := tz 2; have tz3 := tz 3
  clear hw0 rz tz
  simp only [SB.val, SB.cells]
  go_enter Tryz.func45, Tryz.ntmps45
  go_wp2_with fail
  rw [← HW0.out]
  refine (encode_any char _).mono ?_
  rintro e w1 ⟨rfl, F1⟩
  have HF1 : Hid (Fr (fun _ => False) w0 w1) := Lib.hid (Fr.trans (by (repeat (with_reducible first | exact Fr.refl _ _ | exact HF1.out | refine Fr.drew ?_ | refine Fr.alloc ?_ _ | refine Fr.drewN ?_ _))) F1)
  clear F1
  have b0x := keep1 HF1.out b0
  have b1x := keep1 HF1.out b1
  have b2x := keep1 HF1.out b2
  have b3x := keep1 HF1.out b3
  obtain ⟨r0x, r1x, r2x, r3x, t0x, t1x, t2x, t3x, rz0x, rz1x, rz2x, rz3x, tz0x, tz1x, tz2x, tz3x⟩ := kept_rt HF1.out r0 r1 r2 r3 t0 t1 t2 t3 rz0 rz1 rz2 rz3 tz0 tz1 tz2 tz3
  rw [← HEN.out]
  go_wp2_with fail
  refine (HC.out _).mono ?_
  rintro e w2 ⟨rfl, F1⟩
  have HF2 : Hid (Fr (fun _ => False) w0 w2) := Lib.hid (Fr.trans (by (repeat (with_reducible first | exact Fr.refl _ _ | exact HF1.out | refine Fr.drew ?_ | refine Fr.alloc ?_ _ | refine Fr.drewN ?_ _))) F1)
  clear F1
  obtain ⟨r0y, r1y, r2y, r3y, t0y, t1y, t2y, t3y, rz0y, rz1y, rz2y, rz3y, tz0y, tz1y, tz2y, tz3y⟩ := kept_rt HF2.out r0 r1 r2 r3 t0 t1 t2 t3 rz0 rz1 rz2 rz3 tz0 tz1 tz2 tz3
  go_wp2_with fail
  obtain ⟨w8, hw8, hF8, q0, q1, q2, q3, q4, q5, q6, q7⟩ := two_end (w1 := w2) (x := w.heap.size + 1 + 1) (y := w.heap.size + 1 + 1 + 1) (by first | exact HX.out.fr.trans HF2.out | exact HX.out.fr.trans HF1.out | exact HX.out.b4.fr.trans HF1.out | exact HX.out.fr | exact HX.out.b4.fr) (by omega) (by omega) (by omega) r0y r1y r2y r3y t0y t1y t2y t3y (.string ⟨rt.toArray⟩) (.int .i64 rr) (.string ⟨rl.toArray⟩) (.bool rb) (.int .i64 (el.length : Int)) (.string ⟨#[]⟩) (.int .i32 0) (.int .i64 0)
  have HF8 := Lib.hid hF8
  rw [← hw8]
  refine bodyPost_ret (v := .tuple #[SB.val ⟨rt, rr, rl, rb⟩, Td.val ⟨el.length, [], 0, 0⟩, .bool ob]) (by simp [results, Tryz.results45, go_sem, SB.val, SB.cells, Td.val, Td.cells, q0, q1, q2, q3, q4, q5, q6, q7]) rfl ?_
  exact ⟨rfl, HF8.out⟩
set_option maxHeartbeats 1600000 in
set_option maxRecDepth 100000 in
theorem spd_12 (w : World) (R : SB) (T : Td) (O : Bool) (hc0 : ∀ wx, Calls Tryz.prog 59 #[SB.val ⟨text, recent, last, begun⟩, .agg #[.int .i64 12, .int .i64 a, .int .i64 bb, .int .u16 (size : Int), .int .i64 n, .int .u8 (sign.toNat : Int), .int .i32 char, .string ⟨ctext.toArray⟩, .slice ad cuts.length cap]] wx (DoPost wx R T O)) :
    Calls Tryz.prog 45 #[SB.val ⟨text, recent, last, begun⟩, .agg #[.int .i64 12, .int .i64 a, .int .i64 bb, .int .u16 (size : Int), .int .i64 n, .int .u8 (sign.toNat : Int), .int .i32 char, .string ⟨ctext.toArray⟩, .slice ad cuts.length cap]] w (DoPost w R T O) := by
  have hc : ∀ wx, Calls Tryz.prog 59 #[SB.val ⟨text, recent, last, begun⟩, .agg #[.int .i64 12, .int .i64 a, .int .i64 bb, .int .u16 (size : Int), .int .i64 n, .int .u8 (sign.toNat : Int), .int .i32 char, .string ⟨ctext.toArray⟩, .slice ad cuts.length cap]] wx (DoPost wx R T O) := fun wx => hc0 wx
  obtain ⟨rt, rr, rl, rb⟩ := R
  obtain ⟨tn, tt, tc, ts⟩ := T
  unfold DoPost at hc
  simp only [SB.val, SB.cells, Td.val, Td.cells] at hc
  have HC := Lib.hid hc
  clear hc
  clear hc0
  obtain ⟨w0, hw0, hX⟩ := box4_ex text recent last begun a bb size n sign char ctext cuts ad cap w (12)
  have HX := Lib.hid hX
  have HW0 := Lib.hid hw0
  obtain ⟨b0, b1, b2, b3, e0, e1, e2, e3, e4, e5, e6, e7, e8, r0, r1, r2, r3, t0, t1, t2, t3, rz, tz, _, hlt⟩ := hX
  have rz0 := rz 0; have rz1 := rz 1; have rz2 := rz 2; have rz3 := rz 3; have tz0 := tz 0; have tz1 := tz 1; have tz2 := tz 2; have tz3 := tz 3
  clear hw0 rz tz
  simp only [SB.val, SB.cells]
  go_enter Tryz.func45, Tryz.ntmps45
  go_wp2_with fail
  rw [← HW0.out]
  refine (HC.out _).mono ?_
  rintro e w1 ⟨rfl, F1⟩
  have HF1 : Hid (Fr (fun _ => False) w0 w1) := Lib.hid (Fr.trans (by (repeat (with_reducible first | exact Fr.refl _ _ | exact HF1.out | refine Fr.drew ?_ | refine Fr.alloc ?_ _ | refine Fr.drewN ?_ _))) F1)
  clear F1
  obtain ⟨r0x, r1x, r2x, r3x, t0x, t1x, t2x, t3x, rz0x, rz1x, rz2x, rz3x, tz0x, tz1x, tz2x, tz3x⟩ := kept_rt HF1.out r0 r1 r2 r3 t0 t1 t2 t3 rz0 rz1 rz2 rz3 tz0 tz1 tz2 tz3
  go_wp2_with fail
  obtain ⟨w8, hw8, hF8, q0, q1, q2, q3, q4, q5, q6, q7⟩ := two_end (w1 := w1) (x := w.heap.size + 1 + 1) (y := w.heap.size + 1 + 1 + 1) (by first | exact HX.out.fr.trans HF2.out | exact HX.out.fr.trans HF1.out | exact HX.out.b4.fr.trans HF1.out | exact HX.out.fr | exact HX.out.b4.fr) (by omega) (by omega) (by omega) r0x r1x r2x r3x t0x t1x t2x t3x (.string ⟨rt.toArray⟩) (.int .i64 rr) (.string ⟨rl.toArray⟩) (.bool rb) (.int .i64 tn) (.string ⟨tt.toArray⟩) (.int .i32 tc) (.int .i64 ts)
  have HF8 := Lib.hid hF8
  rw [← hw8]
  refine bodyPost_ret (v := .tuple #[SB.val ⟨rt, rr, rl, rb⟩, Td.val ⟨tn, tt, tc, ts⟩, .bool O]) (by simp [results, Tryz.results45, go_sem, SB.val, SB.cells, Td.val, Td.cells, q0, q1, q2, q3, q4, q5, q6, q7]) rfl ?_
  exact ⟨rfl, HF8.out⟩
set_option maxHeartbeats 1600000 in
set_option maxRecDepth 100000 in
theorem spd_13 (w : World) (R : SB) (T : Td) (O : Bool) (hc0 : ∀ wx, Calls Tryz.prog 59 #[SB.val ⟨text, recent, last, begun⟩, .agg #[.int .i64 13, .int .i64 a, .int .i64 bb, .int .u16 (size : Int), .int .i64 n, .int .u8 (sign.toNat : Int), .int .i32 char, .string ⟨ctext.toArray⟩, .slice ad cuts.length cap]] wx (DoPost wx R T O)) :
    Calls Tryz.prog 45 #[SB.val ⟨text, recent, last, begun⟩, .agg #[.int .i64 13, .int .i64 a, .int .i64 bb, .int .u16 (size : Int), .int .i64 n, .int .u8 (sign.toNat : Int), .int .i32 char, .string ⟨ctext.toArray⟩, .slice ad cuts.length cap]] w (DoPost w R T O) := by
  have hc : ∀ wx, Calls Tryz.prog 59 #[SB.val ⟨text, recent, last, begun⟩, .agg #[.int .i64 13, .int .i64 a, .int .i64 bb, .int .u16 (size : Int), .int .i64 n, .int .u8 (sign.toNat : Int), .int .i32 char, .string ⟨ctext.toArray⟩, .slice ad cuts.length cap]] wx (DoPost wx R T O) := fun wx => hc0 wx
  obtain ⟨rt, rr, rl, rb⟩ := R
  obtain ⟨tn, tt, tc, ts⟩ := T
  unfold DoPost at hc
  simp only [SB.val, SB.cells, Td.val, Td.cells] at hc
  have HC := Lib.hid hc
  clear hc
  clear hc0
  obtain ⟨w0, hw0, hX⟩ := box4_ex text recent last begun a bb size n sign char ctext cuts ad cap w (13)
  have HX := Lib.hid hX
  have HW0 := Lib.hid hw0
  obtain ⟨b0, b1, b2, b3, e0, e1, e2, e3, e4, e5, e6, e7, e8, r0, r1, r2, r3, t0, t1, t2, t3, rz, tz, _, hlt⟩ := hX
  have rz0 := rz 0; have rz1 := rz 1; have rz2 := rz 2; have rz3 := rz 3; have tz0 := tz 0; have tz1 := tz 1; have tz2 := tz 2; have tz3 := tz 3
  clear hw0 rz tz
  simp only [SB.val, SB.cells]
  go_enter Tryz.func45, Tryz.ntmps45
  go_wp2_with fail
  rw [← HW0.out]
  refine (HC.out _).mono ?_
  rintro e w1 ⟨rfl, F1⟩
  have HF1 : Hid (Fr (fun _ => False) w0 w1) := Lib.hid (Fr.trans (by (repeat (with_reducible first | exact Fr.refl _ _ | exact HF1.out | refine Fr.drew ?_ | refine Fr.alloc ?_ _ | refine Fr.drewN ?_ _))) F1)
  clear F1
  obtain ⟨r0x, r1x, r2x, r3x, t0x, t1x, t2x, t3x, rz0x, rz1x, rz2x, rz3x, tz0x, tz1x, tz2x, tz3x⟩ := kept_rt HF1.out r0 r1 r2 r3 t0 t1 t2 t3 rz0 rz1 rz2 rz3 tz0 tz1 tz2 tz3
  go_wp2_with fail
  obtain ⟨w8, hw8, hF8, q0, q1, q2, q3, q4, q5, q6, q7⟩ := two_end (w1 := w1) (x := w.heap.size + 1 + 1) (y := w.heap.size + 1 + 1 + 1) (by first | exact HX.out.fr.trans HF2.out | exact HX.out.fr.trans HF1.out | exact HX.out.b4.fr.trans HF1.out | exact HX.out.fr | exact HX.out.b4.fr) (by omega) (by omega) (by omega) r0x r1x r2x r3x t0x t1x t2x t3x (.string ⟨rt.toArray⟩) (.int .i64 rr) (.string ⟨rl.toArray⟩) (.bool rb) (.int .i64 tn) (.string ⟨tt.toArray⟩) (.int .i32 tc) (.int .i64 ts)
  have HF8 := Lib.hid hF8
  rw [← hw8]
  refine bodyPost_ret (v := .tuple #[SB.val ⟨rt, rr, rl, rb⟩, Td.val ⟨tn, tt, tc, ts⟩, .bool O]) (by simp [results, Tryz.results45, go_sem, SB.val, SB.cells, Td.val, Td.cells, q0, q1, q2, q3, q4, q5, q6, q7]) rfl ?_
  exact ⟨rfl, HF8.out⟩
set_option maxHeartbeats 1600000 in
set_option maxRecDepth 100000 in
theorem spd_14 (w : World) (R : SB) (T : Td) (O : Bool) (hc0 : ∀ wx, Calls Tryz.prog 60 #[SB.val ⟨text, recent, last, begun⟩, .agg #[.int .i64 14, .int .i64 a, .int .i64 bb, .int .u16 (size : Int), .int .i64 n, .int .u8 (sign.toNat : Int), .int .i32 char, .string ⟨ctext.toArray⟩, .slice ad cuts.length cap]] wx (DoPost wx R T O)) :
    Calls Tryz.prog 45 #[SB.val ⟨text, recent, last, begun⟩, .agg #[.int .i64 14, .int .i64 a, .int .i64 bb, .int .u16 (size : Int), .int .i64 n, .int .u8 (sign.toNat : Int), .int .i32 char, .string ⟨ctext.toArray⟩, .slice ad cuts.length cap]] w (DoPost w R T O) := by
  have hc : ∀ wx, Calls Tryz.prog 60 #[SB.val ⟨text, recent, last, begun⟩, .agg #[.int .i64 14, .int .i64 a, .int .i64 bb, .int .u16 (size : Int), .int .i64 n, .int .u8 (sign.toNat : Int), .int .i32 char, .string ⟨ctext.toArray⟩, .slice ad cuts.length cap]] wx (DoPost wx R T O) := fun wx => hc0 wx
  obtain ⟨rt, rr, rl, rb⟩ := R
  obtain ⟨tn, tt, tc, ts⟩ := T
  unfold DoPost at hc
  simp only [SB.val, SB.cells, Td.val, Td.cells] at hc
  have HC := Lib.hid hc
  clear hc
  clear hc0
  obtain ⟨w0, hw0, hX⟩ := box4_ex text recent last begun a bb size n sign char ctext cuts ad cap w (14)
  have HX := Lib.hid hX
  have HW0 := Lib.hid hw0
  obtain ⟨b0, b1, b2, b3, e0, e1, e2, e3, e4, e5, e6, e7, e8, r0, r1, r2, r3, t0, t1, t2, t3, rz, tz, _, hlt⟩ := hX
  have rz0 := rz 0; have rz1 := rz 1; have rz2 := rz 2; have rz3 := rz 3; have tz0 := tz 0; have tz1 := tz 1; have tz2 := tz 2; have tz3 := tz 3
  clear hw0 rz tz
  simp only [SB.val, SB.cells]
  go_enter Tryz.func45, Tryz.ntmps45
  go_wp2_with fail
  rw [← HW0.out]
  refine (HC.out _).mono ?_
  rintro e w1 ⟨rfl, F1⟩
  have HF1 : Hid (Fr (fun _ => False) w0 w1) := Lib.hid (Fr.trans (by (repeat (with_reducible first | exact Fr.refl _ _ | exact HF1.out | refine Fr.drew ?_ | refine Fr.alloc ?_ _ | refine Fr.drewN ?_ _))) F1)
  clear F1
  obtain ⟨r0x, r1x, r2x, r3x, t0x, t1x, t2x, t3x, rz0x, rz1x, rz2x, rz3x, tz0x, tz1x, tz2x, tz3x⟩ := kept_rt HF1.out r0 r1 r2 r3 t0 t1 t2 t3 rz0 rz1 rz2 rz3 tz0 tz1 tz2 tz3
  go_wp2_with fail
  obtain ⟨w8, hw8, hF8, q0, q1, q2, q3, q4, q5, q6, q7⟩ := two_end (w1 := w1) (x := w.heap.size + 1 + 1) (y := w.heap.size + 1 + 1 + 1) (by first | exact HX.out.fr.trans HF2.out | exact HX.out.fr.trans HF1.out | exact HX.out.b4.fr.trans HF1.out | exact HX.out.fr | exact HX.out.b4.fr) (by omega) (by omega) (by omega) r0x r1x r2x r3x t0x t1x t2x t3x (.string ⟨rt.toArray⟩) (.int .i64 rr) (.string ⟨rl.toArray⟩) (.bool rb) (.int .i64 tn) (.string ⟨tt.toArray⟩) (.int .i32 tc) (.int .i64 ts)
  have HF8 := Lib.hid hF8
  rw [← hw8]
  refine bodyPost_ret (v := .tuple #[SB.val ⟨rt, rr, rl, rb⟩, Td.val ⟨tn, tt, tc, ts⟩, .bool O]) (by simp [results, Tryz.results45, go_sem, SB.val, SB.cells, Td.val, Td.cells, q0, q1, q2, q3, q4, q5, q6, q7]) rfl ?_
  exact ⟨rfl, HF8.out⟩
set_option maxHeartbeats 1600000 in
set_option maxRecDepth 100000 in
theorem spd_21 (w : World) (R : SB) (T : Td) (O : Bool) (hc0 : ∀ wx, Calls Tryz.prog 60 #[SB.val ⟨text, recent, last, begun⟩, .agg #[.int .i64 21, .int .i64 a, .int .i64 bb, .int .u16 (size : Int), .int .i64 n, .int .u8 (sign.toNat : Int), .int .i32 char, .string ⟨ctext.toArray⟩, .slice ad cuts.length cap]] wx (DoPost wx R T O)) :
    Calls Tryz.prog 45 #[SB.val ⟨text, recent, last, begun⟩, .agg #[.int .i64 21, .int .i64 a, .int .i64 bb, .int .u16 (size : Int), .int .i64 n, .int .u8 (sign.toNat : Int), .int .i32 char, .string ⟨ctext.toArray⟩, .slice ad cuts.length cap]] w (DoPost w R T O) := by
  have hc : ∀ wx, Calls Tryz.prog 60 #[SB.val ⟨text, recent, last, begun⟩, .agg #[.int .i64 21, .int .i64 a, .int .i64 bb, .int .u16 (size : Int), .int .i64 n, .int .u8 (sign.toNat : Int), .int .i32 char, .string ⟨ctext.toArray⟩, .slice ad cuts.length cap]] wx (DoPost wx R T O) := fun wx => hc0 wx
  obtain ⟨rt, rr, rl, rb⟩ := R
  obtain ⟨tn, tt, tc, ts⟩ := T
  unfold DoPost at hc
  simp only [SB.val, SB.cells, Td.val, Td.cells] at hc
  have HC := Lib.hid hc
  clear hc
  clear hc0
  obtain ⟨w0, hw0, hX⟩ := box4_ex text recent last begun a bb size n sign char ctext cuts ad cap w (21)
  have HX := Lib.hid hX
  have HW0 := Lib.hid hw0
  obtain ⟨b0, b1, b2, b3, e0, e1, e2, e3, e4, e5, e6, e7, e8, r0, r1, r2, r3, t0, t1, t2, t3, rz, tz, _, hlt⟩ := hX
  have rz0 := rz 0; have rz1 := rz 1; have rz2 := rz 2; have rz3 := rz 3; have tz0 := tz 0; have tz1 := tz 1; have tz2 := tz 2; have tz3 := tz 3
  clear hw0 rz tz
  simp only [SB.val, SB.cells]
  go_enter Tryz.func45, Tryz.ntmps45
  go_wp2_with fail
  rw [← HW0.out]
  refine (HC.out _).mono ?_
  rintro e w1 ⟨rfl, F1⟩
  have HF1 : Hid (Fr (fun _ => False) w0 w1) := Lib.hid (Fr.trans (by (repeat (with_reducible first | exact Fr.refl _ _ | exact HF1.out | refine Fr.drew ?_ | refine Fr.alloc ?_ _ | refine Fr.drewN ?_ _))) F1)
  clear F1
  obtain ⟨r0x, r1x, r2x, r3x, t0x, t1x, t2x, t3x, rz0x, rz1x, rz2x, rz3x, tz0x, tz1x, tz2x, tz3x⟩ := kept_rt HF1.out r0 r1 r2 r3 t0 t1 t2 t3 rz0 rz1 rz2 rz3 tz0 tz1 tz2 tz3
  go_wp2_with fail
  obtain ⟨w8, hw8, hF8, q0, q1, q2, q3, q4, q5, q6, q7⟩ := two_end (w1 := w1) (x := w.heap.size + 1 + 1) (y := w.heap.size + 1 + 1 + 1) (by first | exact HX.out.fr.trans HF2.out | exact HX.out.fr.trans HF1.out | exact HX.out.b4.fr.trans HF1.out | exact HX.out.fr | exact HX.out.b4.fr) (by omega) (by omega) (by omega) r0x r1x r2x r3x t0x t1x t2x t3x (.string ⟨rt.toArray⟩) (.int .i64 rr) (.string ⟨rl.toArray⟩) (.bool rb) (.int .i64 tn) (.string ⟨tt.toArray⟩) (.int .i32 tc) (.int .i64 ts)
  have HF8 := Lib.hid hF8
  rw [← hw8]
  refine bodyPost_ret (v := .tuple #[SB.val ⟨rt, rr, rl, rb⟩, Td.val ⟨tn, tt, tc, ts⟩, .bool O]) (by simp [results, Tryz.results45, go_sem, SB.val, SB.cells, Td.val, Td.cells, q0, q1, q2, q3, q4, q5, q6, q7]) rfl ?_
  exact ⟨rfl, HF8.out⟩
set_option maxHeartbeats 1600000 in
set_option maxRecDepth 100000 in
theorem spd_22 (w : World) (R : SB) (T : Td) (O : Bool) (hc0 : ∀ wx, Calls Tryz.prog 60 #[SB.val ⟨text, recent, last, begun⟩, .agg #[.int .i64 22, .int .i64 a, .int .i64 bb, .int .u16 (size : Int), .int .i64 n, .int .u8 (sign.toNat : Int), .int .i32 char, .string ⟨ctext.toArray⟩, .slice ad cuts.length cap]] wx (DoPost wx R T O)) :
    Calls Tryz.prog 45 #[SB.val ⟨text, recent, last, begun⟩, .agg #[.int .i64 22, .int .i64 a, .int .i64 bb, .int .u16 (size : Int), .int .i64 n, .int .u8 (sign.toNat : Int), .int .i32 char, .string ⟨ctext.toArray⟩, .slice ad cuts.length cap]] w (DoPost w R T O) := by
  have hc : ∀ wx, Calls Tryz.prog 60 #[SB.val ⟨text, recent, last, begun⟩, .agg #[.int .i64 22, .int .i64 a, .int .i64 bb, .int .u16 (size : Int), .int .i64 n, .int .u8 (sign.toNat : Int), .int .i32 char, .string ⟨ctext.toArray⟩, .slice ad cuts.length cap]] wx (DoPost wx R T O) := fun wx => hc0 wx
  obtain ⟨rt, rr, rl, rb⟩ := R
  obtain ⟨tn, tt, tc, ts⟩ := T
  unfold DoPost at hc
  simp only [SB.val, SB.cells, Td.val, Td.cells] at hc
  have HC := Lib.hid hc
  clear hc
  clear hc0
  obtain ⟨w0, hw0, hX⟩ := box4_ex text recent last begun a bb size n sign char ctext cuts ad cap w (22)
  have HX := Lib.hid hX
  have HW0 := Lib.hid hw0
  obtain ⟨b0, b1, b2, b3, e0, e1, e2, e3, e4, e5, e6, e7, e8, r0, r1, r2, r3, t0, t1, t2, t3, rz, tz, _, hlt⟩ := hX
  have rz0 := rz 0; have rz1 := rz 1; have rz2 := rz 2; have rz3 := rz 3; have tz0 := tz 0; have tz1 := tz 1; have tz2 := tz 2; have tz3 := tz 3
  clear hw0 rz tz
  simp only [SB.val, SB.cells]
  go_enter Tryz.func45, Tryz.ntmps45
  go_wp2_with fail
  rw [← HW0.out]
  refine (HC.out _).mono ?_
  rintro e w1 ⟨rfl, F1⟩
  have HF1 : Hid (Fr (fun _ => False) w0 w1) := Lib.hid (Fr.trans (by (repeat (with_reducible first | exact Fr.refl _ _ | exact HF1.out | refine Fr.drew ?_ | refine Fr.alloc ?_ _ | refine Fr.drewN ?_ _))) F1)
  clear F1
  obtain ⟨r0x, r1x, r2x, r3x, t0x, t1x, t2x, t3x, rz0x, rz1x, rz2x, rz3x, tz0x, tz1x, tz2x, tz3x⟩ := kept_rt HF1.out r0 r1 r2 r3 t0 t1 t2 t3 rz0 rz1 rz2 rz3 tz0 tz1 tz2 tz3
  go_wp2_with fail
  obtain ⟨w8, hw8, hF8, q0, q1, q2, q3, q4, q5, q6, q7⟩ := two_end (w1 := w1) (x := w.heap.size + 1 + 1) (y := w.heap.size + 1 + 1 + 1) (by first | exact HX.out.fr.trans HF2.out | exact HX.out.fr.trans HF1.out | exact HX.out.b4.fr.trans HF1.out | exact HX.out.fr | exact HX.out.b4.fr) (by omega) (by omega) (by omega) r0x r1x r2x r3x t0x t1x t2x t3x (.string ⟨rt.toArray⟩) (.int .i64 rr) (.string ⟨rl.toArray⟩) (.bool rb) (.int .i64 tn) (.string ⟨tt.toArray⟩) (.int .i32 tc) (.int .i64 ts)
  have HF8 := Lib.hid hF8
  rw [← hw8]
  refine bodyPost_ret (v := .tuple #[SB.val ⟨rt, rr, rl, rb⟩, Td.val ⟨tn, tt, tc, ts⟩, .bool O]) (by simp [results, Tryz.results45, go_sem, SB.val, SB.cells, Td.val, Td.cells, q0, q1, q2, q3, q4, q5, q6, q7]) rfl ?_
  exact ⟨rfl, HF8.out⟩
set_option maxHeartbeats 1600000 in
set_option maxRecDepth 100000 in
theorem spd_6 (w : World) (R : SB) (T : Td) (O : Bool) (hc0 : ∀ wx, Calls Tryz.prog 61 #[SB.val ⟨text, recent, last, begun⟩, .agg #[.int .i64 6, .int .i64 a, .int .i64 bb, .int .u16 (size : Int), .int .i64 n, .int .u8 (sign.toNat : Int), .int .i32 char, .string ⟨ctext.toArray⟩, .slice ad cuts.length cap]] wx (DoPost wx R T O)) :
    Calls Tryz.prog 45 #[SB.val ⟨text, recent, last, begun⟩, .agg #[.int .i64 6, .int .i64 a, .int .i64 bb, .int .u16 (size : Int), .int .i64 n, .int .u8 (sign.toNat : Int), .int .i32 char, .string ⟨ctext.toArray⟩, .slice ad cuts.length cap]] w (DoPost w R T O) := by
  have hc : ∀ wx, Calls Tryz.prog 61 #[SB.val ⟨text, recent, last, begun⟩, .agg #[.int .i64 6, .int .i64 a, .int .i64 bb, .int .u16 (size : Int), .int .i64 n, .int .u8 (sign.toNat : Int), .int .i32 char, .string ⟨ctext.toArray⟩, .slice ad cuts.length cap]] wx (DoPost wx R T O) := fun wx => hc0 wx
  obtain ⟨rt, rr, rl, rb⟩ := R
  obtain ⟨tn, tt, tc, ts⟩ := T
  unfold DoPost at hc
  simp only [SB.val, SB.cells, Td.val, Td.cells] at hc
  have HC := Lib.hid hc
  clear hc
  clear hc0
  obtain ⟨w0, hw0, hX⟩ := box4_ex text recent last begun a bb size n sign char ctext cuts ad cap w (6)
  have HX := Lib.hid hX
  have HW0 := Lib.hid hw0
  obtain ⟨b0, b1, b2, b3, e0, e1, e2, e3, e4, e5, e6, e7, e8, r0, r1, r2, r3, t0, t1, t2, t3, rz, tz, _, hlt⟩ := hX
  have rz0 := rz 0; have rz1 := rz 1; have rz2 := rz 2; have rz3 := rz 3; have tz0 := tz 0; have tz1 := tz 1; have tz2 := tz 2; have tz3 := tz 3
  clear hw0 rz tz
  simp only [SB.val, SB.cells]
  go_enter Tryz.func45, Tryz.ntmps45
  go_wp2_with fail
  rw [← HW0.out]
  refine (HC.out _).mono ?_
  rintro e w1 ⟨rfl, F1⟩
  have HF1 : Hid (Fr (fun _ => False) w0 w1) := Lib.hid (Fr.trans (by (repeat (with_reducible first | exact Fr.refl _ _ | exact HF1.out | refine Fr.drew ?_ | refine Fr.alloc ?_ _ | refine Fr.drewN ?_ _))) F1)
  clear F1
  obtain ⟨r0x, r1x, r2x, r3x, t0x, t1x, t2x, t3x, rz0x, rz1x, rz2x, rz3x, tz0x, tz1x, tz2x, tz3x⟩ := kept_rt HF1.out r0 r1 r2 r3 t0 t1 t2 t3 rz0 rz1 rz2 rz3 tz0 tz1 tz2 tz3
  go_wp2_with fail
  obtain ⟨w8, hw8, hF8, q0, q1, q2, q3, q4, q5, q6, q7⟩ := two_end (w1 := w1) (x := w.heap.size + 1 + 1) (y := w.heap.size + 1 + 1 + 1) (by first | exact HX.out.fr.trans HF2.out | exact HX.out.fr.trans HF1.out | exact HX.out.b4.fr.trans HF1.out | exact HX.out.fr | exact HX.out.b4.fr) (by omega) (by omega) (by omega) r0x r1x r2x r3x t0x t1x t2x t3x (.string ⟨rt.toArray⟩) (.int .i64 rr) (.string ⟨rl.toArray⟩) (.bool rb) (.int .i64 tn) (.string ⟨tt.toArray⟩) (.int .i32 tc) (.int .i64 ts)
  have HF8 := Lib.hid hF8
  rw [← hw8]
  refine bodyPost_ret (v := .tuple #[SB.val ⟨rt, rr, rl, rb⟩, Td.val ⟨tn, tt, tc, ts⟩, .bool O]) (by simp [results, Tryz.results45, go_sem, SB.val, SB.cells, Td.val, Td.cells, q0, q1, q2, q3, q4, q5, q6, q7]) rfl ?_
  exact ⟨rfl, HF8.out⟩
set_option maxHeartbeats 1600000 in
set_option maxRecDepth 100000 in
theorem spd_7 (w : World) (R : SB) (T : Td) (O : Bool) (hc0 : ∀ wx, Calls Tryz.prog 61 #[SB.val ⟨text, recent, last, begun⟩, .agg #[.int .i64 7, .int .i64 a, .int .i64 bb, .int .u16 (size : Int), .int .i64 n, .int .u8 (sign.toNat : Int), .int .i32 char, .string ⟨ctext.toArray⟩, .slice ad cuts.length cap]] wx (DoPost wx R T O)) :
    Calls Tryz.prog 45 #[SB.val ⟨text, recent, last, begun⟩, .agg #[.int .i64 7, .int .i64 a, .int .i64 bb, .int .u16 (size : Int), .int .i64 n, .int .u8 (sign.toNat : Int), .int .i32 char, .string ⟨ctext.toArray⟩, .slice ad cuts.length cap]] w (DoPost w R T O) := by
  have hc : ∀ wx, Calls Tryz.prog 61 #[SB.val ⟨text, recent, last, begun⟩, .agg #[.int .i64 7, .int .i64 a, .int .i64 bb, .int .u16 (size : Int), .int .i64 n, .int .u8 (sign.toNat : Int), .int .i32 char, .string ⟨ctext.toArray⟩, .slice ad cuts.length cap]] wx (DoPost wx R T O) := fun wx => hc0 wx
  obtain ⟨rt, rr, rl, rb⟩ := R
  obtain ⟨tn, tt, tc, ts⟩ := T
  unfold DoPost at hc
  simp only [SB.val, SB.cells, Td.val, Td.cells] at hc
  have HC := Lib.hid hc
  clear hc
  clear hc0
  obtain ⟨w0, hw0, hX⟩ := box4_ex text recent last begun a bb size n sign char ctext cuts ad cap w (7)
  have HX := Lib.hid hX
  have HW0 := Lib.hid hw0
  obtain ⟨b0, b1, b2, b3, e0, e1, e2, e3, e4, e5, e6, e7, e8, r0, r1, r2, r3, t0, t1, t2, t3, rz, tz, _, hlt⟩ := hX
  have rz0 := rz 0; have rz1 := rz 1; have rz2 := rz 2; have rz3 := rz 3; have tz0 := tz 0; have tz1 := tz 1; have tz2 := tz 2; have tz3 := tz 3
  clear hw0 rz tz
  simp only [SB.val, SB.cells]
  go_enter Tryz.func45, Tryz.ntmps45
  go_wp2_with fail
  rw [← HW0.out]
  refine (HC.out _).mono ?_
  rintro e w1 ⟨rfl, F1⟩
  have HF1 : Hid (Fr (fun _ => False) w0 w1) := Lib.hid (Fr.trans (by (repeat (with_reducible first | exact Fr.refl _ _ | exact HF1.out | refine Fr.drew ?_ | refine Fr.alloc ?_ _ | refine Fr.drewN ?_ _))) F1)
  clear F1
  obtain ⟨r0x, r1x, r2x, r3x, t0x, t1x, t2x, t3x, rz0x, rz1x, rz2x, rz3x, tz0x, tz1x, tz2x, tz3x⟩ := kept_rt HF1.out r0 r1 r2 r3 t0 t1 t2 t3 rz0 rz1 rz2 rz3 tz0 tz1 tz2 tz3
  go_wp2_with fail
  obtain ⟨w8, hw8, hF8, q0, q1, q2, q3, q4, q5, q6, q7⟩ := two_end (w1 := w1) (x := w.heap.size + 1 + 1) (y := w.heap.size + 1 + 1 + 1) (by first | exact HX.out.fr.trans HF2.out | exact HX.out.fr.trans HF1.out | exact HX.out.b4.fr.trans HF1.out | exact HX.out.fr | exact HX.out.b4.fr) (by omega) (by omega) (by omega) r0x r1x r2x r3x t0x t1x t2x t3x (.string ⟨rt.toArray⟩) (.int .i64 rr) (.string ⟨rl.toArray⟩) (.bool rb) (.int .i64 tn) (.string ⟨tt.toArray⟩) (.int .i32 tc) (.int .i64 ts)
  have HF8 := Lib.hid hF8
  rw [← hw8]
  refine bodyPost_ret (v := .tuple #[SB.val ⟨rt, rr, rl, rb⟩, Td.val ⟨tn, tt, tc, ts⟩, .bool O]) (by simp [results, Tryz.results45, go_sem, SB.val, SB.cells, Td.val, Td.cells, q0, q1, q2, q3, q4, q5, q6, q7]) rfl ?_
  exact ⟨rfl, HF8.out⟩
set_option maxHeartbeats 1600000 in
set_option maxRecDepth 100000 in
theorem spd_8 (w : World) (R : SB) (T : Td) (O : Bool) (hc0 : ∀ wx, Calls Tryz.prog 61 #[SB.val ⟨text, recent, last, begun⟩, .agg #[.int .i64 8, .int .i64 a, .int .i64 bb, .int .u16 (size : Int), .int .i64 n, .int .u8 (sign.toNat : Int), .int .i32 char, .string ⟨ctext.toArray⟩, .slice ad cuts.length cap]] wx (DoPost wx R T O)) :
    Calls Tryz.prog 45 #[SB.val ⟨text, recent, last, begun⟩, .agg #[.int .i64 8, .int .i64 a, .int .i64 bb, .int .u16 (size : Int), .int .i64 n, .int .u8 (sign.toNat : Int), .int .i32 char, .string ⟨ctext.toArray⟩, .slice ad cuts.length cap]] w (DoPost w R T O) := by
  have hc : ∀ wx, Calls Tryz.prog 61 #[SB.val ⟨text, recent, last, begun⟩, .agg #[.int .i64 8, .int .i64 a, .int .i64 bb, .int .u16 (size : Int), .int .i64 n, .int .u8 (sign.toNat : Int), .int .i32 char, .string ⟨ctext.toArray⟩, .slice ad cuts.length cap]] wx (DoPost wx R T O) := fun wx => hc0 wx
  obtain ⟨rt, rr, rl, rb⟩ := R
  obtain ⟨tn, tt, tc, ts⟩ := T
  unfold DoPost at hc
  simp only [SB.val, SB.cells, Td.val, Td.cells] at hc
  have HC := Lib.hid hc
  clear hc
  clear hc0
  obtain ⟨w0, hw0, hX⟩ := box4_ex text recent last begun a bb size n sign char ctext cuts ad cap w (8)
  have HX := Lib.hid hX
  have HW0 := Lib.hid hw0
  obtain ⟨b0, b1, b2, b3, e0, e1, e2, e3, e4, e5, e6, e7, e8, r0, r1, r2, r3, t0, t1, t2, t3, rz, tz, _, hlt⟩ := hX
  have rz0 := rz 0; have rz1 := rz 1; have rz2 := rz 2; have rz3 := rz 3; have tz0 := tz 0; have tz1 := tz 1; have tz2 := tz 2; have tz3 := tz 3
  clear hw0 rz tz
  simp only [SB.val, SB.cells]
  go_enter Tryz.func45, Tryz.ntmps45
  go_wp2_with fail
  rw [← HW0.out]
  refine (HC.out _).mono ?_
  rintro e w1 ⟨rfl, F1⟩
  have HF1 : Hid (Fr (fun _ => False) w0 w1) := Lib.hid (Fr.trans (by (repeat (with_reducible first | exact Fr.refl _ _ | exact HF1.out | refine Fr.drew ?_ | refine Fr.alloc ?_ _ | refine Fr.drewN ?_ _))) F1)
  clear F1
  obtain ⟨r0x, r1x, r2x, r3x, t0x, t1x, t2x, t3x, rz0x, rz1x, rz2x, rz3x, tz0x, tz1x, tz2x, tz3x⟩ := kept_rt HF1.out r0 r1 r2 r3 t0 t1 t2 t3 rz0 rz1 rz2 rz3 tz0 tz1 tz2 tz3
  go_wp2_with fail
  obtain ⟨w8, hw8, hF8, q0, q1, q2, q3, q4, q5, q6, q7⟩ := two_end (w1 := w1) (x := w.heap.size + 1 + 1) (y := w.heap.size + 1 + 1 + 1) (by first | exact HX.out.fr.trans HF2.out | exact HX.out.fr.trans HF1.out | exact HX.out.b4.fr.trans HF1.out | exact HX.out.fr | exact HX.out.b4.fr) (by omega) (by omega) (by omega) r0x r1x r2x r3x t0x t1x t2x t3x (.string ⟨rt.toArray⟩) (.int .i64 rr) (.string ⟨rl.toArray⟩) (.bool rb) (.int .i64 tn) (.string ⟨tt.toArray⟩) (.int .i32 tc) (.int .i64 ts)
  have HF8 := Lib.hid hF8
  rw [← hw8]
  refine bodyPost_ret (v := .tuple #[SB.val ⟨rt, rr, rl, rb⟩, Td.val ⟨tn, tt, tc, ts⟩, .bool O]) (by simp [results, Tryz.results45, go_sem, SB.val, SB.cells, Td.val, Td.cells, q0, q1, q2, q3, q4, q5, q6, q7]) rfl ?_
  exact ⟨rfl, HF8.out⟩
set_option maxHeartbeats 1600000 in
set_option maxRecDepth 100000 in
theorem spd_9 (w : World) (R : SB) (T : Td) (O : Bool) (hc0 : ∀ wx, Calls Tryz.prog 61 #[SB.val ⟨text, recent, last, begun⟩, .agg #[.int .i64 9, .int .i64 a, .int .i64 bb, .int .u16 (size : Int), .int .i64 n, .int .u8 (sign.toNat : Int), .int .i32 char, .string ⟨ctext.toArray⟩, .slice ad cuts.length cap]] wx (DoPost wx R T O)) :
    Calls Tryz.prog 45 #[SB.val ⟨text, recent, last, begun⟩, .agg #[.int .i64 9, .int .i64 a, .int .i64 bb, .int .u16 (size : Int), .int .i64 n, .int .u8 (sign.toNat : Int), .int .i32 char, .string ⟨ctext.toArray⟩, .slice ad cuts.length cap]] w (DoPost w R T O) := by
  have hc : ∀ wx, Calls Tryz.prog 61 #[SB.val ⟨text, recent, last, begun⟩, .agg #[.int .i64 9, .int .i64 a, .int .i64 bb, .int .u16 (size : Int), .int .i64 n, .int .u8 (sign.toNat : Int), .int .i32 char, .string ⟨ctext.toArray⟩, .slice ad cuts.length cap]] wx (DoPost wx R T O) := fun wx => hc0 wx
  obtain ⟨rt, rr, rl, rb⟩ := R
  obtain ⟨tn, tt, tc, ts⟩ := T
  unfold DoPost at hc
  simp only [SB.val, SB.cells, Td.val, Td.cells] at hc
  have HC := Lib.hid hc
  clear hc
  clear hc0
  obtain ⟨w0, hw0, hX⟩ := box4_ex text recent last begun a bb size n sign char ctext cuts ad cap w (9)
  have HX := Lib.hid hX
  have HW0 := Lib.hid hw0
  obtain ⟨b0, b1, b2, b3, e0, e1, e2, e3, e4, e5, e6, e7, e8, r0, r1, r2, r3, t0, t1, t2, t3, rz, tz, _, hlt⟩ := hX
  have rz0 := rz 0; have rz1 := rz 1; have rz2 := rz 2; have rz3 := rz 3; have tz0 := tz 0; have tz1 := tz 1; have tz2 := tz 2; have tz3 := tz 3
  clear hw0 rz tz
  simp only [SB.val, SB.cells]
  go_enter Tryz.func45, Tryz.ntmps45
  go_wp2_with fail
  rw [← HW0.out]
  refine (HC.out _).mono ?_
  rintro e w1 ⟨rfl, F1⟩
  have HF1 : Hid (Fr (fun _ => False) w0 w1) := Lib.hid (Fr.trans (by (repeat (with_reducible first | exact Fr.refl _ _ | exact HF1.out | refine Fr.drew ?_ | refine Fr.alloc ?_ _ | refine Fr.drewN ?_ _))) F1)
  clear F1
  obtain ⟨r0x, r1x, r2x, r3x, t0x, t1x, t2x, t3x, rz0x, rz1x, rz2x, rz3x, tz0x, tz1x, tz2x, tz3x⟩ := kept_rt HF1.out r0 r1 r2 r3 t0 t1 t2 t3 rz0 rz1 rz2 rz3 tz0 tz1 tz2 tz3
  go_wp2_with fail
  obtain ⟨w8, hw8, hF8, q0, q1, q2, q3, q4, q5, q6, q7⟩ := two_end (w1 := w1) (x := w.heap.size + 1 + 1) (y := w.heap.size + 1 + 1 + 1) (by first | exact HX.out.fr.trans HF2.out | exact HX.out.fr.trans HF1.out | exact HX.out.b4.fr.trans HF1.out | exact HX.out.fr | exact HX.out.b4.fr) (by omega) (by omega) (by omega) r0x r1x r2x r3x t0x t1x t2x t3x (.string ⟨rt.toArray⟩) (.int .i64 rr) (.string ⟨rl.toArray⟩) (.bool rb) (.int .i64 tn) (.string ⟨tt.toArray⟩) (.int .i32 tc) (.int .i64 ts)
  have HF8 := Lib.hid hF8
  rw [← hw8]
  refine bodyPost_ret (v := .tuple #[SB.val ⟨rt, rr, rl, rb⟩, Td.val ⟨tn, tt, tc, ts⟩, .bool O]) (by simp [results, Tryz.results45, go_sem, SB.val, SB.cells, Td.val, Td.cells, q0, q1, q2, q3, q4, q5, q6, q7]) rfl ?_
  exact ⟨rfl, HF8.out⟩
set_option maxHeartbeats 1600000 in
set_option maxRecDepth 100000 in
theorem spd_10 (w : World) (R : SB) (T : Td) (O : Bool) (hc0 : ∀ wx, Calls Tryz.prog 61 #[SB.val ⟨text, recent, last, begun⟩, .agg #[.int .i64 10, .int .i64 a, .int .i64 bb, .int .u16 (size : Int), .int .i64 n, .int .u8 (sign.toNat : Int), .int .i32 char, .string ⟨ctext.toArray⟩, .slice ad cuts.length cap]] wx (DoPost wx R T O)) :
    Calls Tryz.prog 45 #[SB.val ⟨text, recent, last, begun⟩, .agg #[.int .i64 10, .int .i64 a, .int .i64 bb, .int .u16 (size : Int), .int .i64 n, .int .u8 (sign.toNat : Int), .int .i32 char, .string ⟨ctext.toArray⟩, .slice ad cuts.length cap]] w (DoPost w R T O) := by
  have hc : ∀ wx, Calls Tryz.prog 61 #[SB.val ⟨text, recent, last, begun⟩, .agg #[.int .i64 10, .int .i64 a, .int .i64 bb, .int .u16 (size : Int), .int .i64 n, .int .u8 (sign.toNat : Int), .int .i32 char, .string ⟨ctext.toArray⟩, .slice ad cuts.length cap]] wx (DoPost wx R T O) := fun wx => hc0 wx
  obtain ⟨rt, rr, rl, rb⟩ := R
  obtain ⟨tn, tt, tc, ts⟩ := T
  unfold DoPost at hc
  simp only [SB.val, SB.cells, Td.val, Td.cells] at hc
  have HC := Lib.hid hc
  clear hc
  clear hc0
  obtain ⟨w0, hw0, hX⟩ := box4_ex text recent last begun a bb size n sign char ctext cuts ad cap w (10)
  have HX := Lib.hid hX
  have HW0 := Lib.hid hw0
  obtain ⟨b0, b1, b2, b3, e0, e1, e2, e3, e4, e5, e6, e7, e8, r0, r1, r2, r3, t0, t1, t2, t3, rz, tz, _, hlt⟩ := hX
  have rz0 := rz 0; have rz1 := rz 1; have rz2 := rz 2; have rz3 := rz 3; have tz0 := tz 0; have tz1 := tz 1; have tz2 := tz 2; have tz3 := tz 3
  clear hw0 rz tz
  simp only [SB.val, SB.cells]
  go_enter Tryz.func45, Tryz.ntmps45
  go_wp2_with fail
  rw [← HW0.out]
  refine (HC.out _).mono ?_
  rintro e w1 ⟨rfl, F1⟩
  have HF1 : Hid (Fr (fun _ => False) w0 w1) := Lib.hid (Fr.trans (by (repeat (with_reducible first | exact Fr.refl _ _ | exact HF1.out | refine Fr.drew ?_ | refine Fr.alloc ?_ _ | refine Fr.drewN ?_ _))) F1)
  clear F1
  obtain ⟨r0x, r1x, r2x, r3x, t0x, t1x, t2x, t3x, rz0x, rz1x, rz2x, rz3x, tz0x, tz1x, tz2x, tz3x⟩ := kept_rt HF1.out r0 r1 r2 r3 t0 t1 t2 t3 rz0 rz1 rz2 rz3 tz0 tz1 tz2 tz3
  go_wp2_with fail
  obtain ⟨w8, hw8, hF8, q0, q1, q2, q3, q4, q5, q6, q7⟩ := two_end (w1 := w1) (x := w.heap.size + 1 + 1) (y := w.heap.size + 1 + 1 + 1) (by first | exact HX.out.fr.trans HF2.out | exact HX.out.fr.trans HF1.out | exact HX.out.b4.fr.trans HF1.out | exact HX.out.fr | exact HX.out.b4.fr) (by omega) (by omega) (by omega) r0x r1x r2x r3x t0x t1x t2x t3x (.string ⟨rt.toArray⟩) (.int .i64 rr) (.string ⟨rl.toArray⟩) (.bool rb) (.int .i64 tn) (.string ⟨tt.toArray⟩) (.int .i32 tc) (.int .i64 ts)
  have HF8 := Lib.hid hF8
  rw [← hw8]
  refine bodyPost_ret (v := .tuple #[SB.val ⟨rt, rr, rl, rb⟩, Td.val ⟨tn, tt, tc, ts⟩, .bool O]) (by simp [results, Tryz.results45, go_sem, SB.val, SB.cells, Td.val, Td.cells, q0, q1, q2, q3, q4, q5, q6, q7]) rfl ?_
  exact ⟨rfl, HF8.out⟩
set_option maxHeartbeats 1600000 in
set_option maxRecDepth 100000 in
theorem spd_11 (w : World) (R : SB) (T : Td) (O : Bool) (hc0 : ∀ wx, Calls Tryz.prog 61 #[SB.val ⟨text, recent, last, begun⟩, .agg #[.int .i64 11, .int .i64 a, .int .i64 bb, .int .u16 (size : Int), .int .i64 n, .int .u8 (sign.toNat : Int), .int .i32 char, .string ⟨ctext.toArray⟩, .slice ad cuts.length cap]] wx (DoPost wx R T O)) :
    Calls Tryz.prog 45 #[SB.val ⟨text, recent, last, begun⟩, .agg #[.int .i64 11, .int .i64 a, .int .i64 bb, .int .u16 (size : Int), .int .i64 n, .int .u8 (sign.toNat : Int), .int .i32 char, .string ⟨ctext.toArray⟩, .slice ad cuts.length cap]] w (DoPost w R T O) := by
  have hc : ∀ wx, Calls Tryz.prog 61 #[SB.val ⟨text, recent, last, begun⟩, .agg #[.int .i64 11, .int .i64 a, .int .i64 bb, .int .u16 (size : Int), .int .i64 n, .int .u8 (sign.toNat : Int), .int .i32 char, .string ⟨ctext.toArray⟩, .slice ad cuts.length cap]] wx (DoPost wx R T O) := fun wx => hc0 wx
  obtain ⟨rt, rr, rl, rb⟩ := R
  obtain ⟨tn, tt, tc, ts⟩ := T
  unfold DoPost at hc
  simp only [SB.val, SB.cells, Td.val, Td.cells] at hc
  have HC := Lib.hid hc
  clear hc
  clear hc0
  obtain ⟨w0, hw0, hX⟩ := box4_ex text recent last begun a bb size n sign char ctext cuts ad cap w (11)
  have HX := Lib.hid hX
  have HW0 := Lib.hid hw0
  obtain ⟨b0, b1, b2, b3, e0, e1, e2, e3, e4, e5, e6, e7, e8, r0, r1, r2, r3, t0, t1, t2, t3, rz, tz, _, hlt⟩ := hX
  have rz0 := rz 0; have rz1 := rz 1; have rz2 := rz 2; have rz3 := rz 3; have tz0 := tz 0; have tz1 := tz 1; have tz2 := tz 2; have tz3 := tz 3
  clear hw0 rz tz
  simp only [SB.val, SB.cells]
  go_enter Tryz.func45, Tryz.ntmps45
  go_wp2_with fail
  rw [← HW0.out]
  refine (HC.out _).mono ?_
  rintro e w1 ⟨rfl, F1⟩
  have HF1 : Hid (Fr (fun _ => False) w0 w1) := Lib.hid (Fr.trans (by (repeat (with_reducible first | exact Fr.refl _ _ | exact HF1.out | refine Fr.drew ?_ | refine Fr.alloc ?_ _ | refine Fr.drewN ?_ _))) F1)
  clear F1
  obtain ⟨r0x, r1x, r2x, r3x, t0x, t1x, t2x, t3x, rz0x, rz1x, rz2x, rz3x, tz0x, tz1x, tz2x, tz3x⟩ := kept_rt HF1.out r0 r1 r2 r3 t0 t1 t2 t3 rz0 rz1 rz2 rz3 tz0 tz1 tz2 tz3
  go_wp2_with fail
  obtain ⟨w8, hw8, hF8, q0, q1, q2, q3, q4, q5, q6, q7⟩ := two_end (w1 := w1) (x := w.heap.size + 1 + 1) (y := w.heap.size + 1 + 1 + 1) (by first | exact HX.out.fr.trans HF2.out | exact HX.out.fr.trans HF1.out | exact HX.out.b4.fr.trans HF1.out | exact HX.out.fr | exact HX.out.b4.fr) (by omega) (by omega) (by omega) r0x r1x r2x r3x t0x t1x t2x t3x (.string ⟨rt.toArray⟩) (.int .i64 rr) (.string ⟨rl.toArray⟩) (.bool rb) (.int .i64 tn) (.string ⟨tt.toArray⟩) (.int .i32 tc) (.int .i64 ts)
  have HF8 := Lib.hid hF8
  rw [← hw8]
  refine bodyPost_ret (v := .tuple #[SB.val ⟨rt, rr, rl, rb⟩, Td.val ⟨tn, tt, tc, ts⟩, .bool O]) (by simp [results, Tryz.results45, go_sem, SB.val, SB.cells, Td.val, Td.cells, q0, q1, q2, q3, q4, q5, q6, q7]) rfl ?_
  exact ⟨rfl, HF8.out⟩
set_option maxHeartbeats 1600000 in
set_option maxRecDepth 100000 in
theorem spd_18 (w : World) :
    Calls Tryz.prog 45 #[SB.val ⟨text, recent, last, begun⟩, .agg #[.int .i64 18, .int .i64 a, .int .i64 bb, .int .u16 (size : Int), .int .i64 n, .int .u8 (sign.toNat : Int), .int .i32 char, .string ⟨ctext.toArray⟩, .slice ad cuts.length cap]] w (DoPost w ⟨text, recent, last, begun⟩ ⟨text.length, [], 0, 0⟩ true) := by
  obtain ⟨w0, hw0, hX⟩ := box4_ex text recent last begun a bb size n sign char ctext cuts ad cap w (18)
  have HX := Lib.hid hX
  have HW0 := Lib.hid hw0
  obtain ⟨b0, b1, b2, b3, e0, e1, e2, e3, e4, e5, e6, e7, e8, r0, r1, r2, r3, t0, t1, t2, t3, rz, tz, _, hlt⟩ := hX
  have rz0 := rz 0; have rz1 := rz 1; have rz2 := rz 2; have rz3 := rz 3; have tz0 := tz 0; have tz1 := tz 1; have tz2 := tz 2; have tz3 := tz 3
  clear hw0 rz tz
  simp only [SB.val, SB.cells]
  go_enter Tryz.func45, Tryz.ntmps45
  go_wp2_with fail
  rw [← HW0.out]
  go_region_held3 (fun w' => w'.cell? ⟨w.heap.size, 0, none⟩ = some (.string ⟨text.toArray⟩) ∧ w'.cell? ⟨w.heap.size, 1, none⟩ = some (.int .i64 recent) ∧ w'.cell? ⟨w.heap.size, 2, none⟩ = some (.string ⟨last.toArray⟩) ∧ w'.cell? ⟨w.heap.size, 3, none⟩ = some (.bool begun)) (((repeat' apply And.intro) <;> (try simp only [World.cell?_drew]) <;> first | with_reducible assumption | with_reducible exact alloc_cell (by with_reducible assumption) | with_reducible exact far4 (by with_reducible assumption) (by dsimp only; omega) | with_reducible exact far4 (far4 (by with_reducible assumption) (by dsimp only; omega)) (by dsimp only; omega))) (fail)
  go_wp2_with fail
  obtain ⟨w8, hw8, hF8, q0, q1, q2, q3, q4, q5, q6, q7⟩ := two_endd (w1 := w0) (x := w.heap.size + 1 + 1) (y := w.heap.size + 1 + 1 + 1) (by first | exact HX.out.fr.trans HF2.out | exact HX.out.fr.trans HF1.out | exact HX.out.b4.fr.trans HF1.out | exact HX.out.fr | exact HX.out.b4.fr) (by omega) (by omega) (by omega) r0 r1 r2 r3 t0 t1 t2 t3 (.string ⟨text.toArray⟩) (.int .i64 recent) (.string ⟨last.toArray⟩) (.bool begun) (.int .i64 (text.length : Int)) (.string ⟨#[]⟩) (.int .i32 0) (.int .i64 0)
  have HF8 := Lib.hid hF8
  rw [← hw8]
  refine bodyPost_ret (v := .tuple #[SB.val ⟨text, recent, last, begun⟩, Td.val ⟨text.length, [], 0, 0⟩, .bool true]) (by simp [results, Tryz.results45, go_sem, SB.val, SB.cells, Td.val, Td.cells, q0, q1, q2, q3, q4, q5, q6, q7]) rfl ?_
  exact ⟨rfl, HF8.out⟩
set_option maxHeartbeats 1600000 in
set_option maxRecDepth 100000 in
theorem spd_19 (w : World) :
    Calls Tryz.prog 45 #[SB.val ⟨text, recent, last, begun⟩, .agg #[.int .i64 19, .int .i64 a, .int .i64 bb, .int .u16 (size : Int), .int .i64 n, .int .u8 (sign.toNat : Int), .int .i32 char, .string ⟨ctext.toArray⟩, .slice ad cuts.length cap]] w (DoPost w ⟨text, recent, last, begun⟩ ⟨0, text, 0, 0⟩ true) := by
  obtain ⟨w0, hw0, hX⟩ := box4_ex text recent last begun a bb size n sign char ctext cuts ad cap w (19)
  have HX := Lib.hid hX
  have HW0 := Lib.hid hw0
  obtain ⟨b0, b1, b2, b3, e0, e1, e2, e3, e4, e5, e6, e7, e8, r0, r1, r2, r3, t0, t1, t2, t3, rz, tz, _, hlt⟩ := hX
  have rz0 := rz 0; have rz1 := rz 1; have rz2 := rz 2; have rz3 := rz 3; have tz0 := tz 0; have tz1 := tz 1; have tz2 := tz 2; have tz3 := tz 3
  clear hw0 rz tz
  simp only [SB.val, SB.cells]
  go_enter Tryz.func45, Tryz.ntmps45
  go_wp2_with fail
  rw [← HW0.out]
  go_region_held3 (fun w' => w'.cell? ⟨w.heap.size, 0, none⟩ = some (.string ⟨text.toArray⟩) ∧ w'.cell? ⟨w.heap.size, 1, none⟩ = some (.int .i64 recent) ∧ w'.cell? ⟨w.heap.size, 2, none⟩ = some (.string ⟨last.toArray⟩) ∧ w'.cell? ⟨w.heap.size, 3, none⟩ = some (.bool begun)) (((repeat' apply And.intro) <;> (try simp only [World.cell?_drew]) <;> first | with_reducible assumption | with_reducible exact alloc_cell (by with_reducible assumption) | with_reducible exact far4 (by with_reducible assumption) (by dsimp only; omega) | with_reducible exact far4 (far4 (by with_reducible assumption) (by dsimp only; omega)) (by dsimp only; omega))) (fail)
  go_wp2_with fail
  obtain ⟨w8, hw8, hF8, q0, q1, q2, q3, q4, q5, q6, q7⟩ := two_endd (w1 := w0) (x := w.heap.size + 1 + 1) (y := w.heap.size + 1 + 1 + 1) (by first | exact HX.out.fr.trans HF2.out | exact HX.out.fr.trans HF1.out | exact HX.out.b4.fr.trans HF1.out | exact HX.out.fr | exact HX.out.b4.fr) (by omega) (by omega) (by omega) r0 r1 r2 r3 t0 t1 t2 t3 (.string ⟨text.toArray⟩) (.int .i64 recent) (.string ⟨last.toArray⟩) (.bool begun) (.int .i64 0) (.string ⟨text.toArray⟩) (.int .i32 0) (.int .i64 0)
  have HF8 := Lib.hid hF8
  rw [← hw8]
  refine bodyPost_ret (v := .tuple #[SB.val ⟨text, recent, last, begun⟩, Td.val ⟨0, text, 0, 0⟩, .bool true]) (by simp [results, Tryz.results45, go_sem, SB.val, SB.cells, Td.val, Td.cells, q0, q1, q2, q3, q4, q5, q6, q7]) rfl ?_
  exact ⟨rfl, HF8.out⟩
set_option maxHeartbeats 1600000 in
set_option maxRecDepth 100000 in
theorem spd_20 (w : World) :
    Calls Tryz.prog 45 #[SB.val ⟨text, recent, last, begun⟩, .agg #[.int .i64 20, .int .i64 a, .int .i64 bb, .int .u16 (size : Int), .int .i64 n, .int .u8 (sign.toNat : Int), .int .i32 char, .string ⟨ctext.toArray⟩, .slice ad cuts.length cap]] w (DoPost w ⟨text, recent, last, begun⟩ ⟨0, text, 0, 0⟩ true) := by
  obtain ⟨w0, hw0, hX⟩ := box4_ex text recent last begun a bb size n sign char ctext cuts ad cap w (20)
  have HX := Lib.hid hX
  have HW0 := Lib.hid hw0
  obtain ⟨b0, b1, b2, b3, e0, e1, e2, e3, e4, e5, e6, e7, e8, r0, r1, r2, r3, t0, t1, t2, t3, rz, tz, _, hlt⟩ := hX
  have rz0 := rz 0; have rz1 := rz 1; have rz2 := rz 2; have rz3 := rz 3; have tz0 := tz 0; have tz1 := tz 1; have tz2 := tz 2; have tz3 := tz 3
  clear hw0 rz tz
  simp only [SB.val, SB.cells]
  go_enter Tryz.func45, Tryz.ntmps45
  go_wp2_with fail
  rw [← HW0.out]
  go_region_held3 (fun w' => w'.cell? ⟨w.heap.size, 0, none⟩ = some (.string ⟨text.toArray⟩) ∧ w'.cell? ⟨w.heap.size, 1, none⟩ = some (.int .i64 recent) ∧ w'.cell? ⟨w.heap.size, 2, none⟩ = some (.string ⟨last.toArray⟩) ∧ w'.cell? ⟨w.heap.size, 3, none⟩ = some (.bool begun)) (((repeat' apply And.intro) <;> (try simp only [World.cell?_drew]) <;> first | with_reducible assumption | with_reducible exact alloc_cell (by with_reducible assumption) | with_reducible exact far4 (by with_reducible assumption) (by dsimp only; omega) | with_reducible exact far4 (far4 (by with_reducible assumption) (by dsimp only; omega)) (by dsimp only; omega))) (fail)
  go_wp2_with fail
  obtain ⟨w8, hw8, hF8, q0, q1, q2, q3, q4, q5, q6, q7⟩ := two_endd (w1 := w0) (x := w.heap.size + 1 + 1) (y := w.heap.size + 1 + 1 + 1) (by first | exact HX.out.fr.trans HF2.out | exact HX.out.fr.trans HF1.out | exact HX.out.b4.fr.trans HF1.out | exact HX.out.fr | exact HX.out.b4.fr) (by omega) (by omega) (by omega) r0 r1 r2 r3 t0 t1 t2 t3 (.string ⟨text.toArray⟩) (.int .i64 recent) (.string ⟨last.toArray⟩) (.bool begun) (.int .i64 0) (.string ⟨text.toArray⟩) (.int .i32 0) (.int .i64 0)
  have HF8 := Lib.hid hF8
  rw [← hw8]
  refine bodyPost_ret (v := .tuple #[SB.val ⟨text, recent, last, begun⟩, Td.val ⟨0, text, 0, 0⟩, .bool true]) (by simp [results, Tryz.results45, go_sem, SB.val, SB.cells, Td.val, Td.cells, q0, q1, q2, q3, q4, q5, q6, q7]) rfl ?_
  exact ⟨rfl, HF8.out⟩
set_option maxHeartbeats 1600000 in
set_option maxRecDepth 100000 in
theorem spd_15n (w : World) (hl : text.length + ctext.length + 8 ≤ 1099511627776) (hk : ¬ (0 ≤ n ∧ n ≤ (text.length : Int))) :
    Calls Tryz.prog 45 #[SB.val ⟨text, recent, last, begun⟩, .agg #[.int .i64 15, .int .i64 a, .int .i64 bb, .int .u16 (size : Int), .int .i64 n, .int .u8 (sign.toNat : Int), .int .i32 char, .string ⟨ctext.toArray⟩, .slice ad cuts.length cap]] w (DoPost w ⟨text, recent, last, begun⟩ ⟨0, [], 0, 3⟩ true) := by
  have hin : decide (0 ≤ n ∧ n < (text.length : Int) + 1) = false := by simp; omega
  have hlw : IntKind.i64.wrap ((text.length : Int) + 1) = (text.length : Int) + 1 := IntWalk.i64_in _ (by omega)
  clear hk
  obtain ⟨w0, hw0, hX⟩ := box4_ex text recent last begun a bb size n sign char ctext cuts ad cap w (15)
  have HX := Lib.hid hX
  have HW0 := Lib.hid hw0
  obtain ⟨b0, b1, b2, b3, e0, e1, e2, e3, e4, e5, e6, e7, e8, r0, r1, r2, r3, t0, t1, t2, t3, rz, tz, _, hlt⟩ := hX
  have rz0 := rz 0; have rz1 := rz 1; have rz2 := rz 2; have rz3 := rz 3; have tz0 := tz 0; have tz1 := tz 1; have tz2 := tz 2; have tz3 := tz 3
  clear hw0 rz tz
  simp only [SB.val, SB.cells]
  go_enter Tryz.func45, Tryz.ntmps45
  go_wp2_with fail
  rw [← HW0.out]
  refine (sp_among _ _ _).mono ?_
  rintro e w1 ⟨rfl, hw1⟩
  rw [hw1, hin]
  clear hw1
  go_wp2_with fail
  obtain ⟨w8, hw8, hF8, q0, q1, q2, q3, q4, q5, q6, q7⟩ := two_end (w1 := w0) (x := w.heap.size + 1 + 1) (y := w.heap.size + 1 + 1 + 1) (by first | exact HX.out.fr.trans HF2.out | exact HX.out.fr.trans HF1.out | exact HX.out.b4.fr.trans HF1.out | exact HX.out.fr | exact HX.out.b4.fr) (by omega) (by omega) (by omega) r0 r1 r2 r3 t0 t1 t2 t3 (.string ⟨text.toArray⟩) (.int .i64 recent) (.string ⟨last.toArray⟩) (.bool begun) (.int .i64 0) (.string ⟨#[]⟩) (.int .i32 0) (.int .i64 3)
  have HF8 := Lib.hid hF8
  rw [← hw8]
  refine bodyPost_ret (v := .tuple #[SB.val ⟨text, recent, last, begun⟩, Td.val ⟨0, [], 0, 3⟩, .bool true]) (by simp [results, Tryz.results45, go_sem, SB.val, SB.cells, Td.val, Td.cells, q0, q1, q2, q3, q4, q5, q6, q7]) rfl ?_
  exact ⟨rfl, HF8.out⟩
set_option maxHeartbeats 1600000 in
set_option maxRecDepth 100000 in
theorem spd_15 (w : World) (hl : text.length + ctext.length + 8 ≤ 1099511627776) (k : Nat) (hn : n = (k : Int)) (hk : k ≤ text.length) :
    Calls Tryz.prog 45 #[SB.val ⟨text, recent, last, begun⟩, .agg #[.int .i64 15, .int .i64 a, .int .i64 bb, .int .u16 (size : Int), .int .i64 n, .int .u8 (sign.toNat : Int), .int .i32 char, .string ⟨ctext.toArray⟩, .slice ad cuts.length cap]] w (DoPost w (SB.other ⟨text, recent, last, begun⟩ (text.take k)) ⟨0, [], 0, 0⟩ true) := by
  have hcHC : ∀ wx, Calls Tryz.prog 57 #[SB.val ⟨text, recent, last, begun⟩, .string ⟨(text.take k).toArray⟩] wx fun e w' => e = .returned (SB.val (SB.other ⟨text, recent, last, begun⟩ (text.take k))) ∧ Fr (fun _ => False) wx w' := fun wx => sp_other text recent last begun (text.take k) wx
  obtain ⟨rt, rr, rl, rb, hresHC⟩ : ∃ rt rr rl rb, (SB.other ⟨text, recent, last, begun⟩ (text.take k)) = SB.mk rt rr rl rb := ⟨_, _, _, _, rfl⟩
  rw [hresHC] at hcHC ⊢
  simp only [SB.val, SB.cells] at hcHC
  have HC := Lib.hid hcHC
  clear hresHC hcHC
  have hin : decide (0 ≤ n ∧ n < (text.length : Int) + 1) = true := by simp; omega
  have hlw : IntKind.i64.wrap ((text.length : Int) + 1) = (text.length : Int) + 1 := IntWalk.i64_in _ (by omega)
  have x1 := ext_take text k
  obtain ⟨pk, hpk⟩ : ∃ pk, pk = text.take k := ⟨_, rfl⟩
  rw [← hpk] at x1 HC
  have hk2 : n ≤ (text.length : Int) := by omega
  have hk3 : (0 : Int) ≤ n := by omega
  have hnk : n.toNat = k := by omega
  clear hpk hk hn
  obtain ⟨w0, hw0, hX⟩ := box4_ex text recent last begun a bb size n sign char ctext cuts ad cap w (15)
  have HX := Lib.hid hX
  have HW0 := Lib.hid hw0
  obtain ⟨b0, b1, b2, b3, e0, e1, e2, e3, e4, e5, e6, e7, e8, r0, r1, r2, r3, t0, t1, t2, t3, rz, tz, _, hlt⟩ := hX
  have rz0 := rz 0; have rz1 := rz 1; have rz2 := rz 2; have rz3 := rz 3; have tz0 := tz 0; have tz1 := tz 1; have tz2 := tz 2; have tz3 := tz 3
  clear hw0 rz tz
  simp only [SB.val, SB.cells]
  go_enter Tryz.func45, Tryz.ntmps45
  go_wp2_with fail
  rw [← HW0.out]
  refine (sp_among _ _ _).mono ?_
  rintro e w1 ⟨rfl, hw1⟩
  rw [hw1, hin]
  clear hw1
  go_wp2_with fail
  go_region_held3 (fun w' => w'.cell? ⟨w.heap.size, 0, none⟩ = some (.string ⟨text.toArray⟩) ∧ w'.cell? ⟨w.heap.size, 1, none⟩ = some (.int .i64 recent) ∧ w'.cell? ⟨w.heap.size, 2, none⟩ = some (.string ⟨last.toArray⟩) ∧ w'.cell? ⟨w.heap.size, 3, none⟩ = some (.bool begun) ∧ w'.cell? ⟨w.heap.size + 1, 4, none⟩ = some (.int .i64 n)) (((repeat' apply And.intro) <;> (try simp only [World.cell?_drew]) <;> first | with_reducible assumption | with_reducible exact alloc_cell (by with_reducible assumption) | with_reducible exact far4 (by with_reducible assumption) (by dsimp only; omega) | with_reducible exact far4 (far4 (by with_reducible assumption) (by dsimp only; omega)) (by dsimp only; omega))) ((go_at_call 57; refine (HC.out _).mono ?_; rintro e w1 ⟨rfl, F1⟩; have HF1 : Hid (Fr (fun _ => False) w0 w1) := Lib.hid (Fr.trans (by (repeat (with_reducible first | exact Fr.refl _ _ | exact HF1.out | refine Fr.drew ?_ | refine Fr.alloc ?_ _ | refine Fr.drewN ?_ _))) F1); clear F1; have b0x := keep1 HF1.out b0; have b1x := keep1 HF1.out b1; have b2x := keep1 HF1.out b2; have b3x := keep1 HF1.out b3; have e4x := keep1 HF1.out e4; obtain ⟨r0x, r1x, r2x, r3x, t0x, t1x, t2x, t3x, rz0x, rz1x, rz2x, rz3x, tz0x, tz1x, tz2x, tz3x⟩ := kept_rt HF1.out r0 r1 r2 r3 t0 t1 t2 t3 rz0 rz1 rz2 rz3 tz0 tz1 tz2 tz3))
  go_wp2_with fail
  obtain ⟨w8, hw8, hF8, q0, q1, q2, q3, q4, q5, q6, q7⟩ := two_end (w1 := w1) (x := w.heap.size + 1 + 1) (y := w.heap.size + 1 + 1 + 1) (by first | exact HX.out.fr.trans HF2.out | exact HX.out.fr.trans HF1.out | exact HX.out.b4.fr.trans HF1.out | exact HX.out.fr | exact HX.out.b4.fr) (by omega) (by omega) (by omega) r0x r1x r2x r3x t0x t1x t2x t3x (.string ⟨rt.toArray⟩) (.int .i64 rr) (.string ⟨rl.toArray⟩) (.bool rb) (.int .i64 0) (.string ⟨#[]⟩) (.int .i32 0) (.int .i64 0)
  have HF8 := Lib.hid hF8
  rw [← hw8]
  refine bodyPost_ret (v := .tuple #[SB.val ⟨rt, rr, rl, rb⟩, Td.val ⟨0, [], 0, 0⟩, .bool true]) (by simp [results, Tryz.results45, go_sem, SB.val, SB.cells, Td.val, Td.cells, q0, q1, q2, q3, q4, q5, q6, q7]) rfl ?_
  exact ⟨rfl, HF8.out⟩
set_option maxHeartbeats 1600000 in
set_option maxRecDepth 100000 in
theorem spd_16 (w : World) :
    Calls Tryz.prog 45 #[SB.val ⟨text, recent, last, begun⟩, .agg #[.int .i64 16, .int .i64 a, .int .i64 bb, .int .u16 (size : Int), .int .i64 n, .int .u8 (sign.toNat : Int), .int .i32 char, .string ⟨ctext.toArray⟩, .slice ad cuts.length cap]] w (DoPost w (SB.other ⟨text, recent, last, begun⟩ []) ⟨0, [], 0, 0⟩ true) := by
  have hcHC : ∀ wx, Calls Tryz.prog 57 #[SB.val ⟨text, recent, last, begun⟩, .string ⟨([]).toArray⟩] wx fun e w' => e = .returned (SB.val (SB.other ⟨text, recent, last, begun⟩ ([]))) ∧ Fr (fun _ => False) wx w' := fun wx => sp_other text recent last begun ([]) wx
  obtain ⟨rt, rr, rl, rb, hresHC⟩ : ∃ rt rr rl rb, (SB.other ⟨text, recent, last, begun⟩ ([])) = SB.mk rt rr rl rb := ⟨_, _, _, _, rfl⟩
  rw [hresHC] at hcHC ⊢
  simp only [SB.val, SB.cells] at hcHC
  have HC := Lib.hid hcHC
  clear hresHC hcHC
  obtain ⟨w0, hw0, hX⟩ := box4_ex text recent last begun a bb size n sign char ctext cuts ad cap w (16)
  have HX := Lib.hid hX
  have HW0 := Lib.hid hw0
  obtain ⟨b0, b1, b2, b3, e0, e1, e2, e3, e4, e5, e6, e7, e8, r0, r1, r2, r3, t0, t1, t2, t3, rz, tz, _, hlt⟩ := hX
  have rz0 := rz 0; have rz1 := rz 1; have rz2 := rz 2; have rz3 := rz 3; have tz0 := tz 0; have tz1 := tz 1; have tz2 := tz 2; have tz3 := tz 3
  clear hw0 rz tz
  simp only [SB.val, SB.cells]
  go_enter Tryz.func45, Tryz.ntmps45
  go_wp2_with fail
  rw [← HW0.out]
  refine (HC.out _).mono ?_
  rintro e w1 ⟨rfl, F1⟩
  have HF1 : Hid (Fr (fun _ => False) w0 w1) := Lib.hid (Fr.trans (by (repeat (with_reducible first | exact Fr.refl _ _ | exact HF1.out | refine Fr.drew ?_ | refine Fr.alloc ?_ _ | refine Fr.drewN ?_ _))) F1)
  clear F1
  obtain ⟨r0x, r1x, r2x, r3x, t0x, t1x, t2x, t3x, rz0x, rz1x, rz2x, rz3x, tz0x, tz1x, tz2x, tz3x⟩ := kept_rt HF1.out r0 r1 r2 r3 t0 t1 t2 t3 rz0 rz1 rz2 rz3 tz0 tz1 tz2 tz3
  go_wp2_with fail
  obtain ⟨w8, hw8, hF8, q0, q1, q2, q3, q4, q5, q6, q7⟩ := two_end (w1 := w1) (x := w.heap.size + 1 + 1) (y := w.heap.size + 1 + 1 + 1) (by first | exact HX.out.fr.trans HF2.out | exact HX.out.fr.trans HF1.out | exact HX.out.b4.fr.trans HF1.out | exact HX.out.fr | exact HX.out.b4.fr) (by omega) (by omega) (by omega) r0x r1x r2x r3x t0x t1x t2x t3x (.string ⟨rt.toArray⟩) (.int .i64 rr) (.string ⟨rl.toArray⟩) (.bool rb) (.int .i64 0) (.string ⟨#[]⟩) (.int .i32 0) (.int .i64 0)
  have HF8 := Lib.hid hF8
  rw [← hw8]
  refine bodyPost_ret (v := .tuple #[SB.val ⟨rt, rr, rl, rb⟩, Td.val ⟨0, [], 0, 0⟩, .bool true]) (by simp [results, Tryz.results45, go_sem, SB.val, SB.cells, Td.val, Td.cells, q0, q1, q2, q3, q4, q5, q6, q7]) rfl ?_
  exact ⟨rfl, HF8.out⟩
set_option maxHeartbeats 1600000 in
set_option maxRecDepth 100000 in
theorem spd_17n (w : World) (hn : n < 0) :
    Calls Tryz.prog 45 #[SB.val ⟨text, recent, last, begun⟩, .agg #[.int .i64 17, .int .i64 a, .int .i64 bb, .int .u16 (size : Int), .int .i64 n, .int .u8 (sign.toNat : Int), .int .i32 char, .string ⟨ctext.toArray⟩, .slice ad cuts.length cap]] w (DoPost w ⟨text, recent, last, begun⟩ ⟨0, [], 0, 3⟩ true) := by
  obtain ⟨w0, hw0, hX⟩ := box4_ex text recent last begun a bb size n sign char ctext cuts ad cap w (17)
  have HX := Lib.hid hX
  have HW0 := Lib.hid hw0
  obtain ⟨b0, b1, b2, b3, e0, e1, e2, e3, e4, e5, e6, e7, e8, r0, r1, r2, r3, t0, t1, t2, t3, rz, tz, _, hlt⟩ := hX
  have rz0 := rz 0; have rz1 := rz 1; have rz2 := rz 2; have rz3 := rz 3; have tz0 := tz 0; have tz1 := tz 1; have tz2 := tz 2; have tz3 := tz 3
  clear hw0 rz tz
  simp only [SB.val, SB.cells]
  go_enter Tryz.func45, Tryz.ntmps45
  go_wp2_with fail
  obtain ⟨w8, hw8, hF8, q0, q1, q2, q3, q4, q5, q6, q7⟩ := four_end w (.cells #[.string ⟨text.toArray⟩, .int .i64 recent, .string ⟨last.toArray⟩, .bool begun] 81) (.cells #[.int .i64 17, .int .i64 a, .int .i64 bb, .int .u16 (size : Int), .int .i64 n, .int .u8 (sign.toNat : Int), .int .i32 char, .string ⟨ctext.toArray⟩, .slice ad cuts.length cap] 36) (.string ⟨text.toArray⟩) (.int .i64 recent) (.string ⟨last.toArray⟩) (.bool begun) (.int .i64 0) (.string ⟨#[]⟩) (.int .i32 0) (.int .i64 3)
  have HF8 := Lib.hid hF8
  rw [← hw8]
  refine bodyPost_ret (v := .tuple #[SB.val ⟨text, recent, last, begun⟩, Td.val ⟨0, [], 0, 3⟩, .bool true]) (by simp [results, Tryz.results45, go_sem, SB.val, SB.cells, Td.val, Td.cells, q0, q1, q2, q3, q4, q5, q6, q7]) rfl ?_
  exact ⟨rfl, HF8.out⟩
set_option maxHeartbeats 1600000 in
set_option maxRecDepth 100000 in
theorem spd_17 (w : World) (hn : ¬ n < 0) :
    Calls Tryz.prog 45 #[SB.val ⟨text, recent, last, begun⟩, .agg #[.int .i64 17, .int .i64 a, .int .i64 bb, .int .u16 (size : Int), .int .i64 n, .int .u8 (sign.toNat : Int), .int .i32 char, .string ⟨ctext.toArray⟩, .slice ad cuts.length cap]] w (DoPost w (SB.other ⟨text, recent, last, begun⟩ text) ⟨0, [], 0, 0⟩ (decide (n ≤ 65536))) := by
  have hcHC : ∀ wx, Calls Tryz.prog 57 #[SB.val ⟨text, recent, last, begun⟩, .string ⟨(text).toArray⟩] wx fun e w' => e = .returned (SB.val (SB.other ⟨text, recent, last, begun⟩ (text))) ∧ Fr (fun _ => False) wx w' := fun wx => sp_other text recent last begun (text) wx
  obtain ⟨rt, rr, rl, rb, hresHC⟩ : ∃ rt rr rl rb, (SB.other ⟨text, recent, last, begun⟩ (text)) = SB.mk rt rr rl rb := ⟨_, _, _, _, rfl⟩
  rw [hresHC] at hcHC ⊢
  simp only [SB.val, SB.cells] at hcHC
  have HC := Lib.hid hcHC
  clear hresHC hcHC
  obtain ⟨w0, hw0, hX⟩ := box4_ex text recent last begun a bb size n sign char ctext cuts ad cap w (17)
  have HX := Lib.hid hX
  have HW0 := Lib.hid hw0
  obtain ⟨b0, b1, b2, b3, e0, e1, e2, e3, e4, e5, e6, e7, e8, r0, r1, r2, r3, t0, t1, t2, t3, rz, tz, _, hlt⟩ := hX
  have rz0 := rz 0; have rz1 := rz 1; have rz2 := rz 2; have rz3 := rz 3; have tz0 := tz 0; have tz1 := tz 1; have tz2 := tz 2; have tz3 := tz 3
  clear hw0 rz tz
  simp only [SB.val, SB.cells]
  go_enter Tryz.func45, Tryz.ntmps45
  go_wp2_with fail
  rw [← HW0.out]
  go_region_held3 (fun w' => w'.cell? ⟨w.heap.size, 0, none⟩ = some (.string ⟨text.toArray⟩) ∧ w'.cell? ⟨w.heap.size, 1, none⟩ = some (.int .i64 recent) ∧ w'.cell? ⟨w.heap.size, 2, none⟩ = some (.string ⟨last.toArray⟩) ∧ w'.cell? ⟨w.heap.size, 3, none⟩ = some (.bool begun) ∧ w'.cell? ⟨w.heap.size + 1, 4, none⟩ = some (.int .i64 n)) (((repeat' apply And.intro) <;> (try simp only [World.cell?_drew]) <;> first | with_reducible assumption | with_reducible exact alloc_cell (by with_reducible assumption) | with_reducible exact far4 (by with_reducible assumption) (by dsimp only; omega) | with_reducible exact far4 (far4 (by with_reducible assumption) (by dsimp only; omega)) (by dsimp only; omega))) ((go_at_call 57; refine (HC.out _).mono ?_; rintro e w1 ⟨rfl, F1⟩; have HF1 : Hid (Fr (fun _ => False) w0 w1) := Lib.hid (Fr.trans (by (repeat (with_reducible first | exact Fr.refl _ _ | exact HF1.out | refine Fr.drew ?_ | refine Fr.alloc ?_ _ | refine Fr.drewN ?_ _))) F1); clear F1; have b0x := keep1 HF1.out b0; have b1x := keep1 HF1.out b1; have b2x := keep1 HF1.out b2; have b3x := keep1 HF1.out b3; have e4x := keep1 HF1.out e4; obtain ⟨r0x, r1x, r2x, r3x, t0x, t1x, t2x, t3x, rz0x, rz1x, rz2x, rz3x, tz0x, tz1x, tz2x, tz3x⟩ := kept_rt HF1.out r0 r1 r2 r3 t0 t1 t2 t3 rz0 rz1 rz2 rz3 tz0 tz1 tz2 tz3))
  go_wp2_with fail
  obtain ⟨w8, hw8, hF8, q0, q1, q2, q3, q4, q5, q6, q7⟩ := two_end (w1 := w1) (x := w.heap.size + 1 + 1) (y := w.heap.size + 1 + 1 + 1) (by first | exact HX.out.fr.trans HF2.out | exact HX.out.fr.trans HF1.out | exact HX.out.b4.fr.trans HF1.out | exact HX.out.fr | exact HX.out.b4.fr) (by omega) (by omega) (by omega) r0x r1x r2x r3x t0x t1x t2x t3x (.string ⟨rt.toArray⟩) (.int .i64 rr) (.string ⟨rl.toArray⟩) (.bool rb) (.int .i64 0) (.string ⟨#[]⟩) (.int .i32 0) (.int .i64 0)
  have HF8 := Lib.hid hF8
  rw [← hw8]
  refine bodyPost_ret (v := .tuple #[SB.val ⟨rt, rr, rl, rb⟩, Td.val ⟨0, [], 0, 0⟩, .bool (decide (n ≤ 65536))]) (by simp [results, Tryz.results45, go_sem, SB.val, SB.cells, Td.val, Td.cells, q0, q1, q2, q3, q4, q5, q6, q7]) rfl ?_
  exact ⟨rfl, HF8.out⟩
end
end Go.Proofs.YtbodbajgpgaoeaaGreatDoor
