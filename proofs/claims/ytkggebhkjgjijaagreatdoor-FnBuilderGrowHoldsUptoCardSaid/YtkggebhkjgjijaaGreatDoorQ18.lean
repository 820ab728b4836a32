/- CallS, CallT. -/
import Derived.Test.YtkggebhkjgjijaaGreatDoorQ17
namespace Go.Proofs.YtkggebhkjgjijaaGreatDoor
open Go Go.RowKit

theorem mk_u16 (size : Nat) (hs : size ≤ 65535) (w : World) : (Instr.makeSlice 48 (.int .u16 (size : Int)) (.int .u16 (size : Int))).run Tryz.prog w = .ok (.slice (some ⟨w.heap.size, 0, none⟩) size size) (w.alloc (zrow 5 size)) := by
  obtain ⟨i0, hi, hz0, hz1, hz2⟩ := info_parts info_u8
  exact run_make_bytes Tryz.underlying48 hi hz0 hz1 hz2 .u16 .u16 size size (Nat.le_refl _) (by omega) w
theorem src_zero (w : World) (A : Option Addr) (c : Nat) : Src w (.slice A 0 c) [] := .inr ⟨A, c, rfl, fun q => absurd q (by simp)⟩

section
variable (a bb : Int) (size : Nat) (n : Int) (sign : UInt8) (char : Int) (text : List UInt8) (cuts : List Nat) (ad : Option Addr) (cap : Nat)
set_option maxHeartbeats 1600000 in
set_option maxRecDepth 100000 in
theorem read_6e (b : Nat) (g : Gh) (w : World) (h : BufAt w b g) (hsize : size ≤ 65535) (hpos : 0 < size) (ht : g.txt = []) (ea : Addr) (he : w.cell? ⟨0, 0, none⟩ = some (errV ea)) :
    Calls Tryz.prog 27 #[.pointer (some ⟨b, 0, none⟩), .agg #[.int .i64 6, .int .i64 a, .int .i64 bb, .int .u16 (size : Int), .int .i64 n, .int .u8 (sign.toNat : Int), .int .i32 char, .string ⟨text.toArray⟩, .slice ad cuts.length cap]] w (WDPost w b g ⟨0, [], 0, 1⟩ (fun g' => g' = g.rs)) := by
  have H := Lib.hid h
  have HB := Lib.hid (h.fr (((Fr.refl (fun _ => False) w).alloc _).alloc _) (fun _ _ q => q) : BufAt ((w.alloc (.cells #[.int .i64 6, .int .i64 a, .int .i64 bb, .int .u16 (size : Int), .int .i64 n, .int .u8 (sign.toNat : Int), .int .i32 char, .string ⟨text.toArray⟩, .slice ad cuts.length cap] 27)).alloc (.cells #[.int .i64 0, .string ⟨#[]⟩, .int .i32 0, .int .i64 0] 45)) b g)
  clear h
  have hB1 : BufAt (((w.alloc (.cells #[.int .i64 6, .int .i64 a, .int .i64 bb, .int .u16 (size : Int), .int .i64 n, .int .u8 (sign.toNat : Int), .int .i32 char, .string ⟨text.toArray⟩, .slice ad cuts.length cap] 27)).alloc (.cells #[.int .i64 0, .string ⟨#[]⟩, .int .i32 0, .int .i64 0] 45)).alloc (zrow 5 size)) b g := H.out.fr ((((Fr.refl (fun _ => False) w).alloc _).alloc _).alloc _) (fun _ _ q => q)
  have hR1 : Row 5 (((w.alloc (.cells #[.int .i64 6, .int .i64 a, .int .i64 bb, .int .u16 (size : Int), .int .i64 n, .int .u8 (sign.toNat : Int), .int .i32 char, .string ⟨text.toArray⟩, .slice ad cuts.length cap] 27)).alloc (.cells #[.int .i64 0, .string ⟨#[]⟩, .int .i32 0, .int .i64 0] 45)).alloc (zrow 5 size)) (w.heap.size + 1 + 1) (List.replicate size 0) := by have := Row.zrow ((w.alloc (.cells #[.int .i64 6, .int .i64 a, .int .i64 bb, .int .u16 (size : Int), .int .i64 n, .int .u8 (sign.toNat : Int), .int .i32 char, .string ⟨text.toArray⟩, .slice ad cuts.length cap] 27)).alloc (.cells #[.int .i64 0, .string ⟨#[]⟩, .int .i32 0, .int .i64 0] 45)) 5 size; simpa using this
  have hT1 : ToldAt (((w.alloc (.cells #[.int .i64 6, .int .i64 a, .int .i64 bb, .int .u16 (size : Int), .int .i64 n, .int .u8 (sign.toNat : Int), .int .i32 char, .string ⟨text.toArray⟩, .slice ad cuts.length cap] 27)).alloc (.cells #[.int .i64 0, .string ⟨#[]⟩, .int .i32 0, .int .i64 0] 45)).alloc (zrow 5 size)) (w.heap.size + 1) := (ToldAt.new2 w _).fr ((Fr.refl (fun _ => False) _).alloc _) (fun q => q)
  have hlt := H.out.lt
  have hrl : ∀ r, g.row = some r → r < w.heap.size := fun r hr => H.out.rlt hr
  have hmk := mk_u16 size hsize
  have HB1 := Lib.hid hB1
  have HR1 := Lib.hid hR1
  have HT1 := Lib.hid hT1
  have hsl := fun w' => slice_toA (some ⟨w.heap.size + 1 + 1, 0, none⟩) size size (0) (by omega) w'
  have HRL := Lib.hid hrl
  clear hB1 hR1 hT1 hrl
  have hbe : b ≠ 0 := fun q => H.out.ne_err he (.inl q.symm)
  have he0 : (((w.alloc (.cells #[.int .i64 6, .int .i64 a, .int .i64 bb, .int .u16 (size : Int), .int .i64 n, .int .u8 (sign.toNat : Int), .int .i32 char, .string ⟨text.toArray⟩, .slice ad cuts.length cap] 27)).alloc (.cells #[.int .i64 0, .string ⟨#[]⟩, .int .i32 0, .int .i64 0] 45)).alloc (zrow 5 size)).cell? ⟨0, 0, none⟩ = some (errV ea) := ((((((Fr.refl (fun _ => False) w).alloc _).alloc _).alloc _) : Fr _ w (((w.alloc (.cells #[.int .i64 6, .int .i64 a, .int .i64 bb, .int .u16 (size : Int), .int .i64 n, .int .u8 (sign.toNat : Int), .int .i32 char, .string ⟨text.toArray⟩, .slice ad cuts.length cap] 27)).alloc (.cells #[.int .i64 0, .string ⟨#[]⟩, .int .i32 0, .int .i64 0] 45)).alloc (zrow 5 size))).cell (World.block_lt_of_cell? _ _ he) (fun q => q)).trans he
  have hel : 0 < w.heap.size := World.block_lt_of_cell? _ _ he
  have HE0 := Lib.hid he0
  clear he he0
  go_enter Tryz.func27, Tryz.ntmps27
  go_wp2_with fail
  refine (buf_read_eof _ b g _ size _ ea HB1.out (H.out.txt_nil ht) hpos (by omega) HE0.out hbe).mono ?_
  rintro e w1 ⟨rfl, A1, F1⟩
  have S1 : BufStep w b g w1 (g.rs) := ⟨A1, .inl rfl, (((((Fr.refl (fun _ => False) w).alloc _).alloc _).alloc _) : Fr _ w (((w.alloc (.cells #[.int .i64 6, .int .i64 a, .int .i64 bb, .int .u16 (size : Int), .int .i64 n, .int .u8 (sign.toNat : Int), .int .i32 char, .string ⟨text.toArray⟩, .slice ad cuts.length cap] 27)).alloc (.cells #[.int .i64 0, .string ⟨#[]⟩, .int .i32 0, .int .i64 0] 45)).alloc (zrow 5 size))).mono (fun _ _ q => q.elim) |>.trans' F1 (fun x hx q => .inl q)⟩
  have hT : ToldAt w1 (w.heap.size + 1) := HT1.out.fr F1 (fun q => by have q : w.heap.size + 1 = b := q; omega)
  have he1 : w1.cell? ⟨0, 0, none⟩ = some (errV ea) := (F1.cell (World.block_lt_of_cell? _ _ HE0.out) (fun q => hbe q.symm)).trans HE0.out
  have HSRC := Lib.hid (src_zero w1 (some ⟨w.heap.size + 1 + 1, 0, none⟩) size)
  simp only [Int.cast_ofNat_Int] at hsl
  have hcs : ∀ w', Src w' (.slice (some ⟨w.heap.size + 1 + 1, 0, none⟩) (0) size) ([]) → (convert 48 9 (.slice (some ⟨w.heap.size + 1 + 1, 0, none⟩) (0) size)).run Tryz.prog w' = .ok (.string ⟨([]).toArray⟩) w' := fun w' h => conv_str h
  have t0 := hT.c0; have t1 := hT.c1; have t2 := hT.c2; have t3 := hT.c3; have z0 := hT.f 0; have z1 := hT.f 1; have z2 := hT.f 2; have z3 := hT.f 3
  have HT := Lib.hid hT
  have HS := Lib.hid S1
  clear hT S1 F1 A1
  go_wp2_with fail
  go_region_held3 (fun w' => Src w' (.slice (some ⟨w.heap.size + 1 + 1, 0, none⟩) (0) size) ([])) (first | exact HSRC.out.of_heap rfl | exact HSRC.out.told HT.out rfl _ _ _ _) ((go_at_call 40; refine (said_eof _ ea (by exact he1)).mono ?_; rintro e w2 ⟨rfl, rfl⟩))
  all_goals
    go_wp2_with fail
    refine bodyPost_ret (v := Td.val ⟨0, [], 0, 1⟩) (by simp [results, Tryz.results27, go_sem, t0, t1, t2, t3, Td.val, Td.cells]) rfl ?_
    exact ⟨_, rfl, HS.out.skip (Fr.refl _ w) (by omega) HT.out (by first | exact just4 _ _ _ _ _ _ | exact (((Fr.refl (Just _) _).drew).trans (just4 _ _ _ _ _ _))), rfl⟩
set_option maxHeartbeats 1600000 in
set_option maxRecDepth 100000 in
theorem read_6z (b : Nat) (g : Gh) (w : World) (h : BufAt w b g) (hsize : size ≤ 65535) (hpos : size = 0) (ht : g.txt = []) :
    Calls Tryz.prog 27 #[.pointer (some ⟨b, 0, none⟩), .agg #[.int .i64 6, .int .i64 a, .int .i64 bb, .int .u16 (size : Int), .int .i64 n, .int .u8 (sign.toNat : Int), .int .i32 char, .string ⟨text.toArray⟩, .slice ad cuts.length cap]] w (WDPost w b g ⟨0, [], 0, 0⟩ (fun g' => g' = g.rs)) := by
  have H := Lib.hid h
  have HB := Lib.hid (h.fr (((Fr.refl (fun _ => False) w).alloc _).alloc _) (fun _ _ q => q) : BufAt ((w.alloc (.cells #[.int .i64 6, .int .i64 a, .int .i64 bb, .int .u16 (size : Int), .int .i64 n, .int .u8 (sign.toNat : Int), .int .i32 char, .string ⟨text.toArray⟩, .slice ad cuts.length cap] 27)).alloc (.cells #[.int .i64 0, .string ⟨#[]⟩, .int .i32 0, .int .i64 0] 45)) b g)
  clear h
  have hB1 : BufAt (((w.alloc (.cells #[.int .i64 6, .int .i64 a, .int .i64 bb, .int .u16 (size : Int), .int .i64 n, .int .u8 (sign.toNat : Int), .int .i32 char, .string ⟨text.toArray⟩, .slice ad cuts.length cap] 27)).alloc (.cells #[.int .i64 0, .string ⟨#[]⟩, .int .i32 0, .int .i64 0] 45)).alloc (zrow 5 size)) b g := H.out.fr ((((Fr.refl (fun _ => False) w).alloc _).alloc _).alloc _) (fun _ _ q => q)
  have hR1 : Row 5 (((w.alloc (.cells #[.int .i64 6, .int .i64 a, .int .i64 bb, .int .u16 (size : Int), .int .i64 n, .int .u8 (sign.toNat : Int), .int .i32 char, .string ⟨text.toArray⟩, .slice ad cuts.length cap] 27)).alloc (.cells #[.int .i64 0, .string ⟨#[]⟩, .int .i32 0, .int .i64 0] 45)).alloc (zrow 5 size)) (w.heap.size + 1 + 1) (List.replicate size 0) := by have := Row.zrow ((w.alloc (.cells #[.int .i64 6, .int .i64 a, .int .i64 bb, .int .u16 (size : Int), .int .i64 n, .int .u8 (sign.toNat : Int), .int .i32 char, .string ⟨text.toArray⟩, .slice ad cuts.length cap] 27)).alloc (.cells #[.int .i64 0, .string ⟨#[]⟩, .int .i32 0, .int .i64 0] 45)) 5 size; simpa using this
  have hT1 : ToldAt (((w.alloc (.cells #[.int .i64 6, .int .i64 a, .int .i64 bb, .int .u16 (size : Int), .int .i64 n, .int .u8 (sign.toNat : Int), .int .i32 char, .string ⟨text.toArray⟩, .slice ad cuts.length cap] 27)).alloc (.cells #[.int .i64 0, .string ⟨#[]⟩, .int .i32 0, .int .i64 0] 45)).alloc (zrow 5 size)) (w.heap.size + 1) := (ToldAt.new2 w _).fr ((Fr.refl (fun _ => False) _).alloc _) (fun q => q)
  have hlt := H.out.lt
  have hrl : ∀ r, g.row = some r → r < w.heap.size := fun r hr => H.out.rlt hr
  have HP := Lib.hid hpos
  clear hpos
  have hmk := mk_u16 size hsize
  have HB1 := Lib.hid hB1
  have HR1 := Lib.hid hR1
  have HT1 := Lib.hid hT1
  have hsl := fun w' => slice_toA (some ⟨w.heap.size + 1 + 1, 0, none⟩) size size (0) (by omega) w'
  have HRL := Lib.hid hrl
  clear hB1 hR1 hT1 hrl
  go_enter Tryz.func27, Tryz.ntmps27
  go_wp2_with fail
  refine (buf_read_nil _ b g _ size _ HP.out HB1.out (H.out.txt_nil ht)).mono ?_
  rintro e w1 ⟨rfl, A1, F1⟩
  have S1 : BufStep w b g w1 (g.rs) := ⟨A1, .inl rfl, (((((Fr.refl (fun _ => False) w).alloc _).alloc _).alloc _) : Fr _ w (((w.alloc (.cells #[.int .i64 6, .int .i64 a, .int .i64 bb, .int .u16 (size : Int), .int .i64 n, .int .u8 (sign.toNat : Int), .int .i32 char, .string ⟨text.toArray⟩, .slice ad cuts.length cap] 27)).alloc (.cells #[.int .i64 0, .string ⟨#[]⟩, .int .i32 0, .int .i64 0] 45)).alloc (zrow 5 size))).mono (fun _ _ q => q.elim) |>.trans' F1 (fun x hx q => .inl q)⟩
  have hT : ToldAt w1 (w.heap.size + 1) := HT1.out.fr F1 (fun q => by have q : w.heap.size + 1 = b := q; omega)
  have HSRC := Lib.hid (src_zero w1 (some ⟨w.heap.size + 1 + 1, 0, none⟩) size)
  simp only [Int.cast_ofNat_Int] at hsl
  have hcs : ∀ w', Src w' (.slice (some ⟨w.heap.size + 1 + 1, 0, none⟩) (0) size) ([]) → (convert 48 9 (.slice (some ⟨w.heap.size + 1 + 1, 0, none⟩) (0) size)).run Tryz.prog w' = .ok (.string ⟨([]).toArray⟩) w' := fun w' h => conv_str h
  have t0 := hT.c0; have t1 := hT.c1; have t2 := hT.c2; have t3 := hT.c3; have z0 := hT.f 0; have z1 := hT.f 1; have z2 := hT.f 2; have z3 := hT.f 3
  have HT := Lib.hid hT
  have HS := Lib.hid S1
  clear hT S1 F1 A1
  go_wp2_with fail
  go_region_held3 (fun w' => Src w' (.slice (some ⟨w.heap.size + 1 + 1, 0, none⟩) (0) size) ([])) (first | exact HSRC.out.of_heap rfl | exact HSRC.out.told HT.out rfl _ _ _ _) ((go_at_call 40; refine (said_nil _).mono ?_; rintro e w2 ⟨rfl, rfl⟩))
  all_goals
    go_wp2_with fail
    refine bodyPost_ret (v := Td.val ⟨0, [], 0, 0⟩) (by simp [results, Tryz.results27, go_sem, t0, t1, t2, t3, Td.val, Td.cells]) rfl ?_
    exact ⟨_, rfl, HS.out.skip (Fr.refl _ w) (by omega) HT.out (by first | exact just4 _ _ _ _ _ _ | exact (((Fr.refl (Just _) _).drew).trans (just4 _ _ _ _ _ _))), rfl⟩
set_option maxHeartbeats 1600000 in
set_option maxRecDepth 100000 in
theorem read_6 (b : Nat) (g : Gh) (w : World) (h : BufAt w b g) (hsize : size ≤ 65535) (k : Nat) (hk : k = min g.txt.length size) (ht : g.txt ≠ []) :
    Calls Tryz.prog 27 #[.pointer (some ⟨b, 0, none⟩), .agg #[.int .i64 6, .int .i64 a, .int .i64 bb, .int .u16 (size : Int), .int .i64 n, .int .u8 (sign.toNat : Int), .int .i32 char, .string ⟨text.toArray⟩, .slice ad cuts.length cap]] w (WDPost w b g ⟨k, g.txt.take size, 0, 0⟩ (fun g' => g' = g.rd k)) := by
  have H := Lib.hid h
  have HB := Lib.hid (h.fr (((Fr.refl (fun _ => False) w).alloc _).alloc _) (fun _ _ q => q) : BufAt ((w.alloc (.cells #[.int .i64 6, .int .i64 a, .int .i64 bb, .int .u16 (size : Int), .int .i64 n, .int .u8 (sign.toNat : Int), .int .i32 char, .string ⟨text.toArray⟩, .slice ad cuts.length cap] 27)).alloc (.cells #[.int .i64 0, .string ⟨#[]⟩, .int .i32 0, .int .i64 0] 45)) b g)
  clear h
  have hB1 : BufAt (((w.alloc (.cells #[.int .i64 6, .int .i64 a, .int .i64 bb, .int .u16 (size : Int), .int .i64 n, .int .u8 (sign.toNat : Int), .int .i32 char, .string ⟨text.toArray⟩, .slice ad cuts.length cap] 27)).alloc (.cells #[.int .i64 0, .string ⟨#[]⟩, .int .i32 0, .int .i64 0] 45)).alloc (zrow 5 size)) b g := H.out.fr ((((Fr.refl (fun _ => False) w).alloc _).alloc _).alloc _) (fun _ _ q => q)
  have hR1 : Row 5 (((w.alloc (.cells #[.int .i64 6, .int .i64 a, .int .i64 bb, .int .u16 (size : Int), .int .i64 n, .int .u8 (sign.toNat : Int), .int .i32 char, .string ⟨text.toArray⟩, .slice ad cuts.length cap] 27)).alloc (.cells #[.int .i64 0, .string ⟨#[]⟩, .int .i32 0, .int .i64 0] 45)).alloc (zrow 5 size)) (w.heap.size + 1 + 1) (List.replicate size 0) := by have := Row.zrow ((w.alloc (.cells #[.int .i64 6, .int .i64 a, .int .i64 bb, .int .u16 (size : Int), .int .i64 n, .int .u8 (sign.toNat : Int), .int .i32 char, .string ⟨text.toArray⟩, .slice ad cuts.length cap] 27)).alloc (.cells #[.int .i64 0, .string ⟨#[]⟩, .int .i32 0, .int .i64 0] 45)) 5 size; simpa using this
  have hT1 : ToldAt (((w.alloc (.cells #[.int .i64 6, .int .i64 a, .int .i64 bb, .int .u16 (size : Int), .int .i64 n, .int .u8 (sign.toNat : Int), .int .i32 char, .string ⟨text.toArray⟩, .slice ad cuts.length cap] 27)).alloc (.cells #[.int .i64 0, .string ⟨#[]⟩, .int .i32 0, .int .i64 0] 45)).alloc (zrow 5 size)) (w.heap.size + 1) := (ToldAt.new2 w _).fr ((Fr.refl (fun _ => False) _).alloc _) (fun q => q)
  have hlt := H.out.lt
  have hrl : ∀ r, g.row = some r → r < w.heap.size := fun r hr => H.out.rlt hr
  have hmk := mk_u16 size hsize
  have HB1 := Lib.hid hB1
  have HR1 := Lib.hid hR1
  have HT1 := Lib.hid hT1
  have hsl := fun w' => slice_toA (some ⟨w.heap.size + 1 + 1, 0, none⟩) size size (k) (by omega) w'
  have HRL := Lib.hid hrl
  clear hB1 hR1 hT1 hrl
  go_enter Tryz.func27, Tryz.ntmps27
  go_wp2_with fail
  refine (buf_read_some _ b g (w.heap.size + 1 + 1) 0 size _ (List.replicate size 0) _ HB1.out (H.out.txt_pos ht) HR1.out (fun _ => rfl) (by simp) (fun q => by have := HRL.out _ q; omega)).mono ?_
  rintro e w1 ⟨rfl, A1, R1, F1⟩
  rw [← hk] at A1
  have S1 : BufStep w b g w1 (g.rd k) := ⟨A1, .inl rfl, (((((Fr.refl (fun _ => False) w).alloc _).alloc _).alloc _) : Fr _ w (((w.alloc (.cells #[.int .i64 6, .int .i64 a, .int .i64 bb, .int .u16 (size : Int), .int .i64 n, .int .u8 (sign.toNat : Int), .int .i32 char, .string ⟨text.toArray⟩, .slice ad cuts.length cap] 27)).alloc (.cells #[.int .i64 0, .string ⟨#[]⟩, .int .i32 0, .int .i64 0] 45)).alloc (zrow 5 size))).mono (fun _ _ q => q.elim) |>.trans' F1 (fun x hx q => q.elim (fun q => .inl q) (fun q => by omega))⟩
  have hT : ToldAt w1 (w.heap.size + 1) := HT1.out.fr F1 (fun q => by rcases q with q | q <;> omega)
  have hsrc : Src w1 (.slice (some ⟨w.heap.size + 1 + 1, 0, none⟩) k size) (g.txt.take size) := by
    have hl : (g.txt.take size).length = k := by rw [List.length_take, hk, Nat.min_comm]
    have h2 := src_head (c := size) (l := g.txt.take size) R1 (by simp [splice]) (by rw [length_splice _ _ _ (by rw [hl]; simp; omega)]; rw [hl]; simp; omega)
    rw [hl] at h2
    exact h2
  have HSRC := Lib.hid hsrc
  have HK := Lib.hid hk
  have hki : (k : Int) ≤ (size : Int) := by omega
  have hk0 : (0 : Int) ≤ (k : Int) := by omega
  have hkk : min g.txt.length size = k := hk.symm
  rw [hkk]
  clear hk hsrc R1 hkk
  have hcs : ∀ w', Src w' (.slice (some ⟨w.heap.size + 1 + 1, 0, none⟩) (k) size) (g.txt.take size) → (convert 48 9 (.slice (some ⟨w.heap.size + 1 + 1, 0, none⟩) (k) size)).run Tryz.prog w' = .ok (.string ⟨(g.txt.take size).toArray⟩) w' := fun w' h => conv_str h
  have t0 := hT.c0; have t1 := hT.c1; have t2 := hT.c2; have t3 := hT.c3; have z0 := hT.f 0; have z1 := hT.f 1; have z2 := hT.f 2; have z3 := hT.f 3
  have HT := Lib.hid hT
  have HS := Lib.hid S1
  clear hT S1 F1 A1
  go_wp2_with fail
  go_region_held3 (fun w' => Src w' (.slice (some ⟨w.heap.size + 1 + 1, 0, none⟩) (k) size) (g.txt.take size)) (first | exact HSRC.out.of_heap rfl | exact HSRC.out.told HT.out rfl _ _ _ _) ((go_at_call 40; refine (said_nil _).mono ?_; rintro e w2 ⟨rfl, rfl⟩))
  all_goals
    go_wp2_with fail
    refine bodyPost_ret (v := Td.val ⟨k, g.txt.take size, 0, 0⟩) (by simp [results, Tryz.results27, go_sem, t0, t1, t2, t3, Td.val, Td.cells]) rfl ?_
    exact ⟨_, rfl, HS.out.skip (Fr.refl _ w) (by omega) HT.out (by first | exact just4 _ _ _ _ _ _ | exact (((Fr.refl (Just _) _).drew).trans (just4 _ _ _ _ _ _))), rfl⟩
end
end Go.Proofs.YtkggebhkjgjijaaGreatDoor

namespace Go.Proofs.YtkggebhkjgjijaaGreatDoor
open Go Go.RowKit

section
variable (a bb : Int) (size : Nat) (n : Int) (sign : UInt8) (char : Int) (text : List UInt8) (cuts : List Nat) (ad : Option Addr) (cap : Nat)
set_option maxHeartbeats 1600000 in
set_option maxRecDepth 100000 in
theorem read_14 (b : Nat) (g : Gh) (w : World) (h : BufAt w b g) (m : Nat) (hm : g.off + m = g.len) (hle : size ≤ m) (hsize : size ≤ 65535) :
    Calls Tryz.prog 27 #[.pointer (some ⟨b, 0, none⟩), .agg #[.int .i64 14, .int .i64 a, .int .i64 bb, .int .u16 (size : Int), .int .i64 n, .int .u8 (sign.toNat : Int), .int .i32 char, .string ⟨text.toArray⟩, .slice ad cuts.length cap]] w (WDPost w b g ⟨0, g.txt.take size, 0, 0⟩ (fun g' => g' = g)) := by
  have H := Lib.hid h
  have HB := Lib.hid (h.fr (((Fr.refl (fun _ => False) w).alloc _).alloc _) (fun _ _ q => q) : BufAt ((w.alloc (.cells #[.int .i64 14, .int .i64 a, .int .i64 bb, .int .u16 (size : Int), .int .i64 n, .int .u8 (sign.toNat : Int), .int .i32 char, .string ⟨text.toArray⟩, .slice ad cuts.length cap] 27)).alloc (.cells #[.int .i64 0, .string ⟨#[]⟩, .int .i32 0, .int .i64 0] 45)) b g)
  clear h
  have hcv : IntKind.i64.wrap (size : Int) = (size : Int) := IntWalk.i64_in _ (by omega)
  go_enter Tryz.func27, Tryz.ntmps27
  go_wp2_with fail
  refine (buf_peek _ b g size m HB.out hm hle).mono ?_
  rintro e w1 ⟨rfl, A1, F1⟩
  have S1 : BufStep ((w.alloc (.cells #[.int .i64 14, .int .i64 a, .int .i64 bb, .int .u16 (size : Int), .int .i64 n, .int .u8 (sign.toNat : Int), .int .i32 char, .string ⟨text.toArray⟩, .slice ad cuts.length cap] 27)).alloc (.cells #[.int .i64 0, .string ⟨#[]⟩, .int .i32 0, .int .i64 0] 45)) b g w1 g := BufStep.of_none HB.out F1
  have hT : ToldAt w1 (w.heap.size + 1) := S1.told HB.out (ToldAt.new2 w _)
  have t0 := hT.c0; have t1 := hT.c1; have t2 := hT.c2; have t3 := hT.c3; have z0 := hT.f 0; have z1 := hT.f 1; have z2 := hT.f 2; have z3 := hT.f 3
  have HT := Lib.hid hT
  clear hT
  have HS := Lib.hid S1
  have HSRC := Lib.hid (Src.first A1 size (g.all.length - g.off) (by omega))
  clear S1 F1 A1
  have hcs : ∀ w', Src w' (.slice (cutA g.row g.off g.all.length) size (g.all.length - g.off)) (g.txt.take size) → (convert 48 9 (.slice (cutA g.row g.off g.all.length) size (g.all.length - g.off))).run Tryz.prog w' = .ok (.string ⟨(g.txt.take size).toArray⟩) w' := fun w' h => conv_str h
  go_wp2_with fail
  go_region_held3 (fun w' => Src w' (.slice (cutA g.row g.off g.all.length) size (g.all.length - g.off)) (g.txt.take size)) (first | exact HSRC.out.of_heap rfl | exact HSRC.out.told HT.out rfl _ _ _ _) ((go_at_call 40; refine (said_nil _).mono ?_; rintro e w2 ⟨rfl, rfl⟩))
  all_goals
    go_wp2_with fail
    refine bodyPost_ret (v := Td.val ⟨0, g.txt.take size, 0, 0⟩) (by simp [results, Tryz.results27, go_sem, t0, t1, t2, t3, Td.val, Td.cells]) rfl ?_
    exact ⟨_, rfl, HS.out.skip (((Fr.refl (fun _ => False) w).alloc _).alloc _) (by omega) HT.out (by first | exact just4 _ _ _ _ _ _ | exact (((Fr.refl (Just _) _).drew).trans (just4 _ _ _ _ _ _))), rfl⟩
set_option maxHeartbeats 1600000 in
set_option maxRecDepth 100000 in
theorem read_12n (b : Nat) (g : Gh) (w : World) (h : BufAt w b g) (ea : Addr) (ca : Array Value) (ta : TypeId) (he : w.cell? ⟨0, 0, none⟩ = some (errV ea)) (hba : w.heap[ea.block]? = some (.cells ca ta (0, 0))) (eu : Addr) (cu : Array Value) (tu : TypeId) (hu : w.cell? ⟨1, 0, none⟩ = some (errV eu)) (hbu : w.heap[eu.block]? = some (.cells cu tu (0, 0))) (hne : eu ≠ ea) (hlr : g.lr = 0) :
    Calls Tryz.prog 27 #[.pointer (some ⟨b, 0, none⟩), .agg #[.int .i64 12, .int .i64 a, .int .i64 bb, .int .u16 (size : Int), .int .i64 n, .int .u8 (sign.toNat : Int), .int .i32 char, .string ⟨text.toArray⟩, .slice ad cuts.length cap]] w (WDPost w b g ⟨0, [], 0, 2⟩ (fun g' => g' = g)) := by
  have H := Lib.hid h
  have HB := Lib.hid (h.fr (((Fr.refl (fun _ => False) w).alloc _).alloc _) (fun _ _ q => q) : BufAt ((w.alloc (.cells #[.int .i64 12, .int .i64 a, .int .i64 bb, .int .u16 (size : Int), .int .i64 n, .int .u8 (sign.toNat : Int), .int .i32 char, .string ⟨text.toArray⟩, .slice ad cuts.length cap] 27)).alloc (.cells #[.int .i64 0, .string ⟨#[]⟩, .int .i32 0, .int .i64 0] 45)) b g)
  clear h
  have he0 : ((w.alloc (.cells #[.int .i64 12, .int .i64 a, .int .i64 bb, .int .u16 (size : Int), .int .i64 n, .int .u8 (sign.toNat : Int), .int .i32 char, .string ⟨text.toArray⟩, .slice ad cuts.length cap] 27)).alloc (.cells #[.int .i64 0, .string ⟨#[]⟩, .int .i32 0, .int .i64 0] 45)).cell? ⟨0, 0, none⟩ = some (errV ea) := (((((Fr.refl (fun _ => False) w).alloc _).alloc _) : Fr _ w ((w.alloc (.cells #[.int .i64 12, .int .i64 a, .int .i64 bb, .int .u16 (size : Int), .int .i64 n, .int .u8 (sign.toNat : Int), .int .i32 char, .string ⟨text.toArray⟩, .slice ad cuts.length cap] 27)).alloc (.cells #[.int .i64 0, .string ⟨#[]⟩, .int .i32 0, .int .i64 0] 45))).cell (World.block_lt_of_cell? _ _ he) (fun q => q)).trans he
  have hba0 := ((((Fr.refl (fun _ => False) w).alloc _).alloc _) : Fr _ w ((w.alloc (.cells #[.int .i64 12, .int .i64 a, .int .i64 bb, .int .u16 (size : Int), .int .i64 n, .int .u8 (sign.toNat : Int), .int .i32 char, .string ⟨text.toArray⟩, .slice ad cuts.length cap] 27)).alloc (.cells #[.int .i64 0, .string ⟨#[]⟩, .int .i32 0, .int .i64 0] 45))).blk hba (fun q => q)
  have HE0 := Lib.hid he0
  have HA0 := Lib.hid hba0
  have hal : ea.block < w.heap.size := lt_of_blk hba
  clear he he0 hba hba0
  have hu0 : ((w.alloc (.cells #[.int .i64 12, .int .i64 a, .int .i64 bb, .int .u16 (size : Int), .int .i64 n, .int .u8 (sign.toNat : Int), .int .i32 char, .string ⟨text.toArray⟩, .slice ad cuts.length cap] 27)).alloc (.cells #[.int .i64 0, .string ⟨#[]⟩, .int .i32 0, .int .i64 0] 45)).cell? ⟨1, 0, none⟩ = some (errV eu) := (((((Fr.refl (fun _ => False) w).alloc _).alloc _) : Fr _ w ((w.alloc (.cells #[.int .i64 12, .int .i64 a, .int .i64 bb, .int .u16 (size : Int), .int .i64 n, .int .u8 (sign.toNat : Int), .int .i32 char, .string ⟨text.toArray⟩, .slice ad cuts.length cap] 27)).alloc (.cells #[.int .i64 0, .string ⟨#[]⟩, .int .i32 0, .int .i64 0] 45))).cell (World.block_lt_of_cell? _ _ hu) (fun q => q)).trans hu
  have hbu0 := ((((Fr.refl (fun _ => False) w).alloc _).alloc _) : Fr _ w ((w.alloc (.cells #[.int .i64 12, .int .i64 a, .int .i64 bb, .int .u16 (size : Int), .int .i64 n, .int .u8 (sign.toNat : Int), .int .i32 char, .string ⟨text.toArray⟩, .slice ad cuts.length cap] 27)).alloc (.cells #[.int .i64 0, .string ⟨#[]⟩, .int .i32 0, .int .i64 0] 45))).blk hbu (fun q => q)
  have HU0 := Lib.hid hu0
  have HBU := Lib.hid hbu0
  clear hu hu0 hbu hbu0
  go_enter Tryz.func27, Tryz.ntmps27
  go_wp2_with fail
  refine (buf_unreadByte_no _ b g eu HB.out hlr HU0.out).mono ?_
  rintro e w1 ⟨rfl, hw⟩
  have hT : ToldAt w1 (w.heap.size + 1) := by rw [hw]; exact ToldAt.new2 w _
  have HS := Lib.hid (show BufStep ((w.alloc (.cells #[.int .i64 12, .int .i64 a, .int .i64 bb, .int .u16 (size : Int), .int .i64 n, .int .u8 (sign.toNat : Int), .int .i32 char, .string ⟨text.toArray⟩, .slice ad cuts.length cap] 27)).alloc (.cells #[.int .i64 0, .string ⟨#[]⟩, .int .i32 0, .int .i64 0] 45)) b g w1 g by rw [hw]; exact BufStep.refl HB.out)
  have HE1 := Lib.hid (show w1.cell? ⟨0, 0, none⟩ = some (errV ea) by rw [hw]; exact HE0.out)
  have HA1 := Lib.hid (show w1.heap[ea.block]? = some (.cells ca ta (0, 0)) by rw [hw]; exact HA0.out)
  have HU1 := Lib.hid (show w1.heap[eu.block]? = some (.cells cu tu (0, 0)) by rw [hw]; exact HBU.out)
  clear hw
  have t0 := hT.c0; have t1 := hT.c1; have t2 := hT.c2; have t3 := hT.c3; have z0 := hT.f 0; have z1 := hT.f 1; have z2 := hT.f 2; have z3 := hT.f 3
  have HT := Lib.hid hT
  clear hT
  go_wp2_with fail
  refine (said_other _ eu ea cu ca tu ta HE1.out hne HU1.out HA1.out).mono ?_
  rintro e w2 ⟨rfl, rfl⟩
  go_wp2_with fail
  refine bodyPost_ret (v := Td.val ⟨0, [], 0, 2⟩) (by simp [results, Tryz.results27, go_sem, t0, t1, t2, t3, Td.val, Td.cells]) rfl ?_
  exact ⟨_, rfl, HS.out.skip (((Fr.refl (fun _ => False) w).alloc _).alloc _) (by omega) HT.out (just4 _ _ _ _ _ _), rfl⟩
set_option maxHeartbeats 1600000 in
set_option maxRecDepth 100000 in
theorem read_13n (b : Nat) (g : Gh) (w : World) (h : BufAt w b g) (ea : Addr) (ca : Array Value) (ta : TypeId) (he : w.cell? ⟨0, 0, none⟩ = some (errV ea)) (hba : w.heap[ea.block]? = some (.cells ca ta (0, 0))) (hlr : g.lr ≤ 0) :
    Calls Tryz.prog 27 #[.pointer (some ⟨b, 0, none⟩), .agg #[.int .i64 13, .int .i64 a, .int .i64 bb, .int .u16 (size : Int), .int .i64 n, .int .u8 (sign.toNat : Int), .int .i32 char, .string ⟨text.toArray⟩, .slice ad cuts.length cap]] w (WDPost w b g ⟨0, [], 0, 2⟩ (fun g' => g' = g)) := by
  have H := Lib.hid h
  have HB := Lib.hid (h.fr (((Fr.refl (fun _ => False) w).alloc _).alloc _) (fun _ _ q => q) : BufAt ((w.alloc (.cells #[.int .i64 13, .int .i64 a, .int .i64 bb, .int .u16 (size : Int), .int .i64 n, .int .u8 (sign.toNat : Int), .int .i32 char, .string ⟨text.toArray⟩, .slice ad cuts.length cap] 27)).alloc (.cells #[.int .i64 0, .string ⟨#[]⟩, .int .i32 0, .int .i64 0] 45)) b g)
  clear h
  have he0 : ((w.alloc (.cells #[.int .i64 13, .int .i64 a, .int .i64 bb, .int .u16 (size : Int), .int .i64 n, .int .u8 (sign.toNat : Int), .int .i32 char, .string ⟨text.toArray⟩, .slice ad cuts.length cap] 27)).alloc (.cells #[.int .i64 0, .string ⟨#[]⟩, .int .i32 0, .int .i64 0] 45)).cell? ⟨0, 0, none⟩ = some (errV ea) := (((((Fr.refl (fun _ => False) w).alloc _).alloc _) : Fr _ w ((w.alloc (.cells #[.int .i64 13, .int .i64 a, .int .i64 bb, .int .u16 (size : Int), .int .i64 n, .int .u8 (sign.toNat : Int), .int .i32 char, .string ⟨text.toArray⟩, .slice ad cuts.length cap] 27)).alloc (.cells #[.int .i64 0, .string ⟨#[]⟩, .int .i32 0, .int .i64 0] 45))).cell (World.block_lt_of_cell? _ _ he) (fun q => q)).trans he
  have hba0 := ((((Fr.refl (fun _ => False) w).alloc _).alloc _) : Fr _ w ((w.alloc (.cells #[.int .i64 13, .int .i64 a, .int .i64 bb, .int .u16 (size : Int), .int .i64 n, .int .u8 (sign.toNat : Int), .int .i32 char, .string ⟨text.toArray⟩, .slice ad cuts.length cap] 27)).alloc (.cells #[.int .i64 0, .string ⟨#[]⟩, .int .i32 0, .int .i64 0] 45))).blk hba (fun q => q)
  have HE0 := Lib.hid he0
  have HA0 := Lib.hid hba0
  have hal : ea.block < w.heap.size := lt_of_blk hba
  clear he he0 hba hba0
  go_enter Tryz.func27, Tryz.ntmps27
  go_wp2_with fail
  refine (buf_unreadRune_no _ b g HB.out hlr).mono ?_
  rintro e w1 ⟨s, rfl, hw⟩
  have hF1 : Fr (fun _ => False) ((w.alloc (.cells #[.int .i64 13, .int .i64 a, .int .i64 bb, .int .u16 (size : Int), .int .i64 n, .int .u8 (sign.toNat : Int), .int .i32 char, .string ⟨text.toArray⟩, .slice ad cuts.length cap] 27)).alloc (.cells #[.int .i64 0, .string ⟨#[]⟩, .int .i32 0, .int .i64 0] 45)) w1 := by rw [hw]; exact (Fr.refl _ _).alloc _
  have hT : ToldAt w1 (w.heap.size + 1) := (ToldAt.new2 w _).fr hF1 (fun q => q)
  have HS := Lib.hid (BufStep.of_none HB.out hF1)
  have HE1 := Lib.hid ((hF1.cell (World.block_lt_of_cell? _ _ HE0.out) (fun q => q)).trans HE0.out)
  have HA1 := Lib.hid (hF1.blk HA0.out (fun q => q))
  have hsz : ((w.alloc (.cells #[.int .i64 13, .int .i64 a, .int .i64 bb, .int .u16 (size : Int), .int .i64 n, .int .u8 (sign.toNat : Int), .int .i32 char, .string ⟨text.toArray⟩, .slice ad cuts.length cap] 27)).alloc (.cells #[.int .i64 0, .string ⟨#[]⟩, .int .i32 0, .int .i64 0] 45)).heap.size = w.heap.size + 1 + 1 := by simp
  rw [hsz]
  have HN1 := Lib.hid (show w1.heap[w.heap.size + 1 + 1]? = some (.cells #[.string s] 147 (0, 0)) by rw [hw, ← hsz]; exact heap_alloc_new _ _)
  clear hF1 hw hsz
  have t0 := hT.c0; have t1 := hT.c1; have t2 := hT.c2; have t3 := hT.c3; have z0 := hT.f 0; have z1 := hT.f 1; have z2 := hT.f 2; have z3 := hT.f 3
  have HT := Lib.hid hT
  clear hT
  go_wp2_with fail
  refine (said_other _ ⟨w.heap.size + 1 + 1, 0, none⟩ ea _ ca _ ta HE1.out (fun q => by have := congrArg Addr.block q; simp only at this; omega) HN1.out HA1.out).mono ?_
  rintro e w2 ⟨rfl, rfl⟩
  go_wp2_with fail
  refine bodyPost_ret (v := Td.val ⟨0, [], 0, 2⟩) (by simp [results, Tryz.results27, go_sem, t0, t1, t2, t3, Td.val, Td.cells]) rfl ?_
  exact ⟨_, rfl, HS.out.skip (((Fr.refl (fun _ => False) w).alloc _).alloc _) (by omega) HT.out (just4 _ _ _ _ _ _), rfl⟩
end
end Go.Proofs.YtkggebhkjgjijaaGreatDoor
