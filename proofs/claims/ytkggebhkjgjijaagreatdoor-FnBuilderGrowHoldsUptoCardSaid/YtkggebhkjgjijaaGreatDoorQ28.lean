/- SpecP. -/
import Derived.Test.YtkggebhkjgjijaaGreatDoorQ27
namespace Go.Proofs.YtkggebhkjgjijaaGreatDoor
open Go Go.RowKit

def PutPost (w : World) (s : List UInt8) (t : Td) (ok : Bool) (e : Ending) (w' : World) : Prop :=
  e = .returned (.tuple #[.string ⟨s.toArray⟩, t.val, .bool ok]) ∧ Fr (fun _ => False) w w'
/-- A told that has been written into its own new block. -/
theorem fr_told {w w0 w' : World} {x : Nat} (h0 : Fr (fun _ => False) w w0) (_hx : w.heap.size ≤ x) (h1 : Fr (Just x) w0 w') : Fr (fun _ => False) w w' :=
  h0.trans' h1 (fun z hz q => by have q : z = x := q; omega)
theorem conv_sign (w : World) (x : UInt8) : (convert 48 9 (.slice (some ⟨w.heap.size, 0, none⟩) 1 1)).run Tryz.prog (w.alloc (.cells #[.int .u8 (x.toNat : Int)] 5)) = .ok (.string ⟨[x].toArray⟩) (w.alloc (.cells #[.int .u8 (x.toNat : Int)] 5)) := by
  have h : Src (w.alloc (.cells #[.int .u8 (x.toNat : Int)] 5)) (.slice (some ⟨w.heap.size, 0, none⟩) 1 1) [x] := by
    have := Src.of_row (o := 0) (n := 1) (c := 1) (A := some ⟨w.heap.size, 0, none⟩) (Row.new w 5 [x]) (fun _ => rfl) (by simp)
    simpa [bcs] using this
  exact conv_str h
theorem enc_len (r : Int) : (enc r).length ≤ 4 := by
  unfold enc
  split
  · simp
  · rw [Lib.encodeRune, List.length_map]; exact (Lib.encodeRuneZ_length r).2
section
variable (a bb : Int) (size : Nat) (n : Int) (sign : UInt8) (char : Int) (text : List UInt8) (cuts : List Nat) (ad : Option Addr) (cap : Nat)

set_option maxHeartbeats 800000 in
set_option maxRecDepth 100000 in
theorem spp_28 (s : List UInt8) (w : World) (_hl : s.length + text.length + 8 ≤ 1099511627776) :
    Calls Tryz.prog 17 #[.string ⟨s.toArray⟩, .agg #[.int .i64 28, .int .i64 a, .int .i64 bb, .int .u16 (size : Int), .int .i64 n, .int .u8 (sign.toNat : Int), .int .i32 char, .string ⟨text.toArray⟩, .slice ad cuts.length cap]] w (PutPost w (s ++ text) ⟨text.length, [], 0, 0⟩ true) := by
  obtain ⟨w0, hw0⟩ : ∃ w0, w0 = ((w.alloc (.cells #[.int .i64 28, .int .i64 a, .int .i64 bb, .int .u16 (size : Int), .int .i64 n, .int .u8 (sign.toNat : Int), .int .i32 char, .string ⟨text.toArray⟩, .slice ad cuts.length cap] 27)).alloc (.cells #[.int .i64 0, .string ⟨#[]⟩, .int .i32 0, .int .i64 0] 45)) := ⟨_, rfl⟩
  have hF0 : Fr (fun _ => False) w w0 := by rw [hw0]; exact (((Fr.refl (fun _ => False) w).alloc _).alloc _)
  have e0 : w0.cell? ⟨w.heap.size, 0, none⟩ = some (.int .i64 28) := by rw [hw0]; simp
  have e1 : w0.cell? ⟨w.heap.size, 1, none⟩ = some (.int .i64 a) := by rw [hw0]; simp
  have e2 : w0.cell? ⟨w.heap.size, 2, none⟩ = some (.int .i64 bb) := by rw [hw0]; simp
  have e3 : w0.cell? ⟨w.heap.size, 3, none⟩ = some (.int .u16 (size : Int)) := by rw [hw0]; simp
  have e4 : w0.cell? ⟨w.heap.size, 4, none⟩ = some (.int .i64 n) := by rw [hw0]; simp
  have e5 : w0.cell? ⟨w.heap.size, 5, none⟩ = some (.int .u8 (sign.toNat : Int)) := by rw [hw0]; simp
  have e6 : w0.cell? ⟨w.heap.size, 6, none⟩ = some (.int .i32 char) := by rw [hw0]; simp
  have e7 : w0.cell? ⟨w.heap.size, 7, none⟩ = some (.string ⟨text.toArray⟩) := by rw [hw0]; simp
  have e8 : w0.cell? ⟨w.heap.size, 8, none⟩ = some (.slice ad cuts.length cap) := by rw [hw0]; simp
  have hT : ToldAt w0 (w.heap.size + 1) := by rw [hw0]; exact ToldAt.new2 w _
  have hlt : w.heap.size < w0.heap.size := World.block_lt_of_cell? _ _ e0
  have t0 := hT.c0; have t1 := hT.c1; have t2 := hT.c2; have t3 := hT.c3; have z0 := hT.f 0; have z1 := hT.f 1; have z2 := hT.f 2; have z3 := hT.f 3
  have HT := Lib.hid hT
  have HF0 := Lib.hid hF0
  have HW0 := Lib.hid hw0
  have hap := bytes_appL s text
  have hlim : ¬ (9223372036854775807 < s.length + text.length) := by omega
  clear hw0 hF0 hT
  go_enter Tryz.func17, Tryz.ntmps17
  go_wp2_with fail
  rw [← HW0.out]
  go_region_held3 (fun w' => w'.cell? ⟨w.heap.size, 7, none⟩ = some (.string ⟨text.toArray⟩)) (go_keep) (fail)
  go_wp2_with fail
  refine bodyPost_ret (v := .tuple #[.string ⟨((s ++ text)).toArray⟩, Td.val ⟨text.length, [], 0, 0⟩, .bool true]) (by simp [results, Tryz.results17, go_sem, t0, t1, t2, t3, Td.val, Td.cells]) rfl ?_
  exact ⟨rfl, by first | exact fr_told (x := w.heap.size + 1) HF0.out (by omega) (just4 _ _ _ _ _ _) | exact fr_told (x := w.heap.size + 1) HF0.out.drew (by omega) (just4 _ _ _ _ _ _) | exact (fr_told (x := w.heap.size + 1) HF0.out (by omega) (just4 _ _ _ _ _ _)).drew⟩
set_option maxHeartbeats 800000 in
set_option maxRecDepth 100000 in
theorem spp_29 (s : List UInt8) (w : World) (_hl : s.length + text.length + 8 ≤ 1099511627776) :
    Calls Tryz.prog 17 #[.string ⟨s.toArray⟩, .agg #[.int .i64 29, .int .i64 a, .int .i64 bb, .int .u16 (size : Int), .int .i64 n, .int .u8 (sign.toNat : Int), .int .i32 char, .string ⟨text.toArray⟩, .slice ad cuts.length cap]] w (PutPost w (s ++ text) ⟨text.length, [], 0, 0⟩ true) := by
  obtain ⟨w0, hw0⟩ : ∃ w0, w0 = ((w.alloc (.cells #[.int .i64 29, .int .i64 a, .int .i64 bb, .int .u16 (size : Int), .int .i64 n, .int .u8 (sign.toNat : Int), .int .i32 char, .string ⟨text.toArray⟩, .slice ad cuts.length cap] 27)).alloc (.cells #[.int .i64 0, .string ⟨#[]⟩, .int .i32 0, .int .i64 0] 45)) := ⟨_, rfl⟩
  have hF0 : Fr (fun _ => False) w w0 := by rw [hw0]; exact (((Fr.refl (fun _ => False) w).alloc _).alloc _)
  have e0 : w0.cell? ⟨w.heap.size, 0, none⟩ = some (.int .i64 29) := by rw [hw0]; simp
  have e1 : w0.cell? ⟨w.heap.size, 1, none⟩ = some (.int .i64 a) := by rw [hw0]; simp
  have e2 : w0.cell? ⟨w.heap.size, 2, none⟩ = some (.int .i64 bb) := by rw [hw0]; simp
  have e3 : w0.cell? ⟨w.heap.size, 3, none⟩ = some (.int .u16 (size : Int)) := by rw [hw0]; simp
  have e4 : w0.cell? ⟨w.heap.size, 4, none⟩ = some (.int .i64 n) := by rw [hw0]; simp
  have e5 : w0.cell? ⟨w.heap.size, 5, none⟩ = some (.int .u8 (sign.toNat : Int)) := by rw [hw0]; simp
  have e6 : w0.cell? ⟨w.heap.size, 6, none⟩ = some (.int .i32 char) := by rw [hw0]; simp
  have e7 : w0.cell? ⟨w.heap.size, 7, none⟩ = some (.string ⟨text.toArray⟩) := by rw [hw0]; simp
  have e8 : w0.cell? ⟨w.heap.size, 8, none⟩ = some (.slice ad cuts.length cap) := by rw [hw0]; simp
  have hT : ToldAt w0 (w.heap.size + 1) := by rw [hw0]; exact ToldAt.new2 w _
  have hlt : w.heap.size < w0.heap.size := World.block_lt_of_cell? _ _ e0
  have t0 := hT.c0; have t1 := hT.c1; have t2 := hT.c2; have t3 := hT.c3; have z0 := hT.f 0; have z1 := hT.f 1; have z2 := hT.f 2; have z3 := hT.f 3
  have HT := Lib.hid hT
  have HF0 := Lib.hid hF0
  have HW0 := Lib.hid hw0
  have hap := bytes_appL s text
  have hlim : ¬ (9223372036854775807 < s.length + text.length) := by omega
  clear hw0 hF0 hT
  go_enter Tryz.func17, Tryz.ntmps17
  go_wp2_with fail
  rw [← HW0.out]
  go_region_held3 (fun w' => w'.cell? ⟨w.heap.size, 7, none⟩ = some (.string ⟨text.toArray⟩)) (go_keep) (fail)
  go_wp2_with fail
  refine bodyPost_ret (v := .tuple #[.string ⟨((s ++ text)).toArray⟩, Td.val ⟨text.length, [], 0, 0⟩, .bool true]) (by simp [results, Tryz.results17, go_sem, t0, t1, t2, t3, Td.val, Td.cells]) rfl ?_
  exact ⟨rfl, by first | exact fr_told (x := w.heap.size + 1) HF0.out (by omega) (just4 _ _ _ _ _ _) | exact fr_told (x := w.heap.size + 1) HF0.out.drew (by omega) (just4 _ _ _ _ _ _) | exact (fr_told (x := w.heap.size + 1) HF0.out (by omega) (just4 _ _ _ _ _ _)).drew⟩
set_option maxHeartbeats 800000 in
set_option maxRecDepth 100000 in
theorem spp_30 (s : List UInt8) (w : World) (_hl : s.length + text.length + 8 ≤ 1099511627776) :
    Calls Tryz.prog 17 #[.string ⟨s.toArray⟩, .agg #[.int .i64 30, .int .i64 a, .int .i64 bb, .int .u16 (size : Int), .int .i64 n, .int .u8 (sign.toNat : Int), .int .i32 char, .string ⟨text.toArray⟩, .slice ad cuts.length cap]] w (PutPost w (s ++ [sign]) Td.zero true) := by
  obtain ⟨w0, hw0⟩ : ∃ w0, w0 = ((w.alloc (.cells #[.int .i64 30, .int .i64 a, .int .i64 bb, .int .u16 (size : Int), .int .i64 n, .int .u8 (sign.toNat : Int), .int .i32 char, .string ⟨text.toArray⟩, .slice ad cuts.length cap] 27)).alloc (.cells #[.int .i64 0, .string ⟨#[]⟩, .int .i32 0, .int .i64 0] 45)) := ⟨_, rfl⟩
  have hF0 : Fr (fun _ => False) w w0 := by rw [hw0]; exact (((Fr.refl (fun _ => False) w).alloc _).alloc _)
  have e0 : w0.cell? ⟨w.heap.size, 0, none⟩ = some (.int .i64 30) := by rw [hw0]; simp
  have e1 : w0.cell? ⟨w.heap.size, 1, none⟩ = some (.int .i64 a) := by rw [hw0]; simp
  have e2 : w0.cell? ⟨w.heap.size, 2, none⟩ = some (.int .i64 bb) := by rw [hw0]; simp
  have e3 : w0.cell? ⟨w.heap.size, 3, none⟩ = some (.int .u16 (size : Int)) := by rw [hw0]; simp
  have e4 : w0.cell? ⟨w.heap.size, 4, none⟩ = some (.int .i64 n) := by rw [hw0]; simp
  have e5 : w0.cell? ⟨w.heap.size, 5, none⟩ = some (.int .u8 (sign.toNat : Int)) := by rw [hw0]; simp
  have e6 : w0.cell? ⟨w.heap.size, 6, none⟩ = some (.int .i32 char) := by rw [hw0]; simp
  have e7 : w0.cell? ⟨w.heap.size, 7, none⟩ = some (.string ⟨text.toArray⟩) := by rw [hw0]; simp
  have e8 : w0.cell? ⟨w.heap.size, 8, none⟩ = some (.slice ad cuts.length cap) := by rw [hw0]; simp
  have hT : ToldAt w0 (w.heap.size + 1) := by rw [hw0]; exact ToldAt.new2 w _
  have hlt : w.heap.size < w0.heap.size := World.block_lt_of_cell? _ _ e0
  have t0 := hT.c0; have t1 := hT.c1; have t2 := hT.c2; have t3 := hT.c3; have z0 := hT.f 0; have z1 := hT.f 1; have z2 := hT.f 2; have z3 := hT.f 3
  have HT := Lib.hid hT
  have HF0 := Lib.hid hF0
  have HW0 := Lib.hid hw0
  have hap := bytes_appL s [sign]
  have hlim : ¬ (9223372036854775807 < s.length + 1) := by omega
  have hcv := conv_sign ((w.alloc (.cells #[.int .i64 30, .int .i64 a, .int .i64 bb, .int .u16 (size : Int), .int .i64 n, .int .u8 (sign.toNat : Int), .int .i32 char, .string ⟨text.toArray⟩, .slice ad cuts.length cap] 27)).alloc (.cells #[.int .i64 0, .string ⟨#[]⟩, .int .i32 0, .int .i64 0] 45)) sign
  simp only [World.size_alloc] at hcv
  have hT1 := hT.fr ((Fr.refl (fun _ => False) w0).alloc (.cells #[.int .u8 (sign.toNat : Int)] 5)) (fun q => q)
  have u0 := hT1.c0; have u1 := hT1.c1; have u2 := hT1.c2; have u3 := hT1.c3
  clear hT1
  clear hw0 hF0 hT
  go_enter Tryz.func17, Tryz.ntmps17
  go_wp2_with fail
  rw [← HW0.out]
  refine bodyPost_ret (v := .tuple #[.string ⟨(s ++ [sign]).toArray⟩, Td.val Td.zero, .bool true]) (by simp [results, Tryz.results17, go_sem, u0, u1, u2, u3, Td.val, Td.cells, Td.zero]) rfl ?_
  exact ⟨rfl, HF0.out.alloc _⟩
set_option maxHeartbeats 800000 in
set_option maxRecDepth 100000 in
theorem spp_31 (s : List UInt8) (w : World) (_hl : s.length + text.length + 8 ≤ 1099511627776) :
    Calls Tryz.prog 17 #[.string ⟨s.toArray⟩, .agg #[.int .i64 31, .int .i64 a, .int .i64 bb, .int .u16 (size : Int), .int .i64 n, .int .u8 (sign.toNat : Int), .int .i32 char, .string ⟨text.toArray⟩, .slice ad cuts.length cap]] w (PutPost w (s ++ enc char) ⟨(enc char).length, [], 0, 0⟩ (decide (enc char ≠ []))) := by
  obtain ⟨w0, hw0⟩ : ∃ w0, w0 = ((w.alloc (.cells #[.int .i64 31, .int .i64 a, .int .i64 bb, .int .u16 (size : Int), .int .i64 n, .int .u8 (sign.toNat : Int), .int .i32 char, .string ⟨text.toArray⟩, .slice ad cuts.length cap] 27)).alloc (.cells #[.int .i64 0, .string ⟨#[]⟩, .int .i32 0, .int .i64 0] 45)) := ⟨_, rfl⟩
  have hF0 : Fr (fun _ => False) w w0 := by rw [hw0]; exact (((Fr.refl (fun _ => False) w).alloc _).alloc _)
  have e0 : w0.cell? ⟨w.heap.size, 0, none⟩ = some (.int .i64 31) := by rw [hw0]; simp
  have e1 : w0.cell? ⟨w.heap.size, 1, none⟩ = some (.int .i64 a) := by rw [hw0]; simp
  have e2 : w0.cell? ⟨w.heap.size, 2, none⟩ = some (.int .i64 bb) := by rw [hw0]; simp
  have e3 : w0.cell? ⟨w.heap.size, 3, none⟩ = some (.int .u16 (size : Int)) := by rw [hw0]; simp
  have e4 : w0.cell? ⟨w.heap.size, 4, none⟩ = some (.int .i64 n) := by rw [hw0]; simp
  have e5 : w0.cell? ⟨w.heap.size, 5, none⟩ = some (.int .u8 (sign.toNat : Int)) := by rw [hw0]; simp
  have e6 : w0.cell? ⟨w.heap.size, 6, none⟩ = some (.int .i32 char) := by rw [hw0]; simp
  have e7 : w0.cell? ⟨w.heap.size, 7, none⟩ = some (.string ⟨text.toArray⟩) := by rw [hw0]; simp
  have e8 : w0.cell? ⟨w.heap.size, 8, none⟩ = some (.slice ad cuts.length cap) := by rw [hw0]; simp
  have hT : ToldAt w0 (w.heap.size + 1) := by rw [hw0]; exact ToldAt.new2 w _
  have hlt : w.heap.size < w0.heap.size := World.block_lt_of_cell? _ _ e0
  have t0 := hT.c0; have t1 := hT.c1; have t2 := hT.c2; have t3 := hT.c3; have z0 := hT.f 0; have z1 := hT.f 1; have z2 := hT.f 2; have z3 := hT.f 3
  have HT := Lib.hid hT
  have HF0 := Lib.hid hF0
  have HW0 := Lib.hid hw0
  have hel : (enc char).length ≤ 4 := enc_len char
  obtain ⟨el, hen⟩ : ∃ el, el = enc char := ⟨_, rfl⟩
  have hap := bytes_appL s el
  have hlim : ¬ (9223372036854775807 < s.length + el.length) := by rw [hen]; omega
  have HEN := Lib.hid hen
  have hie : el.isEmpty = decide (el = []) := by cases el <;> simp
  clear hel
  rw [← hen]
  clear hen
  clear hw0 hF0 hT
  go_enter Tryz.func17, Tryz.ntmps17
  go_wp2_with fail
  rw [← HW0.out]
  refine (encode_any char w0).mono ?_
  rintro e w1 ⟨rfl, F1⟩
  rw [← HEN.out]
  have hT1 := HT.out.fr F1 (fun q => q)
  have t0 := hT1.c0; have t1 := hT1.c1; have t2 := hT1.c2; have t3 := hT1.c3; have z0 := hT1.f 0; have z1 := hT1.f 1; have z2 := hT1.f 2; have z3 := hT1.f 3
  have HFX := Lib.hid (HF0.out.trans F1)
  clear hT1 F1
  go_wp2_with fail
  refine bodyPost_ret (v := .tuple #[.string ⟨(s ++ el).toArray⟩, Td.val ⟨el.length, [], 0, 0⟩, .bool (decide (el ≠ []))]) (by simp [results, Tryz.results17, go_sem, t0, t1, t2, t3, Td.val, Td.cells]) rfl ?_
  exact ⟨rfl, fr_told (x := w.heap.size + 1) HFX.out (by omega) (just4 _ _ _ _ _ _)⟩
set_option maxHeartbeats 800000 in
set_option maxRecDepth 100000 in
theorem spp_32n (s : List UInt8) (w : World) (_hn : n < 0) :
    Calls Tryz.prog 17 #[.string ⟨s.toArray⟩, .agg #[.int .i64 32, .int .i64 a, .int .i64 bb, .int .u16 (size : Int), .int .i64 n, .int .u8 (sign.toNat : Int), .int .i32 char, .string ⟨text.toArray⟩, .slice ad cuts.length cap]] w (PutPost w s (Td.said' 3) true) := by
  obtain ⟨w0, hw0⟩ : ∃ w0, w0 = ((w.alloc (.cells #[.int .i64 32, .int .i64 a, .int .i64 bb, .int .u16 (size : Int), .int .i64 n, .int .u8 (sign.toNat : Int), .int .i32 char, .string ⟨text.toArray⟩, .slice ad cuts.length cap] 27)).alloc (.cells #[.int .i64 0, .string ⟨#[]⟩, .int .i32 0, .int .i64 0] 45)) := ⟨_, rfl⟩
  have hF0 : Fr (fun _ => False) w w0 := by rw [hw0]; exact (((Fr.refl (fun _ => False) w).alloc _).alloc _)
  have e0 : w0.cell? ⟨w.heap.size, 0, none⟩ = some (.int .i64 32) := by rw [hw0]; simp
  have e1 : w0.cell? ⟨w.heap.size, 1, none⟩ = some (.int .i64 a) := by rw [hw0]; simp
  have e2 : w0.cell? ⟨w.heap.size, 2, none⟩ = some (.int .i64 bb) := by rw [hw0]; simp
  have e3 : w0.cell? ⟨w.heap.size, 3, none⟩ = some (.int .u16 (size : Int)) := by rw [hw0]; simp
  have e4 : w0.cell? ⟨w.heap.size, 4, none⟩ = some (.int .i64 n) := by rw [hw0]; simp
  have e5 : w0.cell? ⟨w.heap.size, 5, none⟩ = some (.int .u8 (sign.toNat : Int)) := by rw [hw0]; simp
  have e6 : w0.cell? ⟨w.heap.size, 6, none⟩ = some (.int .i32 char) := by rw [hw0]; simp
  have e7 : w0.cell? ⟨w.heap.size, 7, none⟩ = some (.string ⟨text.toArray⟩) := by rw [hw0]; simp
  have e8 : w0.cell? ⟨w.heap.size, 8, none⟩ = some (.slice ad cuts.length cap) := by rw [hw0]; simp
  have hT : ToldAt w0 (w.heap.size + 1) := by rw [hw0]; exact ToldAt.new2 w _
  have hlt : w.heap.size < w0.heap.size := World.block_lt_of_cell? _ _ e0
  have t0 := hT.c0; have t1 := hT.c1; have t2 := hT.c2; have t3 := hT.c3; have z0 := hT.f 0; have z1 := hT.f 1; have z2 := hT.f 2; have z3 := hT.f 3
  have HT := Lib.hid hT
  have HF0 := Lib.hid hF0
  have HW0 := Lib.hid hw0
  clear hw0 hF0 hT
  go_enter Tryz.func17, Tryz.ntmps17
  go_wp2_with fail
  refine bodyPost_ret (v := .tuple #[.string ⟨(s).toArray⟩, Td.val (Td.said' 3), .bool true]) (by simp [results, Tryz.results17, go_sem, Td.val, Td.cells, Td.said']) rfl ?_
  exact ⟨rfl, ((Fr.refl _ w).alloc _).alloc _⟩
set_option maxHeartbeats 800000 in
set_option maxRecDepth 100000 in
theorem spp_32 (s : List UInt8) (w : World) (_hn : ¬ n < 0) :
    Calls Tryz.prog 17 #[.string ⟨s.toArray⟩, .agg #[.int .i64 32, .int .i64 a, .int .i64 bb, .int .u16 (size : Int), .int .i64 n, .int .u8 (sign.toNat : Int), .int .i32 char, .string ⟨text.toArray⟩, .slice ad cuts.length cap]] w (PutPost w s Td.zero (decide (n ≤ 65536))) := by
  obtain ⟨w0, hw0⟩ : ∃ w0, w0 = ((w.alloc (.cells #[.int .i64 32, .int .i64 a, .int .i64 bb, .int .u16 (size : Int), .int .i64 n, .int .u8 (sign.toNat : Int), .int .i32 char, .string ⟨text.toArray⟩, .slice ad cuts.length cap] 27)).alloc (.cells #[.int .i64 0, .string ⟨#[]⟩, .int .i32 0, .int .i64 0] 45)) := ⟨_, rfl⟩
  have hF0 : Fr (fun _ => False) w w0 := by rw [hw0]; exact (((Fr.refl (fun _ => False) w).alloc _).alloc _)
  have e0 : w0.cell? ⟨w.heap.size, 0, none⟩ = some (.int .i64 32) := by rw [hw0]; simp
  have e1 : w0.cell? ⟨w.heap.size, 1, none⟩ = some (.int .i64 a) := by rw [hw0]; simp
  have e2 : w0.cell? ⟨w.heap.size, 2, none⟩ = some (.int .i64 bb) := by rw [hw0]; simp
  have e3 : w0.cell? ⟨w.heap.size, 3, none⟩ = some (.int .u16 (size : Int)) := by rw [hw0]; simp
  have e4 : w0.cell? ⟨w.heap.size, 4, none⟩ = some (.int .i64 n) := by rw [hw0]; simp
  have e5 : w0.cell? ⟨w.heap.size, 5, none⟩ = some (.int .u8 (sign.toNat : Int)) := by rw [hw0]; simp
  have e6 : w0.cell? ⟨w.heap.size, 6, none⟩ = some (.int .i32 char) := by rw [hw0]; simp
  have e7 : w0.cell? ⟨w.heap.size, 7, none⟩ = some (.string ⟨text.toArray⟩) := by rw [hw0]; simp
  have e8 : w0.cell? ⟨w.heap.size, 8, none⟩ = some (.slice ad cuts.length cap) := by rw [hw0]; simp
  have hT : ToldAt w0 (w.heap.size + 1) := by rw [hw0]; exact ToldAt.new2 w _
  have hlt : w.heap.size < w0.heap.size := World.block_lt_of_cell? _ _ e0
  have t0 := hT.c0; have t1 := hT.c1; have t2 := hT.c2; have t3 := hT.c3; have z0 := hT.f 0; have z1 := hT.f 1; have z2 := hT.f 2; have z3 := hT.f 3
  have HT := Lib.hid hT
  have HF0 := Lib.hid hF0
  have HW0 := Lib.hid hw0
  clear hw0 hF0 hT
  go_enter Tryz.func17, Tryz.ntmps17
  go_wp2_with fail
  rw [← HW0.out]
  go_region_held3 (fun w' => w'.cell? ⟨w.heap.size, 4, none⟩ = some (.int .i64 n)) (go_keep) (fail)
  go_wp2_with fail
  refine bodyPost_ret (v := .tuple #[.string ⟨(s).toArray⟩, Td.val Td.zero, .bool (decide (n ≤ 65536))]) (by simp [results, Tryz.results17, go_sem, t0, t1, t2, t3, Td.val, Td.cells, Td.zero]) rfl ?_
  exact ⟨rfl, by first | exact fr_told (x := w.heap.size + 1) HF0.out (by omega) (just4 _ _ _ _ _ _) | exact fr_told (x := w.heap.size + 1) HF0.out.drew (by omega) (just4 _ _ _ _ _ _) | exact (fr_told (x := w.heap.size + 1) HF0.out (by omega) (just4 _ _ _ _ _ _)).drew⟩
set_option maxHeartbeats 800000 in
set_option maxRecDepth 100000 in
theorem spp_33 (s : List UInt8) (w : World) :
    Calls Tryz.prog 17 #[.string ⟨s.toArray⟩, .agg #[.int .i64 33, .int .i64 a, .int .i64 bb, .int .u16 (size : Int), .int .i64 n, .int .u8 (sign.toNat : Int), .int .i32 char, .string ⟨text.toArray⟩, .slice ad cuts.length cap]] w (PutPost w ([] : List UInt8) Td.zero true) := by
  obtain ⟨w0, hw0⟩ : ∃ w0, w0 = ((w.alloc (.cells #[.int .i64 33, .int .i64 a, .int .i64 bb, .int .u16 (size : Int), .int .i64 n, .int .u8 (sign.toNat : Int), .int .i32 char, .string ⟨text.toArray⟩, .slice ad cuts.length cap] 27)).alloc (.cells #[.int .i64 0, .string ⟨#[]⟩, .int .i32 0, .int .i64 0] 45)) := ⟨_, rfl⟩
  have hF0 : Fr (fun _ => False) w w0 := by rw [hw0]; exact (((Fr.refl (fun _ => False) w).alloc _).alloc _)
  have e0 : w0.cell? ⟨w.heap.size, 0, none⟩ = some (.int .i64 33) := by rw [hw0]; simp
  have e1 : w0.cell? ⟨w.heap.size, 1, none⟩ = some (.int .i64 a) := by rw [hw0]; simp
  have e2 : w0.cell? ⟨w.heap.size, 2, none⟩ = some (.int .i64 bb) := by rw [hw0]; simp
  have e3 : w0.cell? ⟨w.heap.size, 3, none⟩ = some (.int .u16 (size : Int)) := by rw [hw0]; simp
  have e4 : w0.cell? ⟨w.heap.size, 4, none⟩ = some (.int .i64 n) := by rw [hw0]; simp
  have e5 : w0.cell? ⟨w.heap.size, 5, none⟩ = some (.int .u8 (sign.toNat : Int)) := by rw [hw0]; simp
  have e6 : w0.cell? ⟨w.heap.size, 6, none⟩ = some (.int .i32 char) := by rw [hw0]; simp
  have e7 : w0.cell? ⟨w.heap.size, 7, none⟩ = some (.string ⟨text.toArray⟩) := by rw [hw0]; simp
  have e8 : w0.cell? ⟨w.heap.size, 8, none⟩ = some (.slice ad cuts.length cap) := by rw [hw0]; simp
  have hT : ToldAt w0 (w.heap.size + 1) := by rw [hw0]; exact ToldAt.new2 w _
  have hlt : w.heap.size < w0.heap.size := World.block_lt_of_cell? _ _ e0
  have t0 := hT.c0; have t1 := hT.c1; have t2 := hT.c2; have t3 := hT.c3; have z0 := hT.f 0; have z1 := hT.f 1; have z2 := hT.f 2; have z3 := hT.f 3
  have HT := Lib.hid hT
  have HF0 := Lib.hid hF0
  have HW0 := Lib.hid hw0
  clear hw0 hF0 hT
  go_enter Tryz.func17, Tryz.ntmps17
  go_wp2_with fail
  refine bodyPost_ret (v := .tuple #[.string ⟨([] : List UInt8).toArray⟩, Td.val Td.zero, .bool true]) (by simp [results, Tryz.results17, go_sem, Td.val, Td.cells, Td.zero]) rfl ?_
  exact ⟨rfl, ((Fr.refl _ w).alloc _).alloc _⟩
set_option maxHeartbeats 800000 in
set_option maxRecDepth 100000 in
theorem spp_34 (s : List UInt8) (w : World) (_hl : s.length ≤ 1099511627776) :
    Calls Tryz.prog 17 #[.string ⟨s.toArray⟩, .agg #[.int .i64 34, .int .i64 a, .int .i64 bb, .int .u16 (size : Int), .int .i64 n, .int .u8 (sign.toNat : Int), .int .i32 char, .string ⟨text.toArray⟩, .slice ad cuts.length cap]] w (PutPost w s ⟨s.length, [], 0, 0⟩ true) := by
  obtain ⟨w0, hw0⟩ : ∃ w0, w0 = ((w.alloc (.cells #[.int .i64 34, .int .i64 a, .int .i64 bb, .int .u16 (size : Int), .int .i64 n, .int .u8 (sign.toNat : Int), .int .i32 char, .string ⟨text.toArray⟩, .slice ad cuts.length cap] 27)).alloc (.cells #[.int .i64 0, .string ⟨#[]⟩, .int .i32 0, .int .i64 0] 45)) := ⟨_, rfl⟩
  have hF0 : Fr (fun _ => False) w w0 := by rw [hw0]; exact (((Fr.refl (fun _ => False) w).alloc _).alloc _)
  have e0 : w0.cell? ⟨w.heap.size, 0, none⟩ = some (.int .i64 34) := by rw [hw0]; simp
  have e1 : w0.cell? ⟨w.heap.size, 1, none⟩ = some (.int .i64 a) := by rw [hw0]; simp
  have e2 : w0.cell? ⟨w.heap.size, 2, none⟩ = some (.int .i64 bb) := by rw [hw0]; simp
  have e3 : w0.cell? ⟨w.heap.size, 3, none⟩ = some (.int .u16 (size : Int)) := by rw [hw0]; simp
  have e4 : w0.cell? ⟨w.heap.size, 4, none⟩ = some (.int .i64 n) := by rw [hw0]; simp
  have e5 : w0.cell? ⟨w.heap.size, 5, none⟩ = some (.int .u8 (sign.toNat : Int)) := by rw [hw0]; simp
  have e6 : w0.cell? ⟨w.heap.size, 6, none⟩ = some (.int .i32 char) := by rw [hw0]; simp
  have e7 : w0.cell? ⟨w.heap.size, 7, none⟩ = some (.string ⟨text.toArray⟩) := by rw [hw0]; simp
  have e8 : w0.cell? ⟨w.heap.size, 8, none⟩ = some (.slice ad cuts.length cap) := by rw [hw0]; simp
  have hT : ToldAt w0 (w.heap.size + 1) := by rw [hw0]; exact ToldAt.new2 w _
  have hlt : w.heap.size < w0.heap.size := World.block_lt_of_cell? _ _ e0
  have t0 := hT.c0; have t1 := hT.c1; have t2 := hT.c2; have t3 := hT.c3; have z0 := hT.f 0; have z1 := hT.f 1; have z2 := hT.f 2; have z3 := hT.f 3
  have HT := Lib.hid hT
  have HF0 := Lib.hid hF0
  have HW0 := Lib.hid hw0
  clear hw0 hF0 hT
  go_enter Tryz.func17, Tryz.ntmps17
  go_wp2_with fail
  refine bodyPost_ret (v := .tuple #[.string ⟨(s).toArray⟩, Td.val ⟨s.length, [], 0, 0⟩, .bool true]) (by simp [results, Tryz.results17, go_sem, Td.val, Td.cells]) rfl ?_
  exact ⟨rfl, ((Fr.refl _ w).alloc _).alloc _⟩
set_option maxHeartbeats 800000 in
set_option maxRecDepth 100000 in
theorem spp_35 (s : List UInt8) (w : World) (op : Int) (hop : 35 ≤ op) :
    Calls Tryz.prog 17 #[.string ⟨s.toArray⟩, .agg #[.int .i64 op, .int .i64 a, .int .i64 bb, .int .u16 (size : Int), .int .i64 n, .int .u8 (sign.toNat : Int), .int .i32 char, .string ⟨text.toArray⟩, .slice ad cuts.length cap]] w (PutPost w s ⟨0, s, 0, 0⟩ true) := by
  obtain ⟨w0, hw0⟩ : ∃ w0, w0 = ((w.alloc (.cells #[.int .i64 op, .int .i64 a, .int .i64 bb, .int .u16 (size : Int), .int .i64 n, .int .u8 (sign.toNat : Int), .int .i32 char, .string ⟨text.toArray⟩, .slice ad cuts.length cap] 27)).alloc (.cells #[.int .i64 0, .string ⟨#[]⟩, .int .i32 0, .int .i64 0] 45)) := ⟨_, rfl⟩
  have hF0 : Fr (fun _ => False) w w0 := by rw [hw0]; exact (((Fr.refl (fun _ => False) w).alloc _).alloc _)
  have e0 : w0.cell? ⟨w.heap.size, 0, none⟩ = some (.int .i64 op) := by rw [hw0]; simp
  have e1 : w0.cell? ⟨w.heap.size, 1, none⟩ = some (.int .i64 a) := by rw [hw0]; simp
  have e2 : w0.cell? ⟨w.heap.size, 2, none⟩ = some (.int .i64 bb) := by rw [hw0]; simp
  have e3 : w0.cell? ⟨w.heap.size, 3, none⟩ = some (.int .u16 (size : Int)) := by rw [hw0]; simp
  have e4 : w0.cell? ⟨w.heap.size, 4, none⟩ = some (.int .i64 n) := by rw [hw0]; simp
  have e5 : w0.cell? ⟨w.heap.size, 5, none⟩ = some (.int .u8 (sign.toNat : Int)) := by rw [hw0]; simp
  have e6 : w0.cell? ⟨w.heap.size, 6, none⟩ = some (.int .i32 char) := by rw [hw0]; simp
  have e7 : w0.cell? ⟨w.heap.size, 7, none⟩ = some (.string ⟨text.toArray⟩) := by rw [hw0]; simp
  have e8 : w0.cell? ⟨w.heap.size, 8, none⟩ = some (.slice ad cuts.length cap) := by rw [hw0]; simp
  have hT : ToldAt w0 (w.heap.size + 1) := by rw [hw0]; exact ToldAt.new2 w _
  have hlt : w.heap.size < w0.heap.size := World.block_lt_of_cell? _ _ e0
  have t0 := hT.c0; have t1 := hT.c1; have t2 := hT.c2; have t3 := hT.c3; have z0 := hT.f 0; have z1 := hT.f 1; have z2 := hT.f 2; have z3 := hT.f 3
  have HT := Lib.hid hT
  have HF0 := Lib.hid hF0
  have HW0 := Lib.hid hw0
  have m28 : (op == 28) = false := by simp; omega
  have m29 : (op == 29) = false := by simp; omega
  have m30 : (op == 30) = false := by simp; omega
  have m31 : (op == 31) = false := by simp; omega
  have m32 : (op == 32) = false := by simp; omega
  have m33 : (op == 33) = false := by simp; omega
  have m34 : (op == 34) = false := by simp; omega
  clear hop
  clear hw0 hF0 hT
  go_enter Tryz.func17, Tryz.ntmps17
  go_wp2_with fail
  refine bodyPost_ret (v := .tuple #[.string ⟨(s).toArray⟩, Td.val ⟨0, s, 0, 0⟩, .bool true]) (by simp [results, Tryz.results17, go_sem, Td.val, Td.cells]) rfl ?_
  exact ⟨rfl, ((Fr.refl _ w).alloc _).alloc _⟩
end
theorem sp_put (s : List UInt8) (c : Cl) (w : World) (h28 : 28 ≤ c.op) (hl : s.length + c.text.length + 8 ≤ 1099511627776) :
    Calls Tryz.prog 17 #[.string ⟨s.toArray⟩, c.val] w (PutPost w (putS s c).1 (putS s c).2.1 (putS s c).2.2) := by
  obtain ⟨op, a, bb, size, n, sign, char, text, cuts, ad, cap⟩ := c
  simp only at h28 hl
  have hop : op = 28 ∨ op = 29 ∨ op = 30 ∨ op = 31 ∨ op = 32 ∨ op = 33 ∨ op = 34 ∨ 35 ≤ op := by omega
  rcases hop with rfl | rfl | rfl | rfl | rfl | rfl | rfl | hop
  · exact spp_28 a bb size n sign char text cuts ad cap s w hl
  · exact spp_29 a bb size n sign char text cuts ad cap s w hl
  · exact spp_30 a bb size n sign char text cuts ad cap s w hl
  · exact spp_31 a bb size n sign char text cuts ad cap s w hl
  · by_cases hn : n < 0
    · have e : putS s ⟨32, a, bb, size, n, sign, char, text, cuts, ad, cap⟩ = (s, Td.said' 3, true) := by simp [putS, hn]
      rw [e]
      exact spp_32n a bb size n sign char text cuts ad cap s w hn
    · have e : putS s ⟨32, a, bb, size, n, sign, char, text, cuts, ad, cap⟩ = (s, Td.zero, decide (n ≤ 65536)) := by simp [putS, hn]
      rw [e]
      exact spp_32 a bb size n sign char text cuts ad cap s w hn
  · exact spp_33 a bb size n sign char text cuts ad cap s w
  · exact spp_34 a bb size n sign char text cuts ad cap s w (by omega)
  · have e : putS s ⟨op, a, bb, size, n, sign, char, text, cuts, ad, cap⟩ = (s, Td.ofText s, true) := by
      unfold putS
      rw [if_neg (by simp only; omega), if_neg (by simp only; omega), if_neg (by simp only; omega), if_neg (by simp only; omega), if_neg (by simp only; omega), if_neg (by simp only; omega)]
    rw [e]
    exact spp_35 a bb size n sign char text cuts ad cap s w op hop
end Go.Proofs.YtkggebhkjgjijaaGreatDoor
