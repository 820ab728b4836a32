/- CallR. -/
import Derived.Test.YtkggebhkjgjijaaGreatDoorQ16
namespace Go.Proofs.YtkggebhkjgjijaaGreatDoor
open Go Go.RowKit

set_option maxHeartbeats 800000 in
set_option maxRecDepth 100000 in
/-- Read of an empty buffer, into no bytes. -/
theorem buf_read_nil (w : World) (b : Nat) (g : Gh) (D : Option Addr) (n c : Nat) (hn : n = 0) (h : BufAt w b g) (hlt : g.len ≤ g.off) :
    Calls Tryz.prog 51 #[.pointer (some ⟨b, 0, none⟩), .slice D n c] w fun e w' => e = .returned (.tuple #[.int .i64 0, .nilIface]) ∧ BufAt w' b g.rs ∧ Fr (Just b) w w' := by
  subst hn
  have c2 := h.c2
  have f2 := h.f 2
  have H := Lib.hid h
  clear h
  go_enter Tryz.func51, Tryz.ntmps51
  go_wp2_with fail
  have S1 := BufStep.lr0 H.out 0
  refine (buf_empty_yes _ b _ S1.at' hlt).mono ?_
  rintro e w1 ⟨rfl, H1, F1⟩
  go_wp2_with fail
  refine (buf_reset _ b _ H1).mono ?_
  rintro e w2 ⟨rfl, H2, F2⟩
  have hF : Fr (Just b) w w2 := ((just_set w b 2 _).trans' F1 (fun _ _ q => q.elim)).trans F2
  have HF := Lib.hid hF
  have HA := Lib.hid H2
  clear S1 H1 F1 H2 F2 hF
  go_wp2_with fail
  go_ret2
  exact ⟨rfl, HA.out, HF.out⟩

theorem BufAt.txt_nil {w : World} {b : Nat} {g : Gh} (h : BufAt w b g) (ht : g.txt = []) : g.len ≤ g.off := by
  have := g.txt_length h.lc
  rw [ht] at this
  simp at this
  omega
theorem BufAt.txt_pos {w : World} {b : Nat} {g : Gh} (h : BufAt w b g) (ht : g.txt ≠ []) : g.off < g.len := by
  have := g.txt_length h.lc
  have := List.length_pos_iff.2 ht
  omega
/-- A source of bytes stands when what is told is laid. -/
theorem Src.told {w w' : World} {x : Nat} {v : Value} {l : List UInt8} (h : Src w v l) (hT : ToldAt w x) (hh : w'.heap = w.heap) (a b c d : Value) : Src ((((w'.setCell ⟨x, 0, none⟩ a).setCell ⟨x, 1, none⟩ b).setCell ⟨x, 2, none⟩ c).setCell ⟨x, 3, none⟩ d) v l := by
  refine Src.fr (S := Just x) (h.of_heap hh) (just4 w' x a b c d) ?_
  intro i cc E fz q hcc j y hj
  obtain rfl : i = x := q
  rw [hh, hT.st] at hcc
  injection hcc with hcc
  injection hcc with hcc
  subst hcc
  match j, hj with
  | 0, hj => simp at hj
  | 1, hj => simp at hj
  | 2, hj => simp at hj
  | 3, hj => simp at hj
  | j + 4, hj => simp at hj

section
variable (a bb : Int) (size : Nat) (n : Int) (sign : UInt8) (char : Int) (text : List UInt8) (cuts : List Nat) (ad : Option Addr) (cap : Nat)
set_option maxHeartbeats 1600000 in
set_option maxRecDepth 100000 in
theorem read_7 (b : Nat) (g : Gh) (w : World) (h : BufAt w b g) (k m : Nat) (hm : g.off + m = g.len) (hk : k = min size m) (hsize : size ≤ 65535) :
    Calls Tryz.prog 27 #[.pointer (some ⟨b, 0, none⟩), .agg #[.int .i64 7, .int .i64 a, .int .i64 bb, .int .u16 (size : Int), .int .i64 n, .int .u8 (sign.toNat : Int), .int .i32 char, .string ⟨text.toArray⟩, .slice ad cuts.length cap]] w (WDPost w b g ⟨0, g.txt.take k, 0, 0⟩ (fun g' => g' = g.rd k)) := by
  have H := Lib.hid h
  have HB := Lib.hid (h.fr (((Fr.refl (fun _ => False) w).alloc _).alloc _) (fun _ _ q => q) : BufAt ((w.alloc (.cells #[.int .i64 7, .int .i64 a, .int .i64 bb, .int .u16 (size : Int), .int .i64 n, .int .u8 (sign.toNat : Int), .int .i32 char, .string ⟨text.toArray⟩, .slice ad cuts.length cap] 27)).alloc (.cells #[.int .i64 0, .string ⟨#[]⟩, .int .i32 0, .int .i64 0] 45)) b g)
  clear h
  have hcv : IntKind.i64.wrap (size : Int) = (size : Int) := IntWalk.i64_in _ (by omega)
  have HK := Lib.hid hk
  have hkm : k ≤ m := by omega
  clear hk
  go_enter Tryz.func27, Tryz.ntmps27
  go_wp2_with fail
  refine (buf_next _ b g size m k HB.out hm HK.out (by omega)).mono ?_
  rintro e w1 ⟨rfl, A1, F1⟩
  have S1 : BufStep ((w.alloc (.cells #[.int .i64 7, .int .i64 a, .int .i64 bb, .int .u16 (size : Int), .int .i64 n, .int .u8 (sign.toNat : Int), .int .i32 char, .string ⟨text.toArray⟩, .slice ad cuts.length cap] 27)).alloc (.cells #[.int .i64 0, .string ⟨#[]⟩, .int .i32 0, .int .i64 0] 45)) b g w1 (g.rd k) := BufStep.of_just A1 rfl F1
  have hT : ToldAt w1 (w.heap.size + 1) := S1.told HB.out (ToldAt.new2 w _)
  have t0 := hT.c0; have t1 := hT.c1; have t2 := hT.c2; have t3 := hT.c3; have z0 := hT.f 0; have z1 := hT.f 1; have z2 := hT.f 2; have z3 := hT.f 3
  have HT := Lib.hid hT
  clear hT
  have HS := Lib.hid S1
  clear S1 F1
  have hsrc : Src w1 (.slice (cutA g.row g.off g.all.length) k (g.all.length - g.off)) (g.txt.take k) := by
    have h2 := Src.part HS.out.at' g.off k (g.all.length - g.off) (by have := HB.out.lc; simp only [Gh.rd]; omega)
    simp only [Gh.rd] at h2
    rw [g.txt_take k (by omega)] at h2
    exact h2
  have hcs := conv_str hsrc
  clear hsrc
  go_wp2_with fail
  refine bodyPost_ret (v := Td.val ⟨0, g.txt.take k, 0, 0⟩) (by simp [results, Tryz.results27, go_sem, t0, t1, t2, t3, Td.val, Td.cells]) rfl ?_
  exact ⟨_, rfl, HS.out.skip (((Fr.refl (fun _ => False) w).alloc _).alloc _) (by omega) HT.out (just4 _ _ _ _ _ _), rfl⟩
set_option maxHeartbeats 1600000 in
set_option maxRecDepth 100000 in
theorem read_8e (b : Nat) (g : Gh) (w : World) (h : BufAt w b g) (ht : g.txt = []) (ea : Addr) (he : w.cell? ⟨0, 0, none⟩ = some (errV ea)) :
    Calls Tryz.prog 27 #[.pointer (some ⟨b, 0, none⟩), .agg #[.int .i64 8, .int .i64 a, .int .i64 bb, .int .u16 (size : Int), .int .i64 n, .int .u8 (sign.toNat : Int), .int .i32 char, .string ⟨text.toArray⟩, .slice ad cuts.length cap]] w (WDPost w b g ⟨0, [], 0, 1⟩ (fun g' => g' = g.rs)) := by
  have H := Lib.hid h
  have HB := Lib.hid (h.fr (((Fr.refl (fun _ => False) w).alloc _).alloc _) (fun _ _ q => q) : BufAt ((w.alloc (.cells #[.int .i64 8, .int .i64 a, .int .i64 bb, .int .u16 (size : Int), .int .i64 n, .int .u8 (sign.toNat : Int), .int .i32 char, .string ⟨text.toArray⟩, .slice ad cuts.length cap] 27)).alloc (.cells #[.int .i64 0, .string ⟨#[]⟩, .int .i32 0, .int .i64 0] 45)) b g)
  clear h
  have hbe : b ≠ 0 := fun q => H.out.ne_err he (.inl q.symm)
  have he0 : ((w.alloc (.cells #[.int .i64 8, .int .i64 a, .int .i64 bb, .int .u16 (size : Int), .int .i64 n, .int .u8 (sign.toNat : Int), .int .i32 char, .string ⟨text.toArray⟩, .slice ad cuts.length cap] 27)).alloc (.cells #[.int .i64 0, .string ⟨#[]⟩, .int .i32 0, .int .i64 0] 45)).cell? ⟨0, 0, none⟩ = some (errV ea) := (((((Fr.refl (fun _ => False) w).alloc _).alloc _) : Fr _ w ((w.alloc (.cells #[.int .i64 8, .int .i64 a, .int .i64 bb, .int .u16 (size : Int), .int .i64 n, .int .u8 (sign.toNat : Int), .int .i32 char, .string ⟨text.toArray⟩, .slice ad cuts.length cap] 27)).alloc (.cells #[.int .i64 0, .string ⟨#[]⟩, .int .i32 0, .int .i64 0] 45))).cell (World.block_lt_of_cell? _ _ he) (fun q => q)).trans he
  have HE0 := Lib.hid he0
  clear he he0
  go_enter Tryz.func27, Tryz.ntmps27
  go_wp2_with fail
  refine (buf_readByte_eof _ b g ea HB.out (H.out.txt_nil ht) HE0.out hbe).mono ?_
  rintro e w1 ⟨rfl, A1, F1⟩
  have S1 : BufStep ((w.alloc (.cells #[.int .i64 8, .int .i64 a, .int .i64 bb, .int .u16 (size : Int), .int .i64 n, .int .u8 (sign.toNat : Int), .int .i32 char, .string ⟨text.toArray⟩, .slice ad cuts.length cap] 27)).alloc (.cells #[.int .i64 0, .string ⟨#[]⟩, .int .i32 0, .int .i64 0] 45)) b g w1 (g.rs) := BufStep.of_just A1 rfl F1
  have hT : ToldAt w1 (w.heap.size + 1) := S1.told HB.out (ToldAt.new2 w _)
  have t0 := hT.c0; have t1 := hT.c1; have t2 := hT.c2; have t3 := hT.c3; have z0 := hT.f 0; have z1 := hT.f 1; have z2 := hT.f 2; have z3 := hT.f 3
  have HT := Lib.hid hT
  clear hT
  have he1 : w1.cell? ⟨0, 0, none⟩ = some (errV ea) := (F1.cell (World.block_lt_of_cell? _ _ HE0.out) (fun q => hbe q.symm)).trans HE0.out
  have HS := Lib.hid S1
  clear S1 F1
  go_wp2_with fail
  refine (said_eof _ ea (by exact he1)).mono ?_
  rintro e w2 ⟨rfl, rfl⟩
  go_wp2_with fail
  refine bodyPost_ret (v := Td.val ⟨0, [], 0, 1⟩) (by simp [results, Tryz.results27, go_sem, t0, t1, t2, t3, Td.val, Td.cells]) rfl ?_
  exact ⟨_, rfl, HS.out.skip (((Fr.refl (fun _ => False) w).alloc _).alloc _) (by omega) HT.out (just4 _ _ _ _ _ _), rfl⟩
set_option maxHeartbeats 1600000 in
set_option maxRecDepth 100000 in
theorem read_8 (b : Nat) (g : Gh) (w : World) (h : BufAt w b g) (x : UInt8) (t : List UInt8) (ht : g.txt = x :: t) :
    Calls Tryz.prog 27 #[.pointer (some ⟨b, 0, none⟩), .agg #[.int .i64 8, .int .i64 a, .int .i64 bb, .int .u16 (size : Int), .int .i64 n, .int .u8 (sign.toNat : Int), .int .i32 char, .string ⟨text.toArray⟩, .slice ad cuts.length cap]] w (WDPost w b g ⟨0, [], x.toNat, 0⟩ (fun g' => g' = g.rd 1)) := by
  have H := Lib.hid h
  have HB := Lib.hid (h.fr (((Fr.refl (fun _ => False) w).alloc _).alloc _) (fun _ _ q => q) : BufAt ((w.alloc (.cells #[.int .i64 8, .int .i64 a, .int .i64 bb, .int .u16 (size : Int), .int .i64 n, .int .u8 (sign.toNat : Int), .int .i32 char, .string ⟨text.toArray⟩, .slice ad cuts.length cap] 27)).alloc (.cells #[.int .i64 0, .string ⟨#[]⟩, .int .i32 0, .int .i64 0] 45)) b g)
  clear h
  have hcv : IntKind.i32.wrap (x.toNat : Int) = (x.toNat : Int) := by have := x.toNat_lt; exact IntWalk.i32_in _ (by omega)
  go_enter Tryz.func27, Tryz.ntmps27
  go_wp2_with fail
  refine (buf_readByte_some _ b g x t HB.out ht).mono ?_
  rintro e w1 ⟨rfl, A1, F1⟩
  have S1 : BufStep ((w.alloc (.cells #[.int .i64 8, .int .i64 a, .int .i64 bb, .int .u16 (size : Int), .int .i64 n, .int .u8 (sign.toNat : Int), .int .i32 char, .string ⟨text.toArray⟩, .slice ad cuts.length cap] 27)).alloc (.cells #[.int .i64 0, .string ⟨#[]⟩, .int .i32 0, .int .i64 0] 45)) b g w1 (g.rd 1) := BufStep.of_just A1 rfl F1
  have hT : ToldAt w1 (w.heap.size + 1) := S1.told HB.out (ToldAt.new2 w _)
  have t0 := hT.c0; have t1 := hT.c1; have t2 := hT.c2; have t3 := hT.c3; have z0 := hT.f 0; have z1 := hT.f 1; have z2 := hT.f 2; have z3 := hT.f 3
  have HT := Lib.hid hT
  clear hT
  have HS := Lib.hid S1
  clear S1 F1
  go_wp2_with fail
  refine bodyPost_ret (v := Td.val ⟨0, [], x.toNat, 0⟩) (by simp [results, Tryz.results27, go_sem, t0, t1, t2, t3, Td.val, Td.cells]) rfl ?_
  exact ⟨_, rfl, HS.out.skip (((Fr.refl (fun _ => False) w).alloc _).alloc _) (by omega) HT.out (just4 _ _ _ _ _ _), rfl⟩
set_option maxHeartbeats 1600000 in
set_option maxRecDepth 100000 in
theorem read_11e (b : Nat) (g : Gh) (w : World) (h : BufAt w b g) (ht : g.txt = []) (ea : Addr) (he : w.cell? ⟨0, 0, none⟩ = some (errV ea)) :
    Calls Tryz.prog 27 #[.pointer (some ⟨b, 0, none⟩), .agg #[.int .i64 11, .int .i64 a, .int .i64 bb, .int .u16 (size : Int), .int .i64 n, .int .u8 (sign.toNat : Int), .int .i32 char, .string ⟨text.toArray⟩, .slice ad cuts.length cap]] w (WDPost w b g ⟨0, [], 0, 1⟩ (fun g' => g' = g.rs)) := by
  have H := Lib.hid h
  have HB := Lib.hid (h.fr (((Fr.refl (fun _ => False) w).alloc _).alloc _) (fun _ _ q => q) : BufAt ((w.alloc (.cells #[.int .i64 11, .int .i64 a, .int .i64 bb, .int .u16 (size : Int), .int .i64 n, .int .u8 (sign.toNat : Int), .int .i32 char, .string ⟨text.toArray⟩, .slice ad cuts.length cap] 27)).alloc (.cells #[.int .i64 0, .string ⟨#[]⟩, .int .i32 0, .int .i64 0] 45)) b g)
  clear h
  have hbe : b ≠ 0 := fun q => H.out.ne_err he (.inl q.symm)
  have he0 : ((w.alloc (.cells #[.int .i64 11, .int .i64 a, .int .i64 bb, .int .u16 (size : Int), .int .i64 n, .int .u8 (sign.toNat : Int), .int .i32 char, .string ⟨text.toArray⟩, .slice ad cuts.length cap] 27)).alloc (.cells #[.int .i64 0, .string ⟨#[]⟩, .int .i32 0, .int .i64 0] 45)).cell? ⟨0, 0, none⟩ = some (errV ea) := (((((Fr.refl (fun _ => False) w).alloc _).alloc _) : Fr _ w ((w.alloc (.cells #[.int .i64 11, .int .i64 a, .int .i64 bb, .int .u16 (size : Int), .int .i64 n, .int .u8 (sign.toNat : Int), .int .i32 char, .string ⟨text.toArray⟩, .slice ad cuts.length cap] 27)).alloc (.cells #[.int .i64 0, .string ⟨#[]⟩, .int .i32 0, .int .i64 0] 45))).cell (World.block_lt_of_cell? _ _ he) (fun q => q)).trans he
  have HE0 := Lib.hid he0
  clear he he0
  go_enter Tryz.func27, Tryz.ntmps27
  go_wp2_with fail
  refine (buf_readRune_eof _ b g ea HB.out (H.out.txt_nil ht) HE0.out hbe).mono ?_
  rintro e w1 ⟨rfl, A1, F1⟩
  have S1 : BufStep ((w.alloc (.cells #[.int .i64 11, .int .i64 a, .int .i64 bb, .int .u16 (size : Int), .int .i64 n, .int .u8 (sign.toNat : Int), .int .i32 char, .string ⟨text.toArray⟩, .slice ad cuts.length cap] 27)).alloc (.cells #[.int .i64 0, .string ⟨#[]⟩, .int .i32 0, .int .i64 0] 45)) b g w1 (g.rs) := BufStep.of_just A1 rfl F1
  have hT : ToldAt w1 (w.heap.size + 1) := S1.told HB.out (ToldAt.new2 w _)
  have t0 := hT.c0; have t1 := hT.c1; have t2 := hT.c2; have t3 := hT.c3; have z0 := hT.f 0; have z1 := hT.f 1; have z2 := hT.f 2; have z3 := hT.f 3
  have HT := Lib.hid hT
  clear hT
  have he1 : w1.cell? ⟨0, 0, none⟩ = some (errV ea) := (F1.cell (World.block_lt_of_cell? _ _ HE0.out) (fun q => hbe q.symm)).trans HE0.out
  have HS := Lib.hid S1
  clear S1 F1
  go_wp2_with fail
  refine (said_eof _ ea (by exact he1)).mono ?_
  rintro e w2 ⟨rfl, rfl⟩
  go_wp2_with fail
  refine bodyPost_ret (v := Td.val ⟨0, [], 0, 1⟩) (by simp [results, Tryz.results27, go_sem, t0, t1, t2, t3, Td.val, Td.cells]) rfl ?_
  exact ⟨_, rfl, HS.out.skip (((Fr.refl (fun _ => False) w).alloc _).alloc _) (by omega) HT.out (just4 _ _ _ _ _ _), rfl⟩
set_option maxHeartbeats 1600000 in
set_option maxRecDepth 100000 in
theorem read_11 (b : Nat) (g : Gh) (w : World) (h : BufAt w b g) (ht : g.txt ≠ []) (hU : ∀ w', Fr (fun _ => False) w w' → Lib.Utf8Tabs 6 7 w') :
    Calls Tryz.prog 27 #[.pointer (some ⟨b, 0, none⟩), .agg #[.int .i64 11, .int .i64 a, .int .i64 bb, .int .u16 (size : Int), .int .i64 n, .int .u8 (sign.toNat : Int), .int .i32 char, .string ⟨text.toArray⟩, .slice ad cuts.length cap]] w (WDPost w b g ⟨(dec g.txt).2, [], (dec g.txt).1, 0⟩ (fun g' => g' = g.rr (dec g.txt).2)) := by
  have H := Lib.hid h
  have HB := Lib.hid (h.fr (((Fr.refl (fun _ => False) w).alloc _).alloc _) (fun _ _ q => q) : BufAt ((w.alloc (.cells #[.int .i64 11, .int .i64 a, .int .i64 bb, .int .u16 (size : Int), .int .i64 n, .int .u8 (sign.toNat : Int), .int .i32 char, .string ⟨text.toArray⟩, .slice ad cuts.length cap] 27)).alloc (.cells #[.int .i64 0, .string ⟨#[]⟩, .int .i32 0, .int .i64 0] 45)) b g)
  clear h
  go_enter Tryz.func27, Tryz.ntmps27
  go_wp2_with fail
  refine (buf_readRune_some _ b g HB.out ht (fun w' hf => hU w' (((((Fr.refl (fun _ => False) w).alloc _).alloc _)).trans hf))).mono ?_
  rintro e w1 ⟨rfl, A1, F1⟩
  have S1 : BufStep ((w.alloc (.cells #[.int .i64 11, .int .i64 a, .int .i64 bb, .int .u16 (size : Int), .int .i64 n, .int .u8 (sign.toNat : Int), .int .i32 char, .string ⟨text.toArray⟩, .slice ad cuts.length cap] 27)).alloc (.cells #[.int .i64 0, .string ⟨#[]⟩, .int .i32 0, .int .i64 0] 45)) b g w1 (g.rr (dec g.txt).2) := BufStep.of_just A1 rfl F1
  have hT : ToldAt w1 (w.heap.size + 1) := S1.told HB.out (ToldAt.new2 w _)
  have t0 := hT.c0; have t1 := hT.c1; have t2 := hT.c2; have t3 := hT.c3; have z0 := hT.f 0; have z1 := hT.f 1; have z2 := hT.f 2; have z3 := hT.f 3
  have HT := Lib.hid hT
  clear hT
  have HS := Lib.hid S1
  clear S1 F1
  go_wp2_with fail
  refine bodyPost_ret (v := Td.val ⟨(dec g.txt).2, [], (dec g.txt).1, 0⟩) (by simp [results, Tryz.results27, go_sem, t0, t1, t2, t3, Td.val, Td.cells]) rfl ?_
  exact ⟨_, rfl, HS.out.skip (((Fr.refl (fun _ => False) w).alloc _).alloc _) (by omega) HT.out (just4 _ _ _ _ _ _), rfl⟩
set_option maxHeartbeats 1600000 in
set_option maxRecDepth 100000 in
theorem read_12 (b : Nat) (g : Gh) (w : World) (h : BufAt w b g) (hlr : g.lr ≠ 0) (ho : 0 < g.off) :
    Calls Tryz.prog 27 #[.pointer (some ⟨b, 0, none⟩), .agg #[.int .i64 12, .int .i64 a, .int .i64 bb, .int .u16 (size : Int), .int .i64 n, .int .u8 (sign.toNat : Int), .int .i32 char, .string ⟨text.toArray⟩, .slice ad cuts.length cap]] w (WDPost w b g ⟨0, [], 0, 0⟩ (fun g' => g' = { g with off := g.off - 1, lr := 0 })) := by
  have H := Lib.hid h
  have HB := Lib.hid (h.fr (((Fr.refl (fun _ => False) w).alloc _).alloc _) (fun _ _ q => q) : BufAt ((w.alloc (.cells #[.int .i64 12, .int .i64 a, .int .i64 bb, .int .u16 (size : Int), .int .i64 n, .int .u8 (sign.toNat : Int), .int .i32 char, .string ⟨text.toArray⟩, .slice ad cuts.length cap] 27)).alloc (.cells #[.int .i64 0, .string ⟨#[]⟩, .int .i32 0, .int .i64 0] 45)) b g)
  clear h
  go_enter Tryz.func27, Tryz.ntmps27
  go_wp2_with fail
  refine (buf_unreadByte_yes _ b g HB.out hlr ho).mono ?_
  rintro e w1 ⟨rfl, A1, F1⟩
  have S1 : BufStep ((w.alloc (.cells #[.int .i64 12, .int .i64 a, .int .i64 bb, .int .u16 (size : Int), .int .i64 n, .int .u8 (sign.toNat : Int), .int .i32 char, .string ⟨text.toArray⟩, .slice ad cuts.length cap] 27)).alloc (.cells #[.int .i64 0, .string ⟨#[]⟩, .int .i32 0, .int .i64 0] 45)) b g w1 ({ g with off := g.off - 1, lr := 0 }) := BufStep.of_just A1 rfl F1
  have hT : ToldAt w1 (w.heap.size + 1) := S1.told HB.out (ToldAt.new2 w _)
  have t0 := hT.c0; have t1 := hT.c1; have t2 := hT.c2; have t3 := hT.c3; have z0 := hT.f 0; have z1 := hT.f 1; have z2 := hT.f 2; have z3 := hT.f 3
  have HT := Lib.hid hT
  clear hT
  have HS := Lib.hid S1
  clear S1 F1
  go_wp2_with fail
  refine (said_nil _).mono ?_
  rintro e w2 ⟨rfl, rfl⟩
  go_wp2_with fail
  refine bodyPost_ret (v := Td.val ⟨0, [], 0, 0⟩) (by simp [results, Tryz.results27, go_sem, t0, t1, t2, t3, Td.val, Td.cells]) rfl ?_
  exact ⟨_, rfl, HS.out.skip (((Fr.refl (fun _ => False) w).alloc _).alloc _) (by omega) HT.out (just4 _ _ _ _ _ _), rfl⟩
set_option maxHeartbeats 1600000 in
set_option maxRecDepth 100000 in
theorem read_13 (b : Nat) (g : Gh) (w : World) (h : BufAt w b g) (k : Nat) (hlr : g.lr = (k : Int)) (hk : 0 < k) (hk4 : k ≤ 4) (ho : k ≤ g.off) :
    Calls Tryz.prog 27 #[.pointer (some ⟨b, 0, none⟩), .agg #[.int .i64 13, .int .i64 a, .int .i64 bb, .int .u16 (size : Int), .int .i64 n, .int .u8 (sign.toNat : Int), .int .i32 char, .string ⟨text.toArray⟩, .slice ad cuts.length cap]] w (WDPost w b g ⟨0, [], 0, 0⟩ (fun g' => g' = { g with off := g.off - k, lr := 0 })) := by
  have H := Lib.hid h
  have HB := Lib.hid (h.fr (((Fr.refl (fun _ => False) w).alloc _).alloc _) (fun _ _ q => q) : BufAt ((w.alloc (.cells #[.int .i64 13, .int .i64 a, .int .i64 bb, .int .u16 (size : Int), .int .i64 n, .int .u8 (sign.toNat : Int), .int .i32 char, .string ⟨text.toArray⟩, .slice ad cuts.length cap] 27)).alloc (.cells #[.int .i64 0, .string ⟨#[]⟩, .int .i32 0, .int .i64 0] 45)) b g)
  clear h
  go_enter Tryz.func27, Tryz.ntmps27
  go_wp2_with fail
  refine (buf_unreadRune_yes _ b g k HB.out hlr hk hk4 ho).mono ?_
  rintro e w1 ⟨rfl, A1, F1⟩
  have S1 : BufStep ((w.alloc (.cells #[.int .i64 13, .int .i64 a, .int .i64 bb, .int .u16 (size : Int), .int .i64 n, .int .u8 (sign.toNat : Int), .int .i32 char, .string ⟨text.toArray⟩, .slice ad cuts.length cap] 27)).alloc (.cells #[.int .i64 0, .string ⟨#[]⟩, .int .i32 0, .int .i64 0] 45)) b g w1 ({ g with off := g.off - k, lr := 0 }) := BufStep.of_just A1 rfl F1
  have hT : ToldAt w1 (w.heap.size + 1) := S1.told HB.out (ToldAt.new2 w _)
  have t0 := hT.c0; have t1 := hT.c1; have t2 := hT.c2; have t3 := hT.c3; have z0 := hT.f 0; have z1 := hT.f 1; have z2 := hT.f 2; have z3 := hT.f 3
  have HT := Lib.hid hT
  clear hT
  have HS := Lib.hid S1
  clear S1 F1
  go_wp2_with fail
  refine (said_nil _).mono ?_
  rintro e w2 ⟨rfl, rfl⟩
  go_wp2_with fail
  refine bodyPost_ret (v := Td.val ⟨0, [], 0, 0⟩) (by simp [results, Tryz.results27, go_sem, t0, t1, t2, t3, Td.val, Td.cells]) rfl ?_
  exact ⟨_, rfl, HS.out.skip (((Fr.refl (fun _ => False) w).alloc _).alloc _) (by omega) HT.out (just4 _ _ _ _ _ _), rfl⟩
set_option maxHeartbeats 1600000 in
set_option maxRecDepth 100000 in
theorem read_10n (b : Nat) (g : Gh) (w : World) (h : BufAt w b g) (hk : upTo sign g.txt = none) (ea : Addr) (he : w.cell? ⟨0, 0, none⟩ = some (errV ea)) :
    Calls Tryz.prog 27 #[.pointer (some ⟨b, 0, none⟩), .agg #[.int .i64 10, .int .i64 a, .int .i64 bb, .int .u16 (size : Int), .int .i64 n, .int .u8 (sign.toNat : Int), .int .i32 char, .string ⟨text.toArray⟩, .slice ad cuts.length cap]] w (WDPost w b g ⟨0, g.txt.take (takeN sign g.txt), 0, 1⟩ (fun g' => g' = g.rl (takeN sign g.txt))) := by
  have H := Lib.hid h
  have HB := Lib.hid (h.fr (((Fr.refl (fun _ => False) w).alloc _).alloc _) (fun _ _ q => q) : BufAt ((w.alloc (.cells #[.int .i64 10, .int .i64 a, .int .i64 bb, .int .u16 (size : Int), .int .i64 n, .int .u8 (sign.toNat : Int), .int .i32 char, .string ⟨text.toArray⟩, .slice ad cuts.length cap] 27)).alloc (.cells #[.int .i64 0, .string ⟨#[]⟩, .int .i32 0, .int .i64 0] 45)) b g)
  clear h
  have hbe : b ≠ 0 := fun q => H.out.ne_err he (.inl q.symm)
  have he0 : ((w.alloc (.cells #[.int .i64 10, .int .i64 a, .int .i64 bb, .int .u16 (size : Int), .int .i64 n, .int .u8 (sign.toNat : Int), .int .i32 char, .string ⟨text.toArray⟩, .slice ad cuts.length cap] 27)).alloc (.cells #[.int .i64 0, .string ⟨#[]⟩, .int .i32 0, .int .i64 0] 45)).cell? ⟨0, 0, none⟩ = some (errV ea) := (((((Fr.refl (fun _ => False) w).alloc _).alloc _) : Fr _ w ((w.alloc (.cells #[.int .i64 10, .int .i64 a, .int .i64 bb, .int .u16 (size : Int), .int .i64 n, .int .u8 (sign.toNat : Int), .int .i32 char, .string ⟨text.toArray⟩, .slice ad cuts.length cap] 27)).alloc (.cells #[.int .i64 0, .string ⟨#[]⟩, .int .i32 0, .int .i64 0] 45))).cell (World.block_lt_of_cell? _ _ he) (fun q => q)).trans he
  have HE0 := Lib.hid he0
  clear he he0
  go_enter Tryz.func27, Tryz.ntmps27
  go_wp2_with fail
  refine (buf_readString _ b g sign ea HB.out HE0.out).mono ?_
  rintro e w1 ⟨rfl, A1, F1⟩
  have S1 : BufStep ((w.alloc (.cells #[.int .i64 10, .int .i64 a, .int .i64 bb, .int .u16 (size : Int), .int .i64 n, .int .u8 (sign.toNat : Int), .int .i32 char, .string ⟨text.toArray⟩, .slice ad cuts.length cap] 27)).alloc (.cells #[.int .i64 0, .string ⟨#[]⟩, .int .i32 0, .int .i64 0] 45)) b g w1 (g.rl (takeN sign g.txt)) := BufStep.of_just A1 rfl F1
  have hT : ToldAt w1 (w.heap.size + 1) := S1.told HB.out (ToldAt.new2 w _)
  have t0 := hT.c0; have t1 := hT.c1; have t2 := hT.c2; have t3 := hT.c3; have z0 := hT.f 0; have z1 := hT.f 1; have z2 := hT.f 2; have z3 := hT.f 3
  have HT := Lib.hid hT
  clear hT
  have he1 : w1.cell? ⟨0, 0, none⟩ = some (errV ea) := (F1.cell (World.block_lt_of_cell? _ _ HE0.out) (fun q => hbe q.symm)).trans HE0.out
  have HS := Lib.hid S1
  clear S1 F1
  have hlo : LineOut (upTo sign g.txt) ea = errV ea := by rw [hk]; rfl
  rw [hlo]
  go_wp2_with fail
  refine (said_eof _ ea (by exact he1)).mono ?_
  rintro e w2 ⟨rfl, rfl⟩
  go_wp2_with fail
  refine bodyPost_ret (v := Td.val ⟨0, g.txt.take (takeN sign g.txt), 0, 1⟩) (by simp [results, Tryz.results27, go_sem, t0, t1, t2, t3, Td.val, Td.cells]) rfl ?_
  exact ⟨_, rfl, HS.out.skip (((Fr.refl (fun _ => False) w).alloc _).alloc _) (by omega) HT.out (just4 _ _ _ _ _ _), rfl⟩
set_option maxHeartbeats 1600000 in
set_option maxRecDepth 100000 in
theorem read_10 (b : Nat) (g : Gh) (w : World) (h : BufAt w b g) (k : Nat) (hk : upTo sign g.txt = some k) (ea : Addr) (he : w.cell? ⟨0, 0, none⟩ = some (errV ea)) :
    Calls Tryz.prog 27 #[.pointer (some ⟨b, 0, none⟩), .agg #[.int .i64 10, .int .i64 a, .int .i64 bb, .int .u16 (size : Int), .int .i64 n, .int .u8 (sign.toNat : Int), .int .i32 char, .string ⟨text.toArray⟩, .slice ad cuts.length cap]] w (WDPost w b g ⟨0, g.txt.take (takeN sign g.txt), 0, 0⟩ (fun g' => g' = g.rl (takeN sign g.txt))) := by
  have H := Lib.hid h
  have HB := Lib.hid (h.fr (((Fr.refl (fun _ => False) w).alloc _).alloc _) (fun _ _ q => q) : BufAt ((w.alloc (.cells #[.int .i64 10, .int .i64 a, .int .i64 bb, .int .u16 (size : Int), .int .i64 n, .int .u8 (sign.toNat : Int), .int .i32 char, .string ⟨text.toArray⟩, .slice ad cuts.length cap] 27)).alloc (.cells #[.int .i64 0, .string ⟨#[]⟩, .int .i32 0, .int .i64 0] 45)) b g)
  clear h
  have hbe : b ≠ 0 := fun q => H.out.ne_err he (.inl q.symm)
  have he0 : ((w.alloc (.cells #[.int .i64 10, .int .i64 a, .int .i64 bb, .int .u16 (size : Int), .int .i64 n, .int .u8 (sign.toNat : Int), .int .i32 char, .string ⟨text.toArray⟩, .slice ad cuts.length cap] 27)).alloc (.cells #[.int .i64 0, .string ⟨#[]⟩, .int .i32 0, .int .i64 0] 45)).cell? ⟨0, 0, none⟩ = some (errV ea) := (((((Fr.refl (fun _ => False) w).alloc _).alloc _) : Fr _ w ((w.alloc (.cells #[.int .i64 10, .int .i64 a, .int .i64 bb, .int .u16 (size : Int), .int .i64 n, .int .u8 (sign.toNat : Int), .int .i32 char, .string ⟨text.toArray⟩, .slice ad cuts.length cap] 27)).alloc (.cells #[.int .i64 0, .string ⟨#[]⟩, .int .i32 0, .int .i64 0] 45))).cell (World.block_lt_of_cell? _ _ he) (fun q => q)).trans he
  have HE0 := Lib.hid he0
  clear he he0
  go_enter Tryz.func27, Tryz.ntmps27
  go_wp2_with fail
  refine (buf_readString _ b g sign ea HB.out HE0.out).mono ?_
  rintro e w1 ⟨rfl, A1, F1⟩
  have S1 : BufStep ((w.alloc (.cells #[.int .i64 10, .int .i64 a, .int .i64 bb, .int .u16 (size : Int), .int .i64 n, .int .u8 (sign.toNat : Int), .int .i32 char, .string ⟨text.toArray⟩, .slice ad cuts.length cap] 27)).alloc (.cells #[.int .i64 0, .string ⟨#[]⟩, .int .i32 0, .int .i64 0] 45)) b g w1 (g.rl (takeN sign g.txt)) := BufStep.of_just A1 rfl F1
  have hT : ToldAt w1 (w.heap.size + 1) := S1.told HB.out (ToldAt.new2 w _)
  have t0 := hT.c0; have t1 := hT.c1; have t2 := hT.c2; have t3 := hT.c3; have z0 := hT.f 0; have z1 := hT.f 1; have z2 := hT.f 2; have z3 := hT.f 3
  have HT := Lib.hid hT
  clear hT
  have he1 : w1.cell? ⟨0, 0, none⟩ = some (errV ea) := (F1.cell (World.block_lt_of_cell? _ _ HE0.out) (fun q => hbe q.symm)).trans HE0.out
  have HS := Lib.hid S1
  clear S1 F1
  have hlo : LineOut (upTo sign g.txt) ea = .nilIface := by rw [hk]; rfl
  rw [hlo]
  go_wp2_with fail
  refine (said_nil _).mono ?_
  rintro e w2 ⟨rfl, rfl⟩
  go_wp2_with fail
  refine bodyPost_ret (v := Td.val ⟨0, g.txt.take (takeN sign g.txt), 0, 0⟩) (by simp [results, Tryz.results27, go_sem, t0, t1, t2, t3, Td.val, Td.cells]) rfl ?_
  exact ⟨_, rfl, HS.out.skip (((Fr.refl (fun _ => False) w).alloc _).alloc _) (by omega) HT.out (just4 _ _ _ _ _ _), rfl⟩
set_option maxHeartbeats 1600000 in
set_option maxRecDepth 100000 in
theorem read_9n (b : Nat) (g : Gh) (w : World) (h : BufAt w b g) (hk : upTo sign g.txt = none) (hsz : g.txt.length ≤ 140737488355328) (ea : Addr) (he : w.cell? ⟨0, 0, none⟩ = some (errV ea)) :
    Calls Tryz.prog 27 #[.pointer (some ⟨b, 0, none⟩), .agg #[.int .i64 9, .int .i64 a, .int .i64 bb, .int .u16 (size : Int), .int .i64 n, .int .u8 (sign.toNat : Int), .int .i32 char, .string ⟨text.toArray⟩, .slice ad cuts.length cap]] w (WDPost w b g ⟨0, g.txt.take (takeN sign g.txt), 0, 1⟩ (fun g' => g' = g.rl (takeN sign g.txt))) := by
  have H := Lib.hid h
  have HB := Lib.hid (h.fr (((Fr.refl (fun _ => False) w).alloc _).alloc _) (fun _ _ q => q) : BufAt ((w.alloc (.cells #[.int .i64 9, .int .i64 a, .int .i64 bb, .int .u16 (size : Int), .int .i64 n, .int .u8 (sign.toNat : Int), .int .i32 char, .string ⟨text.toArray⟩, .slice ad cuts.length cap] 27)).alloc (.cells #[.int .i64 0, .string ⟨#[]⟩, .int .i32 0, .int .i64 0] 45)) b g)
  clear h
  have hbe : b ≠ 0 := fun q => H.out.ne_err he (.inl q.symm)
  have he0 : ((w.alloc (.cells #[.int .i64 9, .int .i64 a, .int .i64 bb, .int .u16 (size : Int), .int .i64 n, .int .u8 (sign.toNat : Int), .int .i32 char, .string ⟨text.toArray⟩, .slice ad cuts.length cap] 27)).alloc (.cells #[.int .i64 0, .string ⟨#[]⟩, .int .i32 0, .int .i64 0] 45)).cell? ⟨0, 0, none⟩ = some (errV ea) := (((((Fr.refl (fun _ => False) w).alloc _).alloc _) : Fr _ w ((w.alloc (.cells #[.int .i64 9, .int .i64 a, .int .i64 bb, .int .u16 (size : Int), .int .i64 n, .int .u8 (sign.toNat : Int), .int .i32 char, .string ⟨text.toArray⟩, .slice ad cuts.length cap] 27)).alloc (.cells #[.int .i64 0, .string ⟨#[]⟩, .int .i32 0, .int .i64 0] 45))).cell (World.block_lt_of_cell? _ _ he) (fun q => q)).trans he
  have HE0 := Lib.hid he0
  clear he he0
  go_enter Tryz.func27, Tryz.ntmps27
  go_wp2_with fail
  refine (buf_readBytes _ b g sign ea HB.out hsz HE0.out).mono ?_
  rintro e w1 ⟨A, k2, c2, rfl, hsrc, A1, F1⟩
  have S1 : BufStep ((w.alloc (.cells #[.int .i64 9, .int .i64 a, .int .i64 bb, .int .u16 (size : Int), .int .i64 n, .int .u8 (sign.toNat : Int), .int .i32 char, .string ⟨text.toArray⟩, .slice ad cuts.length cap] 27)).alloc (.cells #[.int .i64 0, .string ⟨#[]⟩, .int .i32 0, .int .i64 0] 45)) b g w1 (g.rl (takeN sign g.txt)) := BufStep.of_just A1 rfl F1
  have HSRC := Lib.hid hsrc
  clear hsrc
  have hlo : LineOut (upTo sign g.txt) ea = errV ea := by rw [hk]; rfl
  rw [hlo]
  have hT : ToldAt w1 (w.heap.size + 1) := S1.told HB.out (ToldAt.new2 w _)
  have t0 := hT.c0; have t1 := hT.c1; have t2 := hT.c2; have t3 := hT.c3; have z0 := hT.f 0; have z1 := hT.f 1; have z2 := hT.f 2; have z3 := hT.f 3
  have HT := Lib.hid hT
  clear hT
  have he1 : w1.cell? ⟨0, 0, none⟩ = some (errV ea) := (F1.cell (World.block_lt_of_cell? _ _ HE0.out) (fun q => hbe q.symm)).trans HE0.out
  have HS := Lib.hid S1
  clear S1 F1
  have hcs : ∀ w', Src w' (.slice A k2 c2) (g.txt.take (takeN sign g.txt)) → (convert 48 9 (.slice A k2 c2)).run Tryz.prog w' = .ok (.string ⟨(g.txt.take (takeN sign g.txt)).toArray⟩) w' := fun w' h => conv_str h
  go_wp2_with fail
  go_region_held3 (fun w' => Src w' (.slice A k2 c2) (g.txt.take (takeN sign g.txt))) (first | exact HSRC.out.of_heap rfl | exact HSRC.out.told HT.out rfl _ _ _ _) ((go_at_call 40; refine (said_eof _ ea (by exact he1)).mono ?_; rintro e w2 ⟨rfl, rfl⟩))
  all_goals
    go_wp2_with fail
    refine bodyPost_ret (v := Td.val ⟨0, g.txt.take (takeN sign g.txt), 0, 1⟩) (by simp [results, Tryz.results27, go_sem, t0, t1, t2, t3, Td.val, Td.cells]) rfl ?_
    exact ⟨_, rfl, HS.out.skip (((Fr.refl (fun _ => False) w).alloc _).alloc _) (by omega) HT.out (by first | exact just4 _ _ _ _ _ _ | exact (((Fr.refl (Just _) _).drew).trans (just4 _ _ _ _ _ _))), rfl⟩
set_option maxHeartbeats 1600000 in
set_option maxRecDepth 100000 in
theorem read_9 (b : Nat) (g : Gh) (w : World) (h : BufAt w b g) (k : Nat) (hk : upTo sign g.txt = some k) (hsz : g.txt.length ≤ 140737488355328) (ea : Addr) (he : w.cell? ⟨0, 0, none⟩ = some (errV ea)) :
    Calls Tryz.prog 27 #[.pointer (some ⟨b, 0, none⟩), .agg #[.int .i64 9, .int .i64 a, .int .i64 bb, .int .u16 (size : Int), .int .i64 n, .int .u8 (sign.toNat : Int), .int .i32 char, .string ⟨text.toArray⟩, .slice ad cuts.length cap]] w (WDPost w b g ⟨0, g.txt.take (takeN sign g.txt), 0, 0⟩ (fun g' => g' = g.rl (takeN sign g.txt))) := by
  have H := Lib.hid h
  have HB := Lib.hid (h.fr (((Fr.refl (fun _ => False) w).alloc _).alloc _) (fun _ _ q => q) : BufAt ((w.alloc (.cells #[.int .i64 9, .int .i64 a, .int .i64 bb, .int .u16 (size : Int), .int .i64 n, .int .u8 (sign.toNat : Int), .int .i32 char, .string ⟨text.toArray⟩, .slice ad cuts.length cap] 27)).alloc (.cells #[.int .i64 0, .string ⟨#[]⟩, .int .i32 0, .int .i64 0] 45)) b g)
  clear h
  have hbe : b ≠ 0 := fun q => H.out.ne_err he (.inl q.symm)
  have he0 : ((w.alloc (.cells #[.int .i64 9, .int .i64 a, .int .i64 bb, .int .u16 (size : Int), .int .i64 n, .int .u8 (sign.toNat : Int), .int .i32 char, .string ⟨text.toArray⟩, .slice ad cuts.length cap] 27)).alloc (.cells #[.int .i64 0, .string ⟨#[]⟩, .int .i32 0, .int .i64 0] 45)).cell? ⟨0, 0, none⟩ = some (errV ea) := (((((Fr.refl (fun _ => False) w).alloc _).alloc _) : Fr _ w ((w.alloc (.cells #[.int .i64 9, .int .i64 a, .int .i64 bb, .int .u16 (size : Int), .int .i64 n, .int .u8 (sign.toNat : Int), .int .i32 char, .string ⟨text.toArray⟩, .slice ad cuts.length cap] 27)).alloc (.cells #[.int .i64 0, .string ⟨#[]⟩, .int .i32 0, .int .i64 0] 45))).cell (World.block_lt_of_cell? _ _ he) (fun q => q)).trans he
  have HE0 := Lib.hid he0
  clear he he0
  go_enter Tryz.func27, Tryz.ntmps27
  go_wp2_with fail
  refine (buf_readBytes _ b g sign ea HB.out hsz HE0.out).mono ?_
  rintro e w1 ⟨A, k2, c2, rfl, hsrc, A1, F1⟩
  have S1 : BufStep ((w.alloc (.cells #[.int .i64 9, .int .i64 a, .int .i64 bb, .int .u16 (size : Int), .int .i64 n, .int .u8 (sign.toNat : Int), .int .i32 char, .string ⟨text.toArray⟩, .slice ad cuts.length cap] 27)).alloc (.cells #[.int .i64 0, .string ⟨#[]⟩, .int .i32 0, .int .i64 0] 45)) b g w1 (g.rl (takeN sign g.txt)) := BufStep.of_just A1 rfl F1
  have HSRC := Lib.hid hsrc
  clear hsrc
  have hlo : LineOut (upTo sign g.txt) ea = .nilIface := by rw [hk]; rfl
  rw [hlo]
  have hT : ToldAt w1 (w.heap.size + 1) := S1.told HB.out (ToldAt.new2 w _)
  have t0 := hT.c0; have t1 := hT.c1; have t2 := hT.c2; have t3 := hT.c3; have z0 := hT.f 0; have z1 := hT.f 1; have z2 := hT.f 2; have z3 := hT.f 3
  have HT := Lib.hid hT
  clear hT
  have he1 : w1.cell? ⟨0, 0, none⟩ = some (errV ea) := (F1.cell (World.block_lt_of_cell? _ _ HE0.out) (fun q => hbe q.symm)).trans HE0.out
  have HS := Lib.hid S1
  clear S1 F1
  have hcs : ∀ w', Src w' (.slice A k2 c2) (g.txt.take (takeN sign g.txt)) → (convert 48 9 (.slice A k2 c2)).run Tryz.prog w' = .ok (.string ⟨(g.txt.take (takeN sign g.txt)).toArray⟩) w' := fun w' h => conv_str h
  go_wp2_with fail
  go_region_held3 (fun w' => Src w' (.slice A k2 c2) (g.txt.take (takeN sign g.txt))) (first | exact HSRC.out.of_heap rfl | exact HSRC.out.told HT.out rfl _ _ _ _) ((go_at_call 40; refine (said_nil _).mono ?_; rintro e w2 ⟨rfl, rfl⟩))
  all_goals
    go_wp2_with fail
    refine bodyPost_ret (v := Td.val ⟨0, g.txt.take (takeN sign g.txt), 0, 0⟩) (by simp [results, Tryz.results27, go_sem, t0, t1, t2, t3, Td.val, Td.cells]) rfl ?_
    exact ⟨_, rfl, HS.out.skip (((Fr.refl (fun _ => False) w).alloc _).alloc _) (by omega) HT.out (by first | exact just4 _ _ _ _ _ _ | exact (((Fr.refl (Just _) _).drew).trans (just4 _ _ _ _ _ _))), rfl⟩
end
end Go.Proofs.YtkggebhkjgjijaaGreatDoor
