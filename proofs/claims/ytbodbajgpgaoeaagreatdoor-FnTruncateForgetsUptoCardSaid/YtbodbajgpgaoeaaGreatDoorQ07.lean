/- CallR, CallS, CallT. -/
import Derived.Test.YtbodbajgpgaoeaaGreatDoorQ06
namespace Go.Proofs.YtbodbajgpgaoeaaGreatDoor
open Go Go.RowKit

set_option maxHeartbeats 800000 in
set_option maxRecDepth 100000 in
/-- Read of an empty buffer, into no bytes. -/
theorem buf_read_nil (w : World) (b : Nat) (g : Gh) (D : Option Addr) (n c : Nat) (hn : n = 0) (h : BufAt w b g) (hlt : g.len ≤ g.off) :
    Calls Tryz.prog 77 #[.pointer (some ⟨b, 0, none⟩), .slice D n c] w fun e w' => e = .returned (.tuple #[.int .i64 0, .nilIface]) ∧ BufAt w' b g.rs ∧ Fr (Just b) w w' := by
  subst hn
  have c2 := h.c2
  have f2 := h.f 2
  have H := Lib.hid h
  clear h
  go_enter Tryz.func77, Tryz.ntmps77
  go_wp2_with fail
  have S1 := BufStep.lr0 H.out 0
  refine (buf_empty_yes _ b _ S1.at' hlt).mono ?_
  rintro e w1 ⟨rfl, H1, F1⟩
  go_wp2_with fail
  refine (buf_reset _ b _ H1).mono ?_
  rintro e w2 ⟨rfl, H2, F2⟩
  have hF : Fr (Just b) w w2 := ((just_set w b 2 _).trans' F1 (fun _ _ q => q.elim)).trans F2
  have HF := Lib.hid hF
  have HA := Lib.hid H2
  clear S1 H1 F1 H2 F2 hF
  go_wp2_with fail
  go_ret2
  exact ⟨rfl, HA.out, HF.out⟩

theorem BufAt.txt_nil {w : World} {b : Nat} {g : Gh} (h : BufAt w b g) (ht : g.txt = []) : g.len ≤ g.off := by
  have := g.txt_length h.lc
  rw [ht] at this
  simp at this
  omega
theorem BufAt.txt_pos {w : World} {b : Nat} {g : Gh} (h : BufAt w b g) (ht : g.txt ≠ []) : g.off < g.len := by
  have := g.txt_length h.lc
  have := List.length_pos_iff.2 ht
  omega
/-- A source of bytes stands when what is told is laid. -/
theorem Src.told {w w' : World} {x : Nat} {v : Value} {l : List UInt8} (h : Src w v l) (hT : ToldAt w x) (hh : w'.heap = w.heap) (a b c d : Value) : Src ((((w'.setCell ⟨x, 0, none⟩ a).setCell ⟨x, 1, none⟩ b).setCell ⟨x, 2, none⟩ c).setCell ⟨x, 3, none⟩ d) v l := by
  refine Src.fr (S := Just x) (h.of_heap hh) (just4 w' x a b c d) ?_
  intro i cc E fz q hcc j y hj
  obtain rfl : i = x := q
  rw [hh, hT.st] at hcc
  injection hcc with hcc
  injection hcc with hcc
  subst hcc
  match j, hj with
  | 0, hj => simp at hj
  | 1, hj => simp at hj
  | 2, hj => simp at hj
  | 3, hj => simp at hj
  | j + 4, hj => simp at hj

section
variable (a bb : Int) (size : Nat) (n : Int) (sign : UInt8) (char : Int) (text : List UInt8) (cuts : List Nat) (ad : Option Addr) (cap : Nat)
set_option maxHeartbeats 1600000 in
set_option maxRecDepth 100000 in
theorem read_7 (b : Nat) (g : Gh) (w : World) (h : BufAt w b g) (k m : Nat) (hm : g.off + m = g.len) (hk : k = min size m) (hsize : size ≤ 65535) :
    Calls Tryz.prog 50 #[.pointer (some ⟨b, 0, none⟩), .agg #[.int .i64 7, .int .i64 a, .int .i64 bb, .int .u16 (size : Int), .int .i64 n, .int .u8 (sign.toNat : Int), .int .i32 char, .string ⟨text.toArray⟩, .slice ad cuts.length cap]] w (WDPost w b g ⟨0, g.txt.take k, 0, 0⟩ (fun g' => g' = g.rd k)) := by
  have H := Lib.hid h
  have HB := Lib.hid (h.fr (((Fr.refl (fun _ => False) w).alloc _).alloc _) (fun _ _ q => q) : BufAt ((w.alloc (.cells #[.int .i64 7, .int .i64 a, .int .i64 bb, .int .u16 (size : Int), .int .i64 n, .int .u8 (sign.toNat : Int), .int .i32 char, .string ⟨text.toArray⟩, .slice ad cuts.length cap] 36)).alloc (.cells #[.int .i64 0, .string ⟨#[]⟩, .int .i32 0, .int .i64 0] 39)) b g)
  clear h
  have hcv : IntKind.i64.wrap (size : Int) = (size : Int) := IntWalk.i64_in _ (by omega)
  have HK := Lib.hid hk
  have hkm : k ≤ m := by omega
  clear hk
  go_enter Tryz.func50, Tryz.ntmps50
  go_wp2_with fail
  refine (buf_next _ b g size m k HB.out hm HK.out (by omega)).mono ?_
  rintro e w1 ⟨rfl, A1, F1⟩
  have S1 : BufStep ((w.alloc (.cells #[.int .i64 7, .int .i64 a, .int .i64 bb, .int .u16 (size : Int), .int .i64 n, .int .u8 (sign.toNat : Int), .int .i32 char, .string ⟨text.toArray⟩, .slice ad cuts.length cap] 36)).alloc (.cells #[.int .i64 0, .string ⟨#[]⟩, .int .i32 0, .int .i64 0] 39)) b g w1 (g.rd k) := BufStep.of_just A1 rfl F1
  have hT : ToldAt w1 (w.heap.size + 1) := S1.told HB.out (ToldAt.new2 w _)
  have t0 := hT.c0; have t1 := hT.c1; have t2 := hT.c2; have t3 := hT.c3; have z0 := hT.f 0; have z1 := hT.f 1; have z2 := hT.f 2; have z3 := hT.f 3
  have HT := Lib.hid hT
  clear hT
  have HS := Lib.hid S1
  clear S1 F1
  have hsrc : Src w1 (.slice (cutA g.row g.off g.all.length) k (g.all.length - g.off)) (g.txt.take k) := by
    have h2 := Src.part HS.out.at' g.off k (g.all.length - g.off) (by have := HB.out.lc; simp only [Gh.rd]; omega)
    simp only [Gh.rd] at h2
    rw [g.txt_take k (by omega)] at h2
    exact h2
  have hcs := conv_str hsrc
  clear hsrc
  go_wp2_with fail
  refine bodyPost_ret (v := Td.val ⟨0, g.txt.take k, 0, 0⟩) (by simp [results, Tryz.results50, go_sem, t0, t1, t2, t3, Td.val, Td.cells]) rfl ?_
  exact ⟨_, rfl, HS.out.skip (((Fr.refl (fun _ => False) w).alloc _).alloc _) (by omega) HT.out (just4 _ _ _ _ _ _), rfl⟩
set_option maxHeartbeats 1600000 in
set_option maxRecDepth 100000 in
theorem read_8e (b : Nat) (g : Gh) (w : World) (h : BufAt w b g) (ht : g.txt = []) (ea : Addr) (he : w.cell? ⟨0, 0, none⟩ = some (errV ea)) :
    Calls Tryz.prog 50 #[.pointer (some ⟨b, 0, none⟩), .agg #[.int .i64 8, .int .i64 a, .int .i64 bb, .int .u16 (size : Int), .int .i64 n, .int .u8 (sign.toNat : Int), .int .i32 char, .string ⟨text.toArray⟩, .slice ad cuts.length cap]] w (WDPost w b g ⟨0, [], 0, 1⟩ (fun g' => g' = g.rs)) := by
  have H := Lib.hid h
  have HB := Lib.hid (h.fr (((Fr.refl (fun _ => False) w).alloc _).alloc _) (fun _ _ q => q) : BufAt ((w.alloc (.cells #[.int .i64 8, .int .i64 a, .int .i64 bb, .int .u16 (size : Int), .int .i64 n, .int .u8 (sign.toNat : Int), .int .i32 char, .string ⟨text.toArray⟩, .slice ad cuts.length cap] 36)).alloc (.cells #[.int .i64 0, .string ⟨#[]⟩, .int .i32 0, .int .i64 0] 39)) b g)
  clear h
  have hbe : b ≠ 0 := fun q => H.out.ne_err he (.inl q.symm)
  have he0 : ((w.alloc (.cells #[.int .i64 8, .int .i64 a, .int .i64 bb, .int .u16 (size : Int), .int .i64 n, .int .u8 (sign.toNat : Int), .int .i32 char, .string ⟨text.toArray⟩, .slice ad cuts.length cap] 36)).alloc (.cells #[.int .i64 0, .string ⟨#[]⟩, .int .i32 0, .int .i64 0] 39)).cell? ⟨0, 0, none⟩ = some (errV ea) := (((((Fr.refl (fun _ => False) w).alloc _).alloc _) : Fr _ w ((w.alloc (.cells #[.int .i64 8, .int .i64 a, .int .i64 bb, .int .u16 (size : Int), .int .i64 n, .int .u8 (sign.toNat : Int), .int .i32 char, .string ⟨text.toArray⟩, .slice ad cuts.length cap] 36)).alloc (.cells #[.int .i64 0, .string ⟨#[]⟩, .int .i32 0, .int .i64 0] 39))).cell (World.block_lt_of_cell? _ _ he) (fun q => q)).trans he
  have HE0 := Lib.hid he0
  clear he he0
  go_enter Tryz.func50, Tryz.ntmps50
  go_wp2_with fail
  refine (buf_readByte_eof _ b g ea HB.out (H.out.txt_nil ht) HE0.out hbe).mono ?_
  rintro e w1 ⟨rfl, A1, F1⟩
  have S1 : BufStep ((w.alloc (.cells #[.int .i64 8, .int .i64 a, .int .i64 bb, .int .u16 (size : Int), .int .i64 n, .int .u8 (sign.toNat : Int), .int .i32 char, .string ⟨text.toArray⟩, .slice ad cuts.length cap] 36)).alloc (.cells #[.int .i64 0, .string ⟨#[]⟩, .int .i32 0, .int .i64 0] 39)) b g w1 (g.rs) := BufStep.of_just A1 rfl F1
  have hT : ToldAt w1 (w.heap.size + 1) := S1.told HB.out (ToldAt.new2 w _)
  have t0 := hT.c0; have t1 := hT.c1; have t2 := hT.c2; have t3 := hT.c3; have z0 := hT.f 0; have z1 := hT.f 1; have z2 := hT.f 2; have z3 := hT.f 3
  have HT := Lib.hid hT
  clear hT
  have he1 : w1.cell? ⟨0, 0, none⟩ = some (errV ea) := (F1.cell (World.block_lt_of_cell? _ _ HE0.out) (fun q => hbe q.symm)).trans HE0.out
  have HS := Lib.hid S1
  clear S1 F1
  go_wp2_with fail
  refine (said_eof _ ea (by exact he1)).mono ?_
  rintro e w2 ⟨rfl, rfl⟩
  go_wp2_with fail
  refine bodyPost_ret (v := Td.val ⟨0, [], 0, 1⟩) (by simp [results, Tryz.results50, go_sem, t0, t1, t2, t3, Td.val, Td.cells]) rfl ?_
  exact ⟨_, rfl, HS.out.skip (((Fr.refl (fun _ => False) w).alloc _).alloc _) (by omega) HT.out (just4 _ _ _ _ _ _), rfl⟩
set_option maxHeartbeats 1600000 in
set_option maxRecDepth 100000 in
theorem read_8 (b : Nat) (g : Gh) (w : World) (h : BufAt w b g) (x : UInt8) (t : List UInt8) (ht : g.txt = x :: t) :
    Calls Tryz.prog 50 #[.pointer (some ⟨b, 0, none⟩), .agg #[.int .i64 8, .int .i64 a, .int .i64 bb, .int .u16 (size : Int), .int .i64 n, .int .u8 (sign.toNat : Int), .int .i32 char, .string ⟨text.toArray⟩, .slice ad cuts.length cap]] w (WDPost w b g ⟨0, [], x.toNat, 0⟩ (fun g' => g' = g.rd 1)) := by
  have H := Lib.hid h
  have HB := Lib.hid (h.fr (((Fr.refl (fun _ => False) w).alloc _).alloc _) (fun _ _ q => q) : BufAt ((w.alloc (.cells #[.int .i64 8, .int .i64 a, .int .i64 bb, .int .u16 (size : Int), .int .i64 n, .int .u8 (sign.toNat : Int), .int .i32 char, .string ⟨text.toArray⟩, .slice ad cuts.length cap] 36)).alloc (.cells #[.int .i64 0, .string ⟨#[]⟩, .int .i32 0, .int .i64 0] 39)) b g)
  clear h
  have hcv : IntKind.i32.wrap (x.toNat : Int) = (x.toNat : Int) := by have := x.toNat_lt; exact IntWalk.i32_in _ (by omega)
  go_enter Tryz.func50, Tryz.ntmps50
  go_wp2_with fail
  refine (buf_readByte_some _ b g x t HB.out ht).mono ?_
  rintro e w1 ⟨rfl, A1, F1⟩
  have S1 : BufStep ((w.alloc (.cells #[.int .i64 8, .int .i64 a, .int .i64 bb, .int .u16 (size : Int), .int .i64 n, .int .u8 (sign.toNat : Int), .int .i32 char, .string ⟨text.toArray⟩, .slice ad cuts.length cap] 36)).alloc (.cells #[.int .i64 0, .string ⟨#[]⟩, .int .i32 0, .int .i64 0] 39)) b g w1 (g.rd 1) := BufStep.of_just A1 rfl F1
  have hT : ToldAt w1 (w.heap.size + 1) := S1.told HB.out (ToldAt.new2 w _)
  have t0 := hT.c0; have t1 := hT.c1; have t2 := hT.c2; have t3 := hT.c3; have z0 := hT.f 0; have z1 := hT.f 1; have z2 := hT.f 2; have z3 := hT.f 3
  have HT := Lib.hid hT
  clear hT
  have HS := Lib.hid S1
  clear S1 F1
  go_wp2_with fail
  refine bodyPost_ret (v := Td.val ⟨0, [], x.toNat, 0⟩) (by simp [results, Tryz.results50, go_sem, t0, t1, t2, t3, Td.val, Td.cells]) rfl ?_
  exact ⟨_, rfl, HS.out.skip (((Fr.refl (fun _ => False) w).alloc _).alloc _) (by omega) HT.out (just4 _ _ _ _ _ _), rfl⟩
set_option maxHeartbeats 1600000 in
set_option maxRecDepth 100000 in
theorem read_11e (b : Nat) (g : Gh) (w : World) (h : BufAt w b g) (ht : g.txt = []) (ea : Addr) (he : w.cell? ⟨0, 0, none⟩ = some (errV ea)) :
    Calls Tryz.prog 50 #[.pointer (some ⟨b, 0, none⟩), .agg #[.int .i64 11, .int .i64 a, .int .i64 bb, .int .u16 (size : Int), .int .i64 n, .int .u8 (sign.toNat : Int), .int .i32 char, .string ⟨text.toArray⟩, .slice ad cuts.length cap]] w (WDPost w b g ⟨0, [], 0, 1⟩ (fun g' => g' = g.rs)) := by
  have H := Lib.hid h
  have HB := Lib.hid (h.fr (((Fr.refl (fun _ => False) w).alloc _).alloc _) (fun _ _ q => q) : BufAt ((w.alloc (.cells #[.int .i64 11, .int .i64 a, .int .i64 bb, .int .u16 (size : Int), .int .i64 n, .int .u8 (sign.toNat : Int), .int .i32 char, .string ⟨text.toArray⟩, .slice ad cuts.length cap] 36)).alloc (.cells #[.int .i64 0, .string ⟨#[]⟩, .int .i32 0, .int .i64 0] 39)) b g)
  clear h
  have hbe : b ≠ 0 := fun q => H.out.ne_err he (.inl q.symm)
  have he0 : ((w.alloc (.cells #[.int .i64 11, .int .i64 a, .int .i64 bb, .int .u16 (size : Int), .int .i64 n, .int .u8 (sign.toNat : Int), .int .i32 char, .string ⟨text.toArray⟩, .slice ad cuts.length cap] 36)).alloc (.cells #[.int .i64 0, .string ⟨#[]⟩, .int .i32 0, .int .i64 0] 39)).cell? ⟨0, 0, none⟩ = some (errV ea) := (((((Fr.refl (fun _ => False) w).alloc _).alloc _) : Fr _ w ((w.alloc (.cells #[.int .i64 11, .int .i64 a, .int .i64 bb, .int .u16 (size : Int), .int .i64 n, .int .u8 (sign.toNat : Int), .int .i32 char, .string ⟨text.toArray⟩, .slice ad cuts.length cap] 36)).alloc (.cells #[.int .i64 0, .string ⟨#[]⟩, .int .i32 0, .int .i64 0] 39))).cell (World.block_lt_of_cell? _ _ he) (fun q => q)).trans he
  have HE0 := Lib.hid he0
  clear he he0
  go_enter Tryz.func50, Tryz.ntmps50
  go_wp2_with fail
  refine (buf_readRune_eof _ b g ea HB.out (H.out.txt_nil ht) HE0.out hbe).mono ?_
  rintro e w1 ⟨rfl, A1, F1⟩
  have S1 : BufStep ((w.alloc (.cells #[.int .i64 11, .int .i64 a, .int .i64 bb, .int .u16 (size : Int), .int .i64 n, .int .u8 (sign.toNat : Int), .int .i32 char, .string ⟨text.toArray⟩, .slice ad cuts.length cap] 36)).alloc (.cells #[.int .i64 0, .string ⟨#[]⟩, .int .i32 0, .int .i64 0] 39)) b g w1 (g.rs) := BufStep.of_just A1 rfl F1
  have hT : ToldAt w1 (w.heap.size + 1) := S1.told HB.out (ToldAt.new2 w _)
  have t0 := hT.c0; have t1 := hT.c1; have t2 := hT.c2; have t3 := hT.c3; have z0 := hT.f 0; have z1 := hT.f 1; have z2 := hT.f 2; have z3 := hT.f 3
  have HT := Lib.hid hT
  clear hT
  have he1 : w1.cell? ⟨0, 0, none⟩ = some (errV ea) := (F1.cell (World.block_lt_of_cell? _ _ HE0.out) (fun q => hbe q.symm)).trans HE0.out
  have HS := Lib.hid S1
  clear S1 F1
  go_wp2_with fail
  refine (said_eof _ ea (by exact he1)).mono ?_
  rintro e w2 ⟨rfl, rfl⟩
  go_wp2_with fail
  refine bodyPost_ret (v := Td.val ⟨0, [], 0, 1⟩) (by simp [results, Tryz.results50, go_sem, t0, t1, t2, t3, Td.val, Td.cells]) rfl ?_
  exact ⟨_, rfl, HS.out.skip (((Fr.refl (fun _ => False) w).alloc _).alloc _) (by omega) HT.out (just4 _ _ _ _ _ _), rfl⟩
set_option maxHeartbeats 1600000 in
set_option maxRecDepth 100000 in
theorem read_11 (b : Nat) (g : Gh) (w : World) (h : BufAt w b g) (ht : g.txt ≠ []) (hU : ∀ w', Fr (fun _ => False) w w' → Lib.Utf8Tabs 6 7 w') :
    Calls Tryz.prog 50 #[.pointer (some ⟨b, 0, none⟩), .agg #[.int .i64 11, .int .i64 a, .int .i64 bb, .int .u16 (size : Int), .int .i64 n, .int .u8 (sign.toNat : Int), .int .i32 char, .string ⟨text.toArray⟩, .slice ad cuts.length cap]] w (WDPost w b g ⟨(dec g.txt).2, [], (dec g.txt).1, 0⟩ (fun g' => g' = g.rr (dec g.txt).2)) := by
  have H := Lib.hid h
  have HB := Lib.hid (h.fr (((Fr.refl (fun _ => False) w).alloc _).alloc _) (fun _ _ q => q) : BufAt ((w.alloc (.cells #[.int .i64 11, .int .i64 a, .int .i64 bb, .int .u16 (size : Int), .int .i64 n, .int .u8 (sign.toNat : Int), .int .i32 char, .string ⟨text.toArray⟩, .slice ad cuts.length cap] 36)).alloc (.cells #[.int .i64 0, .string ⟨#[]⟩, .int .i32 0, .int .i64 0] 39)) b g)
  clear h
  go_enter Tryz.func50, Tryz.ntmps50
  go_wp2_with fail
  refine (buf_readRune_some _ b g HB.out ht (fun w' hf => hU w' (((((Fr.refl (fun _ => False) w).alloc _).alloc _)).trans hf))).mono ?_
  rintro e w1 ⟨rfl, A1, F1⟩
  have S1 : BufStep ((w.alloc (.cells #[.int .i64 11, .int .i64 a, .int .i64 bb, .int .u16 (size : Int), .int .i64 n, .int .u8 (sign.toNat : Int), .int .i32 char, .string ⟨text.toArray⟩, .slice ad cuts.length cap] 36)).alloc (.cells #[.int .i64 0, .string ⟨#[]⟩, .int .i32 0, .int .i64 0] 39)) b g w1 (g.rr (dec g.txt).2) := BufStep.of_just A1 rfl F1
  have hT : ToldAt w1 (w.heap.size + 1) := S1.told HB.out (ToldAt.new2 w _)
  have t0 := hT.c0; have t1 := hT.c1; have t2 := hT.c2; have t3 := hT.c3; have z0 := hT.f 0; have z1 := hT.f 1; have z2 := hT.f 2; have z3 := hT.f 3
  have HT := Lib.hid hT
  clear hT
  have HS := Lib.hid S1
  clear S1 F1
  go_wp2_with fail
  refine bodyPost_ret (v := Td.val ⟨(dec g.txt).2, [], (dec g.txt).1, 0⟩) (by simp [results, Tryz.results50, go_sem, t0, t1, t2, t3, Td.val, Td.cells]) rfl ?_
  exact ⟨_, rfl, HS.out.skip (((Fr.refl (fun _ => False) w).alloc _).alloc _) (by omega) HT.out (just4 _ _ _ _ _ _), rfl⟩
set_option maxHeartbeats 1600000 in
set_option maxRecDepth 100000 in
theorem read_12 (b : Nat) (g : Gh) (w : World) (h : BufAt w b g) (hlr : g.lr ≠ 0) (ho : 0 < g.off) :
    Calls Tryz.prog 50 #[.pointer (some ⟨b, 0, none⟩), .agg #[.int .i64 12, .int .i64 a, .int .i64 bb, .int .u16 (size : Int), .int .i64 n, .int .u8 (sign.toNat : Int), .int .i32 char, .string ⟨text.toArray⟩, .slice ad cuts.length cap]] w (WDPost w b g ⟨0, [], 0, 0⟩ (fun g' => g' = { g with off := g.off - 1, lr := 0 })) := by
  have H := Lib.hid h
  have HB := Lib.hid (h.fr (((Fr.refl (fun _ => False) w).alloc _).alloc _) (fun _ _ q => q) : BufAt ((w.alloc (.cells #[.int .i64 12, .int .i64 a, .int .i64 bb, .int .u16 (size : Int), .int .i64 n, .int .u8 (sign.toNat : Int), .int .i32 char, .string ⟨text.toArray⟩, .slice ad cuts.length cap] 36)).alloc (.cells #[.int .i64 0, .string ⟨#[]⟩, .int .i32 0, .int .i64 0] 39)) b g)
  clear h
  go_enter Tryz.func50, Tryz.ntmps50
  go_wp2_with fail
  refine (buf_unreadByte_yes _ b g HB.out hlr ho).mono ?_
  rintro e w1 ⟨rfl, A1, F1⟩
  have S1 : BufStep ((w.alloc (.cells #[.int .i64 12, .int .i64 a, .int .i64 bb, .int .u16 (size : Int), .int .i64 n, .int .u8 (sign.toNat : Int), .int .i32 char, .string ⟨text.toArray⟩, .slice ad cuts.length cap] 36)).alloc (.cells #[.int .i64 0, .string ⟨#[]⟩, .int .i32 0, .int .i64 0] 39)) b g w1 ({ g with off := g.off - 1, lr := 0 }) := BufStep.of_just A1 rfl F1
  have hT : ToldAt w1 (w.heap.size + 1) := S1.told HB.out (ToldAt.new2 w _)
  have t0 := hT.c0; have t1 := hT.c1; have t2 := hT.c2; have t3 := hT.c3; have z0 := hT.f 0; have z1 := hT.f 1; have z2 := hT.f 2; have z3 := hT.f 3
  have HT := Lib.hid hT
  clear hT
  have HS := Lib.hid S1
  clear S1 F1
  go_wp2_with fail
  refine (said_nil _).mono ?_
  rintro e w2 ⟨rfl, rfl⟩
  go_wp2_with fail
  refine bodyPost_ret (v := Td.val ⟨0, [], 0, 0⟩) (by simp [results, Tryz.results50, go_sem, t0, t1, t2, t3, Td.val, Td.cells]) rfl ?_
  exact ⟨_, rfl, HS.out.skip (((Fr.refl (fun _ => False) w).alloc _).alloc _) (by omega) HT.out (just4 _ _ _ _ _ _), rfl⟩
set_option maxHeartbeats 1600000 in
set_option maxRecDepth 100000 in
theorem read_13 (b : Nat) (g : Gh) (w : World) (h : BufAt w b g) (k : Nat) (hlr : g.lr = (k : Int)) (hk : 0 < k) (hk4 : k ≤ 4) (ho : k ≤ g.off) :
    Calls Tryz.prog 50 #[.pointer (some ⟨b, 0, none⟩), .agg #[.int .i64 13, .int .i64 a, .int .i64 bb, .int .u16 (size : Int), .int .i64 n, .int .u8 (sign.toNat : Int), .int .i32 char, .string ⟨text.toArray⟩, .slice ad cuts.length cap]] w (WDPost w b g ⟨0, [], 0, 0⟩ (fun g' => g' = { g with off := g.off - k, lr := 0 })) := by
  have H := Lib.hid h
  have HB := Lib.hid (h.fr (((Fr.refl (fun _ => False) w).alloc _).alloc _) (fun _ _ q => q) : BufAt ((w.alloc (.cells #[.int .i64 13, .int .i64 a, .int .i64 bb, .int .u16 (size : Int), .int .i64 n, .int .u8 (sign.toNat : Int), .int .i32 char, .string ⟨text.toArray⟩, .slice ad cuts.length cap] 36)).alloc (.cells #[.int .i64 0, .string ⟨#[]⟩, .int .i32 0, .int .i64 0] 39)) b g)
  clear h
  go_enter Tryz.func50, Tryz.ntmps50
  go_wp2_with fail
  refine (buf_unreadRune_yes _ b g k HB.out hlr hk hk4 ho).mono ?_
  rintro e w1 ⟨rfl, A1, F1⟩
  have S1 : BufStep ((w.alloc (.cells #[.int .i64 13, .int .i64 a, .int .i64 bb, .int .u16 (size : Int), .int .i64 n, .int .u8 (sign.toNat : Int), .int .i32 char, .string ⟨text.toArray⟩, .slice ad cuts.length cap] 36)).alloc (.cells #[.int .i64 0, .string ⟨#[]⟩, .int .i32 0, .int .i64 0] 39)) b g w1 ({ g with off := g.off - k, lr := 0 }) := BufStep.of_just A1 rfl F1
  have hT : ToldAt w1 (w.heap.size + 1) := S1.told HB.out (ToldAt.new2 w _)
  have t0 := hT.c0; have t1 := hT.c1; have t2 := hT.c2; have t3 := hT.c3; have z0 := hT.f 0; have z1 := hT.f 1; have z2 := hT.f 2; have z3 := hT.f 3
  have HT := Lib.hid hT
  clear hT
  have HS := Lib.hid S1
  clear S1 F1
  go_wp2_with fail
  refine (said_nil _).mono ?_
  rintro e w2 ⟨rfl, rfl⟩
  go_wp2_with fail
  refine bodyPost_ret (v := Td.val ⟨0, [], 0, 0⟩) (by simp [results, Tryz.results50, go_sem, t0, t1, t2, t3, Td.val, Td.cells]) rfl ?_
  exact ⟨_, rfl, HS.out.skip (((Fr.refl (fun _ => False) w).alloc _).alloc _) (by omega) HT.out (just4 _ _ _ _ _ _), rfl⟩
set_option maxHeartbeats 1600000 in
set_option maxRecDepth 100000 in
theorem read_10n (b : Nat) (g : Gh) (w : World) (h : BufAt w b g) (hk : upTo sign g.txt = none) (ea : Addr) (he : w.cell? ⟨0, 0, none⟩ = some (errV ea)) :
    Calls Tryz.prog 50 #[.pointer (some ⟨b, 0, none⟩), .agg #[.int .i64 10, .int .i64 a, .int .i64 bb, .int .u16 (size : Int), .int .i64 n, .int .u8 (sign.toNat : Int), .int .i32 char, .string ⟨text.toArray⟩, .slice ad cuts.length cap]] w (WDPost w b g ⟨0, g.txt.take (takeN sign g.txt), 0, 1⟩ (fun g' => g' = g.rl (takeN sign g.txt))) := by
  have H := Lib.hid h
  have HB := Lib.hid (h.fr (((Fr.refl (fun _ => False) w).alloc _).alloc _) (fun _ _ q => q) : BufAt ((w.alloc (.cells #[.int .i64 10, .int .i64 a, .int .i64 bb, .int .u16 (size : Int), .int .i64 n, .int .u8 (sign.toNat : Int), .int .i32 char, .string ⟨text.toArray⟩, .slice ad cuts.length cap] 36)).alloc (.cells #[.int .i64 0, .string ⟨#[]⟩, .int .i32 0, .int .i64 0] 39)) b g)
  clear h
  have hbe : b ≠ 0 := fun q => H.out.ne_err he (.inl q.symm)
  have he0 : ((w.alloc (.cells #[.int .i64 10, .int .i64 a, .int .i64 bb, .int .u16 (size : Int), .int .i64 n, .int .u8 (sign.toNat : Int), .int .i32 char, .string ⟨text.toArray⟩, .slice ad cuts.length cap] 36)).alloc (.cells #[.int .i64 0, .string ⟨#[]⟩, .int .i32 0, .int .i64 0] 39)).cell? ⟨0, 0, none⟩ = some (errV ea) := (((((Fr.refl (fun _ => False) w).alloc _).alloc _) : Fr _ w ((w.alloc (.cells #[.int .i64 10, .int .i64 a, .int .i64 bb, .int .u16 (size : Int), .int .i64 n, .int .u8 (sign.toNat : Int), .int .i32 char, .string ⟨text.toArray⟩, .slice ad cuts.length cap] 36)).alloc (.cells #[.int .i64 0, .string ⟨#[]⟩, .int .i32 0, .int .i64 0] 39))).cell (World.block_lt_of_cell? _ _ he) (fun q => q)).trans he
  have HE0 := Lib.hid he0
  clear he he0
  go_enter Tryz.func50, Tryz.ntmps50
  go_wp2_with fail
  refine (buf_readString _ b g sign ea HB.out HE0.out).mono ?_
  rintro e w1 ⟨rfl, A1, F1⟩
  have S1 : BufStep ((w.alloc (.cells #[.int .i64 10, .int .i64 a, .int .i64 bb, .int .u16 (size : Int), .int .i64 n, .int .u8 (sign.toNat : Int), .int .i32 char, .string ⟨text.toArray⟩, .slice ad cuts.length cap] 36)).alloc (.cells #[.int .i64 0, .string ⟨#[]⟩, .int .i32 0, .int .i64 0] 39)) b g w1 (g.rl (takeN sign g.txt)) := BufStep.of_just A1 rfl F1
  have hT : ToldAt w1 (w.heap.size + 1) := S1.told HB.out (ToldAt.new2 w _)
  have t0 := hT.c0; have t1 := hT.c1; have t2 := hT.c2; have t3 := hT.c3; have z0 := hT.f 0; have z1 := hT.f 1; have z2 := hT.f 2; have z3 := hT.f 3
  have HT := Lib.hid hT
  clear hT
  have he1 : w1.cell? ⟨0, 0, none⟩ = some (errV ea) := (F1.cell (World.block_lt_of_cell? _ _ HE0.out) (fun q => hbe q.symm)).trans HE0.out
  have HS := Lib.hid S1
  clear S1 F1
  have hlo : LineOut (upTo sign g.txt) ea = errV ea := by rw [hk]; rfl
  rw [hlo]
  go_wp2_with fail
  refine (said_eof _ ea (by exact he1)).mono ?_
  rintro e w2 ⟨rfl, rfl⟩
  go_wp2_with fail
  refine bodyPost_ret (v := Td.val ⟨0, g.txt.take (takeN sign g.txt), 0, 1⟩) (by simp [results, Tryz.results50, go_sem, t0, t1, t2, t3, Td.val, Td.cells]) rfl ?_
  exact ⟨_, rfl, HS.out.skip (((Fr.refl (fun _ => False) w).alloc _).alloc _) (by omega) HT.out (just4 _ _ _ _ _ _), rfl⟩
set_option maxHeartbeats 1600000 in
set_option maxRecDepth 100000 in
theorem read_10 (b : Nat) (g : Gh) (w : World) (h : BufAt w b g) (k : Nat) (hk : upTo sign g.txt = some k) (ea : Addr) (he : w.cell? ⟨0, 0, none⟩ = some (errV ea)) :
    Calls Tryz.prog 50 #[.pointer (some ⟨b, 0, none⟩), .agg #[.int .i64 10, .int .i64 a, .int .i64 bb, .int .u16 (size : Int), .int .i64 n, .int .u8 (sign.toNat : Int), .int .i32 char, .string ⟨text.toArray⟩, .slice ad cuts.length cap]] w (WDPost w b g ⟨0, g.txt.take (takeN sign g.txt), 0, 0⟩ (fun g' => g' = g.rl (takeN sign g.txt))) := by
  have H := Lib.hid h
  have HB := Lib.hid (h.fr (((Fr.refl (fun _ => False) w).alloc _).alloc _) (fun _ _ q => q) : BufAt ((w.alloc (.cells #[.int .i64 10, .int .i64 a, .int .i64 bb, .int .u16 (size : Int), .int .i64 n, .int .u8 (sign.toNat : Int), .int .i32 char, .string ⟨text.toArray⟩, .slice ad cuts.length cap] 36)).alloc (.cells #[.int .i64 0, .string ⟨#[]⟩, .int .i32 0, .int .i64 0] 39)) b g)
  clear h
  have hbe : b ≠ 0 := fun q => H.out.ne_err he (.inl q.symm)
  have he0 : ((w.alloc (.cells #[.int .i64 10, .int .i64 a, .int .i64 bb, .int .u16 (size : Int), .int .i64 n, .int .u8 (sign.toNat : Int), .int .i32 char, .string ⟨text.toArray⟩, .slice ad cuts.length cap] 36)).alloc (.cells #[.int .i64 0, .string ⟨#[]⟩, .int .i32 0, .int .i64 0] 39)).cell? ⟨0, 0, none⟩ = some (errV ea) := (((((Fr.refl (fun _ => False) w).alloc _).alloc _) : Fr _ w ((w.alloc (.cells #[.int .i64 10, .int .i64 a, .int .i64 bb, .int .u16 (size : Int), .int .i64 n, .int .u8 (sign.toNat : Int), .int .i32 char, .string ⟨text.toArray⟩, .slice ad cuts.length cap] 36)).alloc (.cells #[.int .i64 0, .string ⟨#[]⟩, .int .i32 0, .int .i64 0] 39))).cell (World.block_lt_of_cell? _ _ he) (fun q => q)).trans he
  have HE0 := Lib.hid he0
  clear he he0
  go_enter Tryz.func50, Tryz.ntmps50
  go_wp2_with fail
  refine (buf_readString _ b g sign ea HB.out HE0.out).mono ?_
  rintro e w1 ⟨rfl, A1, F1⟩
  have S1 : BufStep ((w.alloc (.cells #[.int .i64 10, .int .i64 a, .int .i64 bb, .int .u16 (size : Int), .int .i64 n, .int .u8 (sign.toNat : Int), .int .i32 char, .string ⟨text.toArray⟩, .slice ad cuts.length cap] 36)).alloc (.cells #[.int .i64 0, .string ⟨#[]⟩, .int .i32 0, .int .i64 0] 39)) b g w1 (g.rl (takeN sign g.txt)) := BufStep.of_just A1 rfl F1
  have hT : ToldAt w1 (w.heap.size + 1) := S1.told HB.out (ToldAt.new2 w _)
  have t0 := hT.c0; have t1 := hT.c1; have t2 := hT.c2; have t3 := hT.c3; have z0 := hT.f 0; have z1 := hT.f 1; have z2 := hT.f 2; have z3 := hT.f 3
  have HT := Lib.hid hT
  clear hT
  have he1 : w1.cell? ⟨0, 0, none⟩ = some (errV ea) := (F1.cell (World.block_lt_of_cell? _ _ HE0.out) (fun q => hbe q.symm)).trans HE0.out
  have HS := Lib.hid S1
  clear S1 F1
  have hlo : LineOut (upTo sign g.txt) ea = .nilIface := by rw [hk]; rfl
  rw [hlo]
  go_wp2_with fail
  refine (said_nil _).mono ?_
  rintro e w2 ⟨rfl, rfl⟩
  go_wp2_with fail
  refine bodyPost_ret (v := Td.val ⟨0, g.txt.take (takeN sign g.txt), 0, 0⟩) (by simp [results, Tryz.results50, go_sem, t0, t1, t2, t3, Td.val, Td.cells]) rfl ?_
  exact ⟨_, rfl, HS.out.skip (((Fr.refl (fun _ => False) w).alloc _).alloc _) (by omega) HT.out (just4 _ _ _ _ _ _), rfl⟩
set_option maxHeartbeats 1600000 in
set_option maxRecDepth 100000 in
theorem read_9n (b : Nat) (g : Gh) (w : World) (h : BufAt w b g) (hk : upTo sign g.txt = none) (hsz : g.txt.length ≤ 140737488355328) (ea : Addr) (he : w.cell? ⟨0, 0, none⟩ = some (errV ea)) :
    Calls Tryz.prog 50 #[.pointer (some ⟨b, 0, none⟩), .agg #[.int .i64 9, .int .i64 a, .int .i64 bb, .int .u16 (size : Int), .int .i64 n, .int .u8 (sign.toNat : Int), .int .i32 char, .string ⟨text.toArray⟩, .slice ad cuts.length cap]] w (WDPost w b g ⟨0, g.txt.take (takeN sign g.txt), 0, 1⟩ (fun g' => g' = g.rl (takeN sign g.txt))) := by
  have H := Lib.hid h
  have HB := Lib.hid (h.fr (((Fr.refl (fun _ => False) w).alloc _).alloc _) (fun _ _ q => q) : BufAt ((w.alloc (.cells #[.int .i64 9, .int .i64 a, .int .i64 bb, .int .u16 (size : Int), .int .i64 n, .int .u8 (sign.toNat : Int), .int .i32 char, .string ⟨text.toArray⟩, .slice ad cuts.length cap] 36)).alloc (.cells #[.int .i64 0, .string ⟨#[]⟩, .int .i32 0, .int .i64 0] 39)) b g)
  clear h
  have hbe : b ≠ 0 := fun q => H.out.ne_err he (.inl q.symm)
  have he0 : ((w.alloc (.cells #[.int .i64 9, .int .i64 a, .int .i64 bb, .int .u16 (size : Int), .int .i64 n, .int .u8 (sign.toNat : Int), .int .i32 char, .string ⟨text.toArray⟩, .slice ad cuts.length cap] 36)).alloc (.cells #[.int .i64 0, .string ⟨#[]⟩, .int .i32 0, .int .i64 0] 39)).cell? ⟨0, 0, none⟩ = some (errV ea) := (((((Fr.refl (fun _ => False) w).alloc _).alloc _) : Fr _ w ((w.alloc (.cells #[.int .i64 9, .int .i64 a, .int .i64 bb, .int .u16 (size : Int), .int .i64 n, .int .u8 (sign.toNat : Int), .int .i32 char, .string ⟨text.toArray⟩, .slice ad cuts.length cap] 36)).alloc (.cells #[.int .i64 0, .string ⟨#[]⟩, .int .i32 0, .int .i64 0] 39))).cell (World.block_lt_of_cell? _ _ he) (fun q => q)).trans he
  have HE0 := Lib.hid he0
  clear he he0
  go_enter Tryz.func50, Tryz.ntmps50
  go_wp2_with fail
  refine (buf_readBytes _ b g sign ea HB.out hsz HE0.out).mono ?_
  rintro e w1 ⟨A, k2, c2, rfl, hsrc, A1, F1⟩
  have S1 : BufStep ((w.alloc (.cells #[.int .i64 9, .int .i64 a, .int .i64 bb, .int .u16 (size : Int), .int .i64 n, .int .u8 (sign.toNat : Int), .int .i32 char, .string ⟨text.toArray⟩, .slice ad cuts.length cap] 36)).alloc (.cells #[.int .i64 0, .string ⟨#[]⟩, .int .i32 0, .int .i64 0] 39)) b g w1 (g.rl (takeN sign g.txt)) := BufStep.of_just A1 rfl F1
  have HSRC := Lib.hid hsrc
  clear hsrc
  have hlo : LineOut (upTo sign g.txt) ea = errV ea := by rw [hk]; rfl
  rw [hlo]
  have hT : ToldAt w1 (w.heap.size + 1) := S1.told HB.out (ToldAt.new2 w _)
  have t0 := hT.c0; have t1 := hT.c1; have t2 := hT.c2; have t3 := hT.c3; have z0 := hT.f 0; have z1 := hT.f 1; have z2 := hT.f 2; have z3 := hT.f 3
  have HT := Lib.hid hT
  clear hT
  have he1 : w1.cell? ⟨0, 0, none⟩ = some (errV ea) := (F1.cell (World.block_lt_of_cell? _ _ HE0.out) (fun q => hbe q.symm)).trans HE0.out
  have HS := Lib.hid S1
  clear S1 F1
  have hcs : ∀ w', Src w' (.slice A k2 c2) (g.txt.take (takeN sign g.txt)) → (convert 40 9 (.slice A k2 c2)).run Tryz.prog w' = .ok (.string ⟨(g.txt.take (takeN sign g.txt)).toArray⟩) w' := fun w' h => conv_str h
  go_wp2_with fail
  go_region_held3 (fun w' => Src w' (.slice A k2 c2) (g.txt.take (takeN sign g.txt))) (first | exact HSRC.out.of_heap rfl | exact HSRC.out.told HT.out rfl _ _ _ _) ((go_at_call 67; refine (said_eof _ ea (by exact he1)).mono ?_; rintro e w2 ⟨rfl, rfl⟩))
  all_goals
    go_wp2_with fail
    refine bodyPost_ret (v := Td.val ⟨0, g.txt.take (takeN sign g.txt), 0, 1⟩) (by simp [results, Tryz.results50, go_sem, t0, t1, t2, t3, Td.val, Td.cells]) rfl ?_
    exact ⟨_, rfl, HS.out.skip (((Fr.refl (fun _ => False) w).alloc _).alloc _) (by omega) HT.out (by first | exact just4 _ _ _ _ _ _ | exact (((Fr.refl (Just _) _).drew).trans (just4 _ _ _ _ _ _))), rfl⟩
set_option maxHeartbeats 1600000 in
set_option maxRecDepth 100000 in
theorem read_9 (b : Nat) (g : Gh) (w : World) (h : BufAt w b g) (k : Nat) (hk : upTo sign g.txt = some k) (hsz : g.txt.length ≤ 140737488355328) (ea : Addr) (he : w.cell? ⟨0, 0, none⟩ = some (errV ea)) :
    Calls Tryz.prog 50 #[.pointer (some ⟨b, 0, none⟩), .agg #[.int .i64 9, .int .i64 a, .int .i64 bb, .int .u16 (size : Int), .int .i64 n, .int .u8 (sign.toNat : Int), .int .i32 char, .string ⟨text.toArray⟩, .slice ad cuts.length cap]] w (WDPost w b g ⟨0, g.txt.take (takeN sign g.txt), 0, 0⟩ (fun g' => g' = g.rl (takeN sign g.txt))) := by
  have H := Lib.hid h
  have HB := Lib.hid (h.fr (((Fr.refl (fun _ => False) w).alloc _).alloc _) (fun _ _ q => q) : BufAt ((w.alloc (.cells #[.int .i64 9, .int .i64 a, .int .i64 bb, .int .u16 (size : Int), .int .i64 n, .int .u8 (sign.toNat : Int), .int .i32 char, .string ⟨text.toArray⟩, .slice ad cuts.length cap] 36)).alloc (.cells #[.int .i64 0, .string ⟨#[]⟩, .int .i32 0, .int .i64 0] 39)) b g)
  clear h
  have hbe : b ≠ 0 := fun q => H.out.ne_err he (.inl q.symm)
  have he0 : ((w.alloc (.cells #[.int .i64 9, .int .i64 a, .int .i64 bb, .int .u16 (size : Int), .int .i64 n, .int .u8 (sign.toNat : Int), .int .i32 char, .string ⟨text.toArray⟩, .slice ad cuts.length cap] 36)).alloc (.cells #[.int .i64 0, .string ⟨#[]⟩, .int .i32 0, .int .i64 0] 39)).cell? ⟨0, 0, none⟩ = some (errV ea) := (((((Fr.refl (fun _ => False) w).alloc _).alloc _) : Fr _ w ((w.alloc (.cells #[.int .i64 9, .int .i64 a, .int .i64 bb, .int .u16 (size : Int), .int .i64 n, .int .u8 (sign.toNat : Int), .int .i32 char, .string ⟨text.toArray⟩, .slice ad cuts.length cap] 36)).alloc (.cells #[.int .i64 0, .string ⟨#[]⟩, .int .i32 0, .int .i64 0] 39))).cell (World.block_lt_of_cell? _ _ he) (fun q => q)).trans he
  have HE0 := Lib.hid he0
  clear he he0
  go_enter Tryz.func50, Tryz.ntmps50
  go_wp2_with fail
  refine (buf_readBytes _ b g sign ea HB.out hsz HE0.out).mono ?_
  rintro e w1 ⟨A, k2, c2, rfl, hsrc, A1, F1⟩
  have S1 : BufStep ((w.alloc (.cells #[.int .i64 9, .int .i64 a, .int .i64 bb, .int .u16 (size : Int), .int .i64 n, .int .u8 (sign.toNat : Int), .int .i32 char, .string ⟨text.toArray⟩, .slice ad cuts.length cap] 36)).alloc (.cells #[.int .i64 0, .string ⟨#[]⟩, .int .i32 0, .int .i64 0] 39)) b g w1 (g.rl (takeN sign g.txt)) := BufStep.of_just A1 rfl F1
  have HSRC := Lib.hid hsrc
  clear hsrc
  have hlo : LineOut (upTo sign g.txt) ea = .nilIface := by rw [hk]; rfl
  rw [hlo]
  have hT : ToldAt w1 (w.heap.size + 1) := S1.told HB.out (ToldAt.new2 w _)
  have t0 := hT.c0; have t1 := hT.c1; have t2 := hT.c2; have t3 := hT.c3; have z0 := hT.f 0; have z1 := hT.f 1; have z2 := hT.f 2; have z3 := hT.f 3
  have HT := Lib.hid hT
  clear hT
  have he1 : w1.cell? ⟨0, 0, none⟩ = some (errV ea) := (F1.cell (World.block_lt_of_cell? _ _ HE0.out) (fun q => hbe q.symm)).trans HE0.out
  have HS := Lib.hid S1
  clear S1 F1
  have hcs : ∀ w', Src w' (.slice A k2 c2) (g.txt.take (takeN sign g.txt)) → (convert 40 9 (.slice A k2 c2)).run Tryz.prog w' = .ok (.string ⟨(g.txt.take (takeN sign g.txt)).toArray⟩) w' := fun w' h => conv_str h
  go_wp2_with fail
  go_region_held3 (fun w' => Src w' (.slice A k2 c2) (g.txt.take (takeN sign g.txt))) (first | exact HSRC.out.of_heap rfl | exact HSRC.out.told HT.out rfl _ _ _ _) ((go_at_call 67; refine (said_nil _).mono ?_; rintro e w2 ⟨rfl, rfl⟩))
  all_goals
    go_wp2_with fail
    refine bodyPost_ret (v := Td.val ⟨0, g.txt.take (takeN sign g.txt), 0, 0⟩) (by simp [results, Tryz.results50, go_sem, t0, t1, t2, t3, Td.val, Td.cells]) rfl ?_
    exact ⟨_, rfl, HS.out.skip (((Fr.refl (fun _ => False) w).alloc _).alloc _) (by omega) HT.out (by first | exact just4 _ _ _ _ _ _ | exact (((Fr.refl (Just _) _).drew).trans (just4 _ _ _ _ _ _))), rfl⟩
end
end Go.Proofs.YtbodbajgpgaoeaaGreatDoor

namespace Go.Proofs.YtbodbajgpgaoeaaGreatDoor
open Go Go.RowKit

theorem mk_u16 (size : Nat) (hs : size ≤ 65535) (w : World) : (Instr.makeSlice 40 (.int .u16 (size : Int)) (.int .u16 (size : Int))).run Tryz.prog w = .ok (.slice (some ⟨w.heap.size, 0, none⟩) size size) (w.alloc (zrow 5 size)) := by
  obtain ⟨i0, hi, hz0, hz1, hz2⟩ := info_parts info_u8
  exact run_make_bytes Tryz.underlying40 hi hz0 hz1 hz2 .u16 .u16 size size (Nat.le_refl _) (by omega) w
theorem src_zero (w : World) (A : Option Addr) (c : Nat) : Src w (.slice A 0 c) [] := .inr ⟨A, c, rfl, fun q => absurd q (by simp)⟩

section
variable (a bb : Int) (size : Nat) (n : Int) (sign : UInt8) (char : Int) (text : List UInt8) (cuts : List Nat) (ad : Option Addr) (cap : Nat)
set_option maxHeartbeats 1600000 in
set_option maxRecDepth 100000 in
theorem read_6e (b : Nat) (g : Gh) (w : World) (h : BufAt w b g) (hsize : size ≤ 65535) (hpos : 0 < size) (ht : g.txt = []) (ea : Addr) (he : w.cell? ⟨0, 0, none⟩ = some (errV ea)) :
    Calls Tryz.prog 50 #[.pointer (some ⟨b, 0, none⟩), .agg #[.int .i64 6, .int .i64 a, .int .i64 bb, .int .u16 (size : Int), .int .i64 n, .int .u8 (sign.toNat : Int), .int .i32 char, .string ⟨text.toArray⟩, .slice ad cuts.length cap]] w (WDPost w b g ⟨0, [], 0, 1⟩ (fun g' => g' = g.rs)) := by
  have H := Lib.hid h
  have HB := Lib.hid (h.fr (((Fr.refl (fun _ => False) w).alloc _).alloc _) (fun _ _ q => q) : BufAt ((w.alloc (.cells #[.int .i64 6, .int .i64 a, .int .i64 bb, .int .u16 (size : Int), .int .i64 n, .int .u8 (sign.toNat : Int), .int .i32 char, .string ⟨text.toArray⟩, .slice ad cuts.length cap] 36)).alloc (.cells #[.int .i64 0, .string ⟨#[]⟩, .int .i32 0, .int .i64 0] 39)) b g)
  clear h
  have hB1 : BufAt (((w.alloc (.cells #[.int .i64 6, .int .i64 a, .int .i64 bb, .int .u16 (size : Int), .int .i64 n, .int .u8 (sign.toNat : Int), .int .i32 char, .string ⟨text.toArray⟩, .slice ad cuts.length cap] 36)).alloc (.cells #[.int .i64 0, .string ⟨#[]⟩, .int .i32 0, .int .i64 0] 39)).alloc (zrow 5 size)) b g := H.out.fr ((((Fr.refl (fun _ => False) w).alloc _).alloc _).alloc _) (fun _ _ q => q)
  have hR1 : Row 5 (((w.alloc (.cells #[.int .i64 6, .int .i64 a, .int .i64 bb, .int .u16 (size : Int), .int .i64 n, .int .u8 (sign.toNat : Int), .int .i32 char, .string ⟨text.toArray⟩, .slice ad cuts.length cap] 36)).alloc (.cells #[.int .i64 0, .string ⟨#[]⟩, .int .i32 0, .int .i64 0] 39)).alloc (zrow 5 size)) (w.heap.size + 1 + 1) (List.replicate size 0) := by have := Row.zrow ((w.alloc (.cells #[.int .i64 6, .int .i64 a, .int .i64 bb, .int .u16 (size : Int), .int .i64 n, .int .u8 (sign.toNat : Int), .int .i32 char, .string ⟨text.toArray⟩, .slice ad cuts.length cap] 36)).alloc (.cells #[.int .i64 0, .string ⟨#[]⟩, .int .i32 0, .int .i64 0] 39)) 5 size; simpa using this
  have hT1 : ToldAt (((w.alloc (.cells #[.int .i64 6, .int .i64 a, .int .i64 bb, .int .u16 (size : Int), .int .i64 n, .int .u8 (sign.toNat : Int), .int .i32 char, .string ⟨text.toArray⟩, .slice ad cuts.length cap] 36)).alloc (.cells #[.int .i64 0, .string ⟨#[]⟩, .int .i32 0, .int .i64 0] 39)).alloc (zrow 5 size)) (w.heap.size + 1) := (ToldAt.new2 w _).fr ((Fr.refl (fun _ => False) _).alloc _) (fun q => q)
  have hlt := H.out.lt
  have hrl : ∀ r, g.row = some r → r < w.heap.size := fun r hr => H.out.rlt hr
  have hmk := mk_u16 size hsize
  have HB1 := Lib.hid hB1
  have HR1 := Lib.hid hR1
  have HT1 := Lib.hid hT1
  have hsl := fun w' => slice_toA (some ⟨w.heap.size + 1 + 1, 0, none⟩) size size (0) (by omega) w'
  have HRL := Lib.hid hrl
  clear hB1 hR1 hT1 hrl
  have hbe : b ≠ 0 := fun q => H.out.ne_err he (.inl q.symm)
  have he0 : (((w.alloc (.cells #[.int .i64 6, .int .i64 a, .int .i64 bb, .int .u16 (size : Int), .int .i64 n, .int .u8 (sign.toNat : Int), .int .i32 char, .string ⟨text.toArray⟩, .slice ad cuts.length cap] 36)).alloc (.cells #[.int .i64 0, .string ⟨#[]⟩, .int .i32 0, .int .i64 0] 39)).alloc (zrow 5 size)).cell? ⟨0, 0, none⟩ = some (errV ea) := ((((((Fr.refl (fun _ => False) w).alloc _).alloc _).alloc _) : Fr _ w (((w.alloc (.cells #[.int .i64 6, .int .i64 a, .int .i64 bb, .int .u16 (size : Int), .int .i64 n, .int .u8 (sign.toNat : Int), .int .i32 char, .string ⟨text.toArray⟩, .slice ad cuts.length cap] 36)).alloc (.cells #[.int .i64 0, .string ⟨#[]⟩, .int .i32 0, .int .i64 0] 39)).alloc (zrow 5 size))).cell (World.block_lt_of_cell? _ _ he) (fun q => q)).trans he
  have hel : 0 < w.heap.size := World.block_lt_of_cell? _ _ he
  have HE0 := Lib.hid he0
  clear he he0
  go_enter Tryz.func50, Tryz.ntmps50
  go_wp2_with fail
  refine (buf_read_eof _ b g _ size _ ea HB1.out (H.out.txt_nil ht) hpos (by omega) HE0.out hbe).mono ?_
  rintro e w1 ⟨rfl, A1, F1⟩
  have S1 : BufStep w b g w1 (g.rs) := ⟨A1, .inl rfl, (((((Fr.refl (fun _ => False) w).alloc _).alloc _).alloc _) : Fr _ w (((w.alloc (.cells #[.int .i64 6, .int .i64 a, .int .i64 bb, .int .u16 (size : Int), .int .i64 n, .int .u8 (sign.toNat : Int), .int .i32 char, .string ⟨text.toArray⟩, .slice ad cuts.length cap] 36)).alloc (.cells #[.int .i64 0, .string ⟨#[]⟩, .int .i32 0, .int .i64 0] 39)).alloc (zrow 5 size))).mono (fun _ _ q => q.elim) |>.trans' F1 (fun x hx q => .inl q)⟩
  have hT : ToldAt w1 (w.heap.size + 1) := HT1.out.fr F1 (fun q => by have q : w.heap.size + 1 = b := q; omega)
  have he1 : w1.cell? ⟨0, 0, none⟩ = some (errV ea) := (F1.cell (World.block_lt_of_cell? _ _ HE0.out) (fun q => hbe q.symm)).trans HE0.out
  have HSRC := Lib.hid (src_zero w1 (some ⟨w.heap.size + 1 + 1, 0, none⟩) size)
  simp only [Int.cast_ofNat_Int] at hsl
  have hcs : ∀ w', Src w' (.slice (some ⟨w.heap.size + 1 + 1, 0, none⟩) (0) size) ([]) → (convert 40 9 (.slice (some ⟨w.heap.size + 1 + 1, 0, none⟩) (0) size)).run Tryz.prog w' = .ok (.string ⟨([]).toArray⟩) w' := fun w' h => conv_str h
  have t0 := hT.c0; have t1 := hT.c1; have t2 := hT.c2; have t3 := hT.c3; have z0 := hT.f 0; have z1 := hT.f 1; have z2 := hT.f 2; have z3 := hT.f 3
  have HT := Lib.hid hT
  have HS := Lib.hid S1
  clear hT S1 F1 A1
  go_wp2_with fail
  go_region_held3 (fun w' => Src w' (.slice (some ⟨w.heap.size + 1 + 1, 0, none⟩) (0) size) ([])) (first | exact HSRC.out.of_heap rfl | exact HSRC.out.told HT.out rfl _ _ _ _) ((go_at_call 67; refine (said_eof _ ea (by exact he1)).mono ?_; rintro e w2 ⟨rfl, rfl⟩))
  all_goals
    go_wp2_with fail
    refine bodyPost_ret (v := Td.val ⟨0, [], 0, 1⟩) (by simp [results, Tryz.results50, go_sem, t0, t1, t2, t3, Td.val, Td.cells]) rfl ?_
    exact ⟨_, rfl, HS.out.skip (Fr.refl _ w) (by omega) HT.out (by first | exact just4 _ _ _ _ _ _ | exact (((Fr.refl (Just _) _).drew).trans (just4 _ _ _ _ _ _))), rfl⟩
set_option maxHeartbeats 1600000 in
set_option maxRecDepth 100000 in
theorem read_6z (b : Nat) (g : Gh) (w : World) (h : BufAt w b g) (hsize : size ≤ 65535) (hpos : size = 0) (ht : g.txt = []) :
    Calls Tryz.prog 50 #[.pointer (some ⟨b, 0, none⟩), .agg #[.int .i64 6, .int .i64 a, .int .i64 bb, .int .u16 (size : Int), .int .i64 n, .int .u8 (sign.toNat : Int), .int .i32 char, .string ⟨text.toArray⟩, .slice ad cuts.length cap]] w (WDPost w b g ⟨0, [], 0, 0⟩ (fun g' => g' = g.rs)) := by
  have H := Lib.hid h
  have HB := Lib.hid (h.fr (((Fr.refl (fun _ => False) w).alloc _).alloc _) (fun _ _ q => q) : BufAt ((w.alloc (.cells #[.int .i64 6, .int .i64 a, .int .i64 bb, .int .u16 (size : Int), .int .i64 n, .int .u8 (sign.toNat : Int), .int .i32 char, .string ⟨text.toArray⟩, .slice ad cuts.length cap] 36)).alloc (.cells #[.int .i64 0, .string ⟨#[]⟩, .int .i32 0, .int .i64 0] 39)) b g)
  clear h
  have hB1 : BufAt (((w.alloc (.cells #[.int .i64 6, .int .i64 a, .int .i64 bb, .int .u16 (size : Int), .int .i64 n, .int .u8 (sign.toNat : Int), .int .i32 char, .string ⟨text.toArray⟩, .slice ad cuts.length cap] 36)).alloc (.cells #[.int .i64 0, .string ⟨#[]⟩, .int .i32 0, .int .i64 0] 39)).alloc (zrow 5 size)) b g := H.out.fr ((((Fr.refl (fun _ => False) w).alloc _).alloc _).alloc _) (fun _ _ q => q)
  have hR1 : Row 5 (((w.alloc (.cells #[.int .i64 6, .int .i64 a, .int .i64 bb, .int .u16 (size : Int), .int .i64 n, .int .u8 (sign.toNat : Int), .int .i32 char, .string ⟨text.toArray⟩, .slice ad cuts.length cap] 36)).alloc (.cells #[.int .i64 0, .string ⟨#[]⟩, .int .i32 0, .int .i64 0] 39)).alloc (zrow 5 size)) (w.heap.size + 1 + 1) (List.replicate size 0) := by have := Row.zrow ((w.alloc (.cells #[.int .i64 6, .int .i64 a, .int .i64 bb, .int .u16 (size : Int), .int .i64 n, .int .u8 (sign.toNat : Int), .int .i32 char, .string ⟨text.toArray⟩, .slice ad cuts.length cap] 36)).alloc (.cells #[.int .i64 0, .string ⟨#[]⟩, .int .i32 0, .int .i64 0] 39)) 5 size; simpa using this
  have hT1 : ToldAt (((w.alloc (.cells #[.int .i64 6, .int .i64 a, .int .i64 bb, .int .u16 (size : Int), .int .i64 n, .int .u8 (sign.toNat : Int), .int .i32 char, .string ⟨text.toArray⟩, .slice ad cuts.length cap] 36)).alloc (.cells #[.int .i64 0, .string ⟨#[]⟩, .int .i32 0, .int .i64 0] 39)).alloc (zrow 5 size)) (w.heap.size + 1) := (ToldAt.new2 w _).fr ((Fr.refl (fun _ => False) _).alloc _) (fun q => q)
  have hlt := H.out.lt
  have hrl : ∀ r, g.row = some r → r < w.heap.size := fun r hr => H.out.rlt hr
  have HP := Lib.hid hpos
  clear hpos
  have hmk := mk_u16 size hsize
  have HB1 := Lib.hid hB1
  have HR1 := Lib.hid hR1
  have HT1 := Lib.hid hT1
  have hsl := fun w' => slice_toA (some ⟨w.heap.size + 1 + 1, 0, none⟩) size size (0) (by omega) w'
  have HRL := Lib.hid hrl
  clear hB1 hR1 hT1 hrl
  go_enter Tryz.func50, Tryz.ntmps50
  go_wp2_with fail
  refine (buf_read_nil _ b g _ size _ HP.out HB1.out (H.out.txt_nil ht)).mono ?_
  rintro e w1 ⟨rfl, A1, F1⟩
  have S1 : BufStep w b g w1 (g.rs) := ⟨A1, .inl rfl, (((((Fr.refl (fun _ => False) w).alloc _).alloc _).alloc _) : Fr _ w (((w.alloc (.cells #[.int .i64 6, .int .i64 a, .int .i64 bb, .int .u16 (size : Int), .int .i64 n, .int .u8 (sign.toNat : Int), .int .i32 char, .string ⟨text.toArray⟩, .slice ad cuts.length cap] 36)).alloc (.cells #[.int .i64 0, .string ⟨#[]⟩, .int .i32 0, .int .i64 0] 39)).alloc (zrow 5 size))).mono (fun _ _ q => q.elim) |>.trans' F1 (fun x hx q => .inl q)⟩
  have hT : ToldAt w1 (w.heap.size + 1) := HT1.out.fr F1 (fun q => by have q : w.heap.size + 1 = b := q; omega)
  have HSRC := Lib.hid (src_zero w1 (some ⟨w.heap.size + 1 + 1, 0, none⟩) size)
  simp only [Int.cast_ofNat_Int] at hsl
  have hcs : ∀ w', Src w' (.slice (some ⟨w.heap.size + 1 + 1, 0, none⟩) (0) size) ([]) → (convert 40 9 (.slice (some ⟨w.heap.size + 1 + 1, 0, none⟩) (0) size)).run Tryz.prog w' = .ok (.string ⟨([]).toArray⟩) w' := fun w' h => conv_str h
  have t0 := hT.c0; have t1 := hT.c1; have t2 := hT.c2; have t3 := hT.c3; have z0 := hT.f 0; have z1 := hT.f 1; have z2 := hT.f 2; have z3 := hT.f 3
  have HT := Lib.hid hT
  have HS := Lib.hid S1
  clear hT S1 F1 A1
  go_wp2_with fail
  go_region_held3 (fun w' => Src w' (.slice (some ⟨w.heap.size + 1 + 1, 0, none⟩) (0) size) ([])) (first | exact HSRC.out.of_heap rfl | exact HSRC.out.told HT.out rfl _ _ _ _) ((go_at_call 67; refine (said_nil _).mono ?_; rintro e w2 ⟨rfl, rfl⟩))
  all_goals
    go_wp2_with fail
    refine bodyPost_ret (v := Td.val ⟨0, [], 0, 0⟩) (by simp [results, Tryz.results50, go_sem, t0, t1, t2, t3, Td.val, Td.cells]) rfl ?_
    exact ⟨_, rfl, HS.out.skip (Fr.refl _ w) (by omega) HT.out (by first | exact just4 _ _ _ _ _ _ | exact (((Fr.refl (Just _) _).drew).trans (just4 _ _ _ _ _ _))), rfl⟩
set_option maxHeartbeats 1600000 in
set_option maxRecDepth 100000 in
theorem read_6 (b : Nat) (g : Gh) (w : World) (h : BufAt w b g) (hsize : size ≤ 65535) (k : Nat) (hk : k = min g.txt.length size) (ht : g.txt ≠ []) :
    Calls Tryz.prog 50 #[.pointer (some ⟨b, 0, none⟩), .agg #[.int .i64 6, .int .i64 a, .int .i64 bb, .int .u16 (size : Int), .int .i64 n, .int .u8 (sign.toNat : Int), .int .i32 char, .string ⟨text.toArray⟩, .slice ad cuts.length cap]] w (WDPost w b g ⟨k, g.txt.take size, 0, 0⟩ (fun g' => g' = g.rd k)) := by
  have H := Lib.hid h
  have HB := Lib.hid (h.fr (((Fr.refl (fun _ => False) w).alloc _).alloc _) (fun _ _ q => q) : BufAt ((w.alloc (.cells #[.int .i64 6, .int .i64 a, .int .i64 bb, .int .u16 (size : Int), .int .i64 n, .int .u8 (sign.toNat : Int), .int .i32 char, .string ⟨text.toArray⟩, .slice ad cuts.length cap] 36)).alloc (.cells #[.int .i64 0, .string ⟨#[]⟩, .int .i32 0, .int .i64 0] 39)) b g)
  clear h
  have hB1 : BufAt (((w.alloc (.cells #[.int .i64 6, .int .i64 a, .int .i64 bb, .int .u16 (size : Int), .int .i64 n, .int .u8 (sign.toNat : Int), .int .i32 char, .string ⟨text.toArray⟩, .slice ad cuts.length cap] 36)).alloc (.cells #[.int .i64 0, .string ⟨#[]⟩, .int .i32 0, .int .i64 0] 39)).alloc (zrow 5 size)) b g := H.out.fr ((((Fr.refl (fun _ => False) w).alloc _).alloc _).alloc _) (fun _ _ q => q)
  have hR1 : Row 5 (((w.alloc (.cells #[.int .i64 6, .int .i64 a, .int .i64 bb, .int .u16 (size : Int), .int .i64 n, .int .u8 (sign.toNat : Int), .int .i32 char, .string ⟨text.toArray⟩, .slice ad cuts.length cap] 36)).alloc (.cells #[.int .i64 0, .string ⟨#[]⟩, .int .i32 0, .int .i64 0] 39)).alloc (zrow 5 size)) (w.heap.size + 1 + 1) (List.replicate size 0) := by have := Row.zrow ((w.alloc (.cells #[.int .i64 6, .int .i64 a, .int .i64 bb, .int .u16 (size : Int), .int .i64 n, .int .u8 (sign.toNat : Int), .int .i32 char, .string ⟨text.toArray⟩, .slice ad cuts.length cap] 36)).alloc (.cells #[.int .i64 0, .string ⟨#[]⟩, .int .i32 0, .int .i64 0] 39)) 5 size; simpa using this
  have hT1 : ToldAt (((w.alloc (.cells #[.int .i64 6, .int .i64 a, .int .i64 bb, .int .u16 (size : Int), .int .i64 n, .int .u8 (sign.toNat : Int), .int .i32 char, .string ⟨text.toArray⟩, .slice ad cuts.length cap] 36)).alloc (.cells #[.int .i64 0, .string ⟨#[]⟩, .int .i32 0, .int .i64 0] 39)).alloc (zrow 5 size)) (w.heap.size + 1) := (ToldAt.new2 w _).fr ((Fr.refl (fun _ => False) _).alloc _) (fun q => q)
  have hlt := H.out.lt
  have hrl : ∀ r, g.row = some r → r < w.heap.size := fun r hr => H.out.rlt hr
  have hmk := mk_u16 size hsize
  have HB1 := Lib.hid hB1
  have HR1 := Lib.hid hR1
  have HT1 := Lib.hid hT1
  have hsl := fun w' => slice_toA (some ⟨w.heap.size + 1 + 1, 0, none⟩) size size (k) (by omega) w'
  have HRL := Lib.hid hrl
  clear hB1 hR1 hT1 hrl
  go_enter Tryz.func50, Tryz.ntmps50
  go_wp2_with fail
  refine (buf_read_some _ b g (w.heap.size + 1 + 1) 0 size _ (List.replicate size 0) _ HB1.out (H.out.txt_pos ht) HR1.out (fun _ => rfl) (by simp) (fun q => by have := HRL.out _ q; omega)).mono ?_
  rintro e w1 ⟨rfl, A1, R1, F1⟩
  rw [← hk] at A1
  have S1 : BufStep w b g w1 (g.rd k) := ⟨A1, .inl rfl, (((((Fr.refl (fun _ => False) w).alloc _).alloc _).alloc _) : Fr _ w (((w.alloc (.cells #[.int .i64 6, .int .i64 a, .int .i64 bb, .int .u16 (size : Int), .int .i64 n, .int .u8 (sign.toNat : Int), .int .i32 char, .string ⟨text.toArray⟩, .slice ad cuts.length cap] 36)).alloc (.cells #[.int .i64 0, .string ⟨#[]⟩, .int .i32 0, .int .i64 0] 39)).alloc (zrow 5 size))).mono (fun _ _ q => q.elim) |>.trans' F1 (fun x hx q => q.elim (fun q => .inl q) (fun q => by omega))⟩
  have hT : ToldAt w1 (w.heap.size + 1) := HT1.out.fr F1 (fun q => by rcases q with q | q <;> omega)
  have hsrc : Src w1 (.slice (some ⟨w.heap.size + 1 + 1, 0, none⟩) k size) (g.txt.take size) := by
    have hl : (g.txt.take size).length = k := by rw [List.length_take, hk, Nat.min_comm]
    have h2 := src_head (c := size) (l := g.txt.take size) R1 (by simp [splice]) (by rw [length_splice _ _ _ (by rw [hl]; simp; omega)]; rw [hl]; simp; omega)
    rw [hl] at h2
    exact h2
  have HSRC := Lib.hid hsrc
  have HK := Lib.hid hk
  have hki : (k : Int) ≤ (size : Int) := by omega
  have hk0 : (0 : Int) ≤ (k : Int) := by omega
  have hkk : min g.txt.length size = k := hk.symm
  rw [hkk]
  clear hk hsrc R1 hkk
  have hcs : ∀ w', Src w' (.slice (some ⟨w.heap.size + 1 + 1, 0, none⟩) (k) size) (g.txt.take size) → (convert 40 9 (.slice (some ⟨w.heap.size + 1 + 1, 0, none⟩) (k) size)).run Tryz.prog w' = .ok (.string ⟨(g.txt.take size).toArray⟩) w' := fun w' h => conv_str h
  have t0 := hT.c0; have t1 := hT.c1; have t2 := hT.c2; have t3 := hT.c3; have z0 := hT.f 0; have z1 := hT.f 1; have z2 := hT.f 2; have z3 := hT.f 3
  have HT := Lib.hid hT
  have HS := Lib.hid S1
  clear hT S1 F1 A1
  go_wp2_with fail
  go_region_held3 (fun w' => Src w' (.slice (some ⟨w.heap.size + 1 + 1, 0, none⟩) (k) size) (g.txt.take size)) (first | exact HSRC.out.of_heap rfl | exact HSRC.out.told HT.out rfl _ _ _ _) ((go_at_call 67; refine (said_nil _).mono ?_; rintro e w2 ⟨rfl, rfl⟩))
  all_goals
    go_wp2_with fail
    refine bodyPost_ret (v := Td.val ⟨k, g.txt.take size, 0, 0⟩) (by simp [results, Tryz.results50, go_sem, t0, t1, t2, t3, Td.val, Td.cells]) rfl ?_
    exact ⟨_, rfl, HS.out.skip (Fr.refl _ w) (by omega) HT.out (by first | exact just4 _ _ _ _ _ _ | exact (((Fr.refl (Just _) _).drew).trans (just4 _ _ _ _ _ _))), rfl⟩
end
end Go.Proofs.YtbodbajgpgaoeaaGreatDoor

namespace Go.Proofs.YtbodbajgpgaoeaaGreatDoor
open Go Go.RowKit

section
variable (a bb : Int) (size : Nat) (n : Int) (sign : UInt8) (char : Int) (text : List UInt8) (cuts : List Nat) (ad : Option Addr) (cap : Nat)
set_option maxHeartbeats 1600000 in
set_option maxRecDepth 100000 in
theorem read_14 (b : Nat) (g : Gh) (w : World) (h : BufAt w b g) (m : Nat) (hm : g.off + m = g.len) (hle : size ≤ m) (hsize : size ≤ 65535) :
    Calls Tryz.prog 50 #[.pointer (some ⟨b, 0, none⟩), .agg #[.int .i64 14, .int .i64 a, .int .i64 bb, .int .u16 (size : Int), .int .i64 n, .int .u8 (sign.toNat : Int), .int .i32 char, .string ⟨text.toArray⟩, .slice ad cuts.length cap]] w (WDPost w b g ⟨0, g.txt.take size, 0, 0⟩ (fun g' => g' = g)) := by
  have H := Lib.hid h
  have HB := Lib.hid (h.fr (((Fr.refl (fun _ => False) w).alloc _).alloc _) (fun _ _ q => q) : BufAt ((w.alloc (.cells #[.int .i64 14, .int .i64 a, .int .i64 bb, .int .u16 (size : Int), .int .i64 n, .int .u8 (sign.toNat : Int), .int .i32 char, .string ⟨text.toArray⟩, .slice ad cuts.length cap] 36)).alloc (.cells #[.int .i64 0, .string ⟨#[]⟩, .int .i32 0, .int .i64 0] 39)) b g)
  clear h
  have hcv : IntKind.i64.wrap (size : Int) = (size : Int) := IntWalk.i64_in _ (by omega)
  go_enter Tryz.func50, Tryz.ntmps50
  go_wp2_with fail
  refine (buf_peek _ b g size m HB.out hm hle).mono ?_
  rintro e w1 ⟨rfl, A1, F1⟩
  have S1 : BufStep ((w.alloc (.cells #[.int .i64 14, .int .i64 a, .int .i64 bb, .int .u16 (size : Int), .int .i64 n, .int .u8 (sign.toNat : Int), .int .i32 char, .string ⟨text.toArray⟩, .slice ad cuts.length cap] 36)).alloc (.cells #[.int .i64 0, .string ⟨#[]⟩, .int .i32 0, .int .i64 0] 39)) b g w1 g := BufStep.of_none HB.out F1
  have hT : ToldAt w1 (w.heap.size + 1) := S1.told HB.out (ToldAt.new2 w _)
  have t0 := hT.c0; have t1 := hT.c1; have t2 := hT.c2; have t3 := hT.c3; have z0 := hT.f 0; have z1 := hT.f 1; have z2 := hT.f 2; have z3 := hT.f 3
  have HT := Lib.hid hT
  clear hT
  have HS := Lib.hid S1
  have HSRC := Lib.hid (Src.first A1 size (g.all.length - g.off) (by omega))
  clear S1 F1 A1
  have hcs : ∀ w', Src w' (.slice (cutA g.row g.off g.all.length) size (g.all.length - g.off)) (g.txt.take size) → (convert 40 9 (.slice (cutA g.row g.off g.all.length) size (g.all.length - g.off))).run Tryz.prog w' = .ok (.string ⟨(g.txt.take size).toArray⟩) w' := fun w' h => conv_str h
  go_wp2_with fail
  go_region_held3 (fun w' => Src w' (.slice (cutA g.row g.off g.all.length) size (g.all.length - g.off)) (g.txt.take size)) (first | exact HSRC.out.of_heap rfl | exact HSRC.out.told HT.out rfl _ _ _ _) ((go_at_call 67; refine (said_nil _).mono ?_; rintro e w2 ⟨rfl, rfl⟩))
  all_goals
    go_wp2_with fail
    refine bodyPost_ret (v := Td.val ⟨0, g.txt.take size, 0, 0⟩) (by simp [results, Tryz.results50, go_sem, t0, t1, t2, t3, Td.val, Td.cells]) rfl ?_
    exact ⟨_, rfl, HS.out.skip (((Fr.refl (fun _ => False) w).alloc _).alloc _) (by omega) HT.out (by first | exact just4 _ _ _ _ _ _ | exact (((Fr.refl (Just _) _).drew).trans (just4 _ _ _ _ _ _))), rfl⟩
set_option maxHeartbeats 1600000 in
set_option maxRecDepth 100000 in
theorem read_12n (b : Nat) (g : Gh) (w : World) (h : BufAt w b g) (ea : Addr) (ca : Array Value) (ta : TypeId) (he : w.cell? ⟨0, 0, none⟩ = some (errV ea)) (hba : w.heap[ea.block]? = some (.cells ca ta (0, 0))) (eu : Addr) (cu : Array Value) (tu : TypeId) (hu : w.cell? ⟨1, 0, none⟩ = some (errV eu)) (hbu : w.heap[eu.block]? = some (.cells cu tu (0, 0))) (hne : eu ≠ ea) (hlr : g.lr = 0) :
    Calls Tryz.prog 50 #[.pointer (some ⟨b, 0, none⟩), .agg #[.int .i64 12, .int .i64 a, .int .i64 bb, .int .u16 (size : Int), .int .i64 n, .int .u8 (sign.toNat : Int), .int .i32 char, .string ⟨text.toArray⟩, .slice ad cuts.length cap]] w (WDPost w b g ⟨0, [], 0, 2⟩ (fun g' => g' = g)) := by
  have H := Lib.hid h
  have HB := Lib.hid (h.fr (((Fr.refl (fun _ => False) w).alloc _).alloc _) (fun _ _ q => q) : BufAt ((w.alloc (.cells #[.int .i64 12, .int .i64 a, .int .i64 bb, .int .u16 (size : Int), .int .i64 n, .int .u8 (sign.toNat : Int), .int .i32 char, .string ⟨text.toArray⟩, .slice ad cuts.length cap] 36)).alloc (.cells #[.int .i64 0, .string ⟨#[]⟩, .int .i32 0, .int .i64 0] 39)) b g)
  clear h
  have he0 : ((w.alloc (.cells #[.int .i64 12, .int .i64 a, .int .i64 bb, .int .u16 (size : Int), .int .i64 n, .int .u8 (sign.toNat : Int), .int .i32 char, .string ⟨text.toArray⟩, .slice ad cuts.length cap] 36)).alloc (.cells #[.int .i64 0, .string ⟨#[]⟩, .int .i32 0, .int .i64 0] 39)).cell? ⟨0, 0, none⟩ = some (errV ea) := (((((Fr.refl (fun _ => False) w).alloc _).alloc _) : Fr _ w ((w.alloc (.cells #[.int .i64 12, .int .i64 a, .int .i64 bb, .int .u16 (size : Int), .int .i64 n, .int .u8 (sign.toNat : Int), .int .i32 char, .string ⟨text.toArray⟩, .slice ad cuts.length cap] 36)).alloc (.cells #[.int .i64 0, .string ⟨#[]⟩, .int .i32 0, .int .i64 0] 39))).cell (World.block_lt_of_cell? _ _ he) (fun q => q)).trans he
  have hba0 := ((((Fr.refl (fun _ => False) w).alloc _).alloc _) : Fr _ w ((w.alloc (.cells #[.int .i64 12, .int .i64 a, .int .i64 bb, .int .u16 (size : Int), .int .i64 n, .int .u8 (sign.toNat : Int), .int .i32 char, .string ⟨text.toArray⟩, .slice ad cuts.length cap] 36)).alloc (.cells #[.int .i64 0, .string ⟨#[]⟩, .int .i32 0, .int .i64 0] 39))).blk hba (fun q => q)
  have HE0 := Lib.hid he0
  have HA0 := Lib.hid hba0
  have hal : ea.block < w.heap.size := lt_of_blk hba
  clear he he0 hba hba0
  have hu0 : ((w.alloc (.cells #[.int .i64 12, .int .i64 a, .int .i64 bb, .int .u16 (size : Int), .int .i64 n, .int .u8 (sign.toNat : Int), .int .i32 char, .string ⟨text.toArray⟩, .slice ad cuts.length cap] 36)).alloc (.cells #[.int .i64 0, .string ⟨#[]⟩, .int .i32 0, .int .i64 0] 39)).cell? ⟨1, 0, none⟩ = some (errV eu) := (((((Fr.refl (fun _ => False) w).alloc _).alloc _) : Fr _ w ((w.alloc (.cells #[.int .i64 12, .int .i64 a, .int .i64 bb, .int .u16 (size : Int), .int .i64 n, .int .u8 (sign.toNat : Int), .int .i32 char, .string ⟨text.toArray⟩, .slice ad cuts.length cap] 36)).alloc (.cells #[.int .i64 0, .string ⟨#[]⟩, .int .i32 0, .int .i64 0] 39))).cell (World.block_lt_of_cell? _ _ hu) (fun q => q)).trans hu
  have hbu0 := ((((Fr.refl (fun _ => False) w).alloc _).alloc _) : Fr _ w ((w.alloc (.cells #[.int .i64 12, .int .i64 a, .int .i64 bb, .int .u16 (size : Int), .int .i64 n, .int .u8 (sign.toNat : Int), .int .i32 char, .string ⟨text.toArray⟩, .slice ad cuts.length cap] 36)).alloc (.cells #[.int .i64 0, .string ⟨#[]⟩, .int .i32 0, .int .i64 0] 39))).blk hbu (fun q => q)
  have HU0 := Lib.hid hu0
  have HBU := Lib.hid hbu0
  clear hu hu0 hbu hbu0
  go_enter Tryz.func50, Tryz.ntmps50
  go_wp2_with fail
  refine (buf_unreadByte_no _ b g eu HB.out hlr HU0.out).mono ?_
  rintro e w1 ⟨rfl, hw⟩
  have hT : ToldAt w1 (w.heap.size + 1) := by rw [hw]; exact ToldAt.new2 w _
  have HS := Lib.hid (show BufStep ((w.alloc (.cells #[.int .i64 12, .int .i64 a, .int .i64 bb, .int .u16 (size : Int), .int .i64 n, .int .u8 (sign.toNat : Int), .int .i32 char, .string ⟨text.toArray⟩, .slice ad cuts.length cap] 36)).alloc (.cells #[.int .i64 0, .string ⟨#[]⟩, .int .i32 0, .int .i64 0] 39)) b g w1 g by rw [hw]; exact BufStep.refl HB.out)
  have HE1 := Lib.hid (show w1.cell? ⟨0, 0, none⟩ = some (errV ea) by rw [hw]; exact HE0.out)
  have HA1 := Lib.hid (show w1.heap[ea.block]? = some (.cells ca ta (0, 0)) by rw [hw]; exact HA0.out)
  have HU1 := Lib.hid (show w1.heap[eu.block]? = some (.cells cu tu (0, 0)) by rw [hw]; exact HBU.out)
  clear hw
  have t0 := hT.c0; have t1 := hT.c1; have t2 := hT.c2; have t3 := hT.c3; have z0 := hT.f 0; have z1 := hT.f 1; have z2 := hT.f 2; have z3 := hT.f 3
  have HT := Lib.hid hT
  clear hT
  go_wp2_with fail
  refine (said_other _ eu ea cu ca tu ta HE1.out hne HU1.out HA1.out).mono ?_
  rintro e w2 ⟨rfl, rfl⟩
  go_wp2_with fail
  refine bodyPost_ret (v := Td.val ⟨0, [], 0, 2⟩) (by simp [results, Tryz.results50, go_sem, t0, t1, t2, t3, Td.val, Td.cells]) rfl ?_
  exact ⟨_, rfl, HS.out.skip (((Fr.refl (fun _ => False) w).alloc _).alloc _) (by omega) HT.out (just4 _ _ _ _ _ _), rfl⟩
set_option maxHeartbeats 1600000 in
set_option maxRecDepth 100000 in
theorem read_13n (b : Nat) (g : Gh) (w : World) (h : BufAt w b g) (ea : Addr) (ca : Array Value) (ta : TypeId) (he : w.cell? ⟨0, 0, none⟩ = some (errV ea)) (hba : w.heap[ea.block]? = some (.cells ca ta (0, 0))) (hlr : g.lr ≤ 0) :
    Calls Tryz.prog 50 #[.pointer (some ⟨b, 0, none⟩), .agg #[.int .i64 13, .int .i64 a, .int .i64 bb, .int .u16 (size : Int), .int .i64 n, .int .u8 (sign.toNat : Int), .int .i32 char, .string ⟨text.toArray⟩, .slice ad cuts.length cap]] w (WDPost w b g ⟨0, [], 0, 2⟩ (fun g' => g' = g)) := by
  have H := Lib.hid h
  have HB := Lib.hid (h.fr (((Fr.refl (fun _ => False) w).alloc _).alloc _) (fun _ _ q => q) : BufAt ((w.alloc (.cells #[.int .i64 13, .int .i64 a, .int .i64 bb, .int .u16 (size : Int), .int .i64 n, .int .u8 (sign.toNat : Int), .int .i32 char, .string ⟨text.toArray⟩, .slice ad cuts.length cap] 36)).alloc (.cells #[.int .i64 0, .string ⟨#[]⟩, .int .i32 0, .int .i64 0] 39)) b g)
  clear h
  have he0 : ((w.alloc (.cells #[.int .i64 13, .int .i64 a, .int .i64 bb, .int .u16 (size : Int), .int .i64 n, .int .u8 (sign.toNat : Int), .int .i32 char, .string ⟨text.toArray⟩, .slice ad cuts.length cap] 36)).alloc (.cells #[.int .i64 0, .string ⟨#[]⟩, .int .i32 0, .int .i64 0] 39)).cell? ⟨0, 0, none⟩ = some (errV ea) := (((((Fr.refl (fun _ => False) w).alloc _).alloc _) : Fr _ w ((w.alloc (.cells #[.int .i64 13, .int .i64 a, .int .i64 bb, .int .u16 (size : Int), .int .i64 n, .int .u8 (sign.toNat : Int), .int .i32 char, .string ⟨text.toArray⟩, .slice ad cuts.length cap] 36)).alloc (.cells #[.int .i64 0, .string ⟨#[]⟩, .int .i32 0, .int .i64 0] 39))).cell (World.block_lt_of_cell? _ _ he) (fun q => q)).trans he
  have hba0 := ((((Fr.refl (fun _ => False) w).alloc _).alloc _) : Fr _ w ((w.alloc (.cells #[.int .i64 13, .int .i64 a, .int .i64 bb, .int .u16 (size : Int), .int .i64 n, .int .u8 (sign.toNat : Int), .int .i32 char, .string ⟨text.toArray⟩, .slice ad cuts.length cap] 36)).alloc (.cells #[.int .i64 0, .string ⟨#[]⟩, .int .i32 0, .int .i64 0] 39))).blk hba (fun q => q)
  have HE0 := Lib.hid he0
  have HA0 := Lib.hid hba0
  have hal : ea.block < w.heap.size := lt_of_blk hba
  clear he he0 hba hba0
  go_enter Tryz.func50, Tryz.ntmps50
  go_wp2_with fail
  refine (buf_unreadRune_no _ b g HB.out hlr).mono ?_
  rintro e w1 ⟨s, rfl, hw⟩
  have hF1 : Fr (fun _ => False) ((w.alloc (.cells #[.int .i64 13, .int .i64 a, .int .i64 bb, .int .u16 (size : Int), .int .i64 n, .int .u8 (sign.toNat : Int), .int .i32 char, .string ⟨text.toArray⟩, .slice ad cuts.length cap] 36)).alloc (.cells #[.int .i64 0, .string ⟨#[]⟩, .int .i32 0, .int .i64 0] 39)) w1 := by rw [hw]; exact (Fr.refl _ _).alloc _
  have hT : ToldAt w1 (w.heap.size + 1) := (ToldAt.new2 w _).fr hF1 (fun q => q)
  have HS := Lib.hid (BufStep.of_none HB.out hF1)
  have HE1 := Lib.hid ((hF1.cell (World.block_lt_of_cell? _ _ HE0.out) (fun q => q)).trans HE0.out)
  have HA1 := Lib.hid (hF1.blk HA0.out (fun q => q))
  have hsz : ((w.alloc (.cells #[.int .i64 13, .int .i64 a, .int .i64 bb, .int .u16 (size : Int), .int .i64 n, .int .u8 (sign.toNat : Int), .int .i32 char, .string ⟨text.toArray⟩, .slice ad cuts.length cap] 36)).alloc (.cells #[.int .i64 0, .string ⟨#[]⟩, .int .i32 0, .int .i64 0] 39)).heap.size = w.heap.size + 1 + 1 := by simp
  rw [hsz]
  have HN1 := Lib.hid (show w1.heap[w.heap.size + 1 + 1]? = some (.cells #[.string s] 163 (0, 0)) by rw [hw, ← hsz]; exact heap_alloc_new _ _)
  clear hF1 hw hsz
  have t0 := hT.c0; have t1 := hT.c1; have t2 := hT.c2; have t3 := hT.c3; have z0 := hT.f 0; have z1 := hT.f 1; have z2 := hT.f 2; have z3 := hT.f 3
  have HT := Lib.hid hT
  clear hT
  go_wp2_with fail
  refine (said_other _ ⟨w.heap.size + 1 + 1, 0, none⟩ ea _ ca _ ta HE1.out (fun q => by have := congrArg Addr.block q; simp only at this; omega) HN1.out HA1.out).mono ?_
  rintro e w2 ⟨rfl, rfl⟩
  go_wp2_with fail
  refine bodyPost_ret (v := Td.val ⟨0, [], 0, 2⟩) (by simp [results, Tryz.results50, go_sem, t0, t1, t2, t3, Td.val, Td.cells]) rfl ?_
  exact ⟨_, rfl, HS.out.skip (((Fr.refl (fun _ => False) w).alloc _).alloc _) (by omega) HT.out (just4 _ _ _ _ _ _), rfl⟩
end
end Go.Proofs.YtbodbajgpgaoeaaGreatDoor
