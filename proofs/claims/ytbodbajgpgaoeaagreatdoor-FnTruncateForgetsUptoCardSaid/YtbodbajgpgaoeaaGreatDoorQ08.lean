/- CallL, CallP, Flow. -/
import Derived.Test.YtbodbajgpgaoeaaGreatDoorQ07
import Derived.Defers
import Derived.Recover
import Derived.Laws.Pointers
import Derived.Test.YtbodbajgpgaoeaaGreatDoorQ06
namespace Go.Proofs.YtbodbajgpgaoeaaGreatDoor
open Go Go.RowKit

/-- The deferred call finds nothing to recover. -/
theorem look_idle (p : Addr) (w : World) :
    CallsD Tryz.prog 89 #[.pointer (some p)] .returning w fun e u' w' => e = .returned (.tuple #[]) ∧ u' = .returning ∧ w' = w := by
  refine callsD_of_wpS Tryz.func89 rfl fun c₀ cs hu => ?_
  apply wpS_seq
  apply wpS_region
  simp [wpOpsS, go_sem, recoverD, hu, Tryz.ntmps89, Exit.thenS]
  refine wpS_cond (t := false) (by simp [Act.eval, Array.replicate]) ?_
  simp only [Bool.false_eq_true, if_false]
  refine wpS_of_wp (wp_skip ?_)
  cases c₀
  simp_all [bodyPostS, results, Tryz.results89]
section
variable (a bb : Int) (size : Nat) (n : Int) (sign : UInt8) (char : Int) (text : List UInt8) (cuts : List Nat) (ad : Option Addr) (cap : Nat)
set_option maxHeartbeats 1600000 in
set_option maxRecDepth 100000 in
theorem look_15 (b : Nat) (g : Gh) (w : World) (h : BufAt w b g) (k m : Nat) (hm : g.off + m = g.len) (hk : 0 < k) (hkm : k ≤ m) :
    Calls Tryz.prog 52 #[.pointer (some ⟨b, 0, none⟩), .agg #[.int .i64 15, .int .i64 a, .int .i64 bb, .int .u16 (size : Int), .int .i64 (k : Int), .int .u8 (sign.toNat : Int), .int .i32 char, .string ⟨text.toArray⟩, .slice ad cuts.length cap]] w (WDPost w b g ⟨0, [], 0, 0⟩ (fun g' => g' = { g with len := g.off + k, lr := 0 })) := by
  have H := Lib.hid h
  have HB := Lib.hid (h.fr (((Fr.refl (fun _ => False) w).alloc _).alloc _) (fun _ _ q => q) : BufAt ((w.alloc (.cells #[.int .i64 15, .int .i64 a, .int .i64 bb, .int .u16 (size : Int), .int .i64 (k : Int), .int .u8 (sign.toNat : Int), .int .i32 char, .string ⟨text.toArray⟩, .slice ad cuts.length cap] 36)).alloc (.cells #[.int .i64 0, .string ⟨#[]⟩, .int .i32 0, .int .i64 0] 39)) b g)
  clear h
  have hmf : ∀ (fn : Fn) (first cap : Array Value) (w : World), (Instr.makeFunc fn first cap).run Tryz.prog w = .ok (.func fn first cap) w := fun _ _ _ _ => rfl
  go_enter_defers Tryz.func52, Tryz.ntmps52
  go_wp2_with fail
  refine (buf_truncate_some _ b g k m HB.out hm hk hkm).mono ?_
  rintro e w1 ⟨rfl, A1, F1⟩
  have S1 : BufStep ((w.alloc (.cells #[.int .i64 15, .int .i64 a, .int .i64 bb, .int .u16 (size : Int), .int .i64 (k : Int), .int .u8 (sign.toNat : Int), .int .i32 char, .string ⟨text.toArray⟩, .slice ad cuts.length cap] 36)).alloc (.cells #[.int .i64 0, .string ⟨#[]⟩, .int .i32 0, .int .i64 0] 39)) b g w1 ({ g with len := g.off + k, lr := 0 }) := BufStep.of_just A1 rfl F1
  clear F1 A1
  have hT : ToldAt w1 (w.heap.size + 1) := S1.told HB.out (ToldAt.new2 w _)
  have t0 := hT.c0; have t1 := hT.c1; have t2 := hT.c2; have t3 := hT.c3; have z0 := hT.f 0; have z1 := hT.f 1; have z2 := hT.f 2; have z3 := hT.f 3
  have HT := Lib.hid hT
  clear hT
  have HS := Lib.hid S1
  clear S1
  go_wp2_with fail
  refine leaves_cons (f := 89) (args := #[.pointer (some ⟨w.heap.size + 1, 0, none⟩)]) (by simp) (by simp [go_sem]) ?_
  refine (look_idle _ _).mono ?_
  rintro e u' w'' ⟨rfl, rfl, rfl⟩
  simp [Leaves, settle, results, Tryz.results52, go_sem, t0, t1, t2, t3]
  exact ⟨_, rfl, HS.out.skip (((Fr.refl (fun _ => False) w).alloc _).alloc _) (by omega) HT.out (just4 _ _ _ _ _ _), rfl⟩
set_option maxHeartbeats 1600000 in
set_option maxRecDepth 100000 in
theorem look_15z (b : Nat) (g : Gh) (w : World) (h : BufAt w b g) :
    Calls Tryz.prog 52 #[.pointer (some ⟨b, 0, none⟩), .agg #[.int .i64 15, .int .i64 a, .int .i64 bb, .int .u16 (size : Int), .int .i64 0, .int .u8 (sign.toNat : Int), .int .i32 char, .string ⟨text.toArray⟩, .slice ad cuts.length cap]] w (WDPost w b g ⟨0, [], 0, 0⟩ (fun g' => g' = g.rs)) := by
  have H := Lib.hid h
  have HB := Lib.hid (h.fr (((Fr.refl (fun _ => False) w).alloc _).alloc _) (fun _ _ q => q) : BufAt ((w.alloc (.cells #[.int .i64 15, .int .i64 a, .int .i64 bb, .int .u16 (size : Int), .int .i64 0, .int .u8 (sign.toNat : Int), .int .i32 char, .string ⟨text.toArray⟩, .slice ad cuts.length cap] 36)).alloc (.cells #[.int .i64 0, .string ⟨#[]⟩, .int .i32 0, .int .i64 0] 39)) b g)
  clear h
  have hmf : ∀ (fn : Fn) (first cap : Array Value) (w : World), (Instr.makeFunc fn first cap).run Tryz.prog w = .ok (.func fn first cap) w := fun _ _ _ _ => rfl
  go_enter_defers Tryz.func52, Tryz.ntmps52
  go_wp2_with fail
  refine (buf_truncate_zero _ b g HB.out).mono ?_
  rintro e w1 ⟨rfl, A1, F1⟩
  have S1 : BufStep ((w.alloc (.cells #[.int .i64 15, .int .i64 a, .int .i64 bb, .int .u16 (size : Int), .int .i64 0, .int .u8 (sign.toNat : Int), .int .i32 char, .string ⟨text.toArray⟩, .slice ad cuts.length cap] 36)).alloc (.cells #[.int .i64 0, .string ⟨#[]⟩, .int .i32 0, .int .i64 0] 39)) b g w1 (g.rs) := BufStep.of_just A1 rfl F1
  clear F1 A1
  have hT : ToldAt w1 (w.heap.size + 1) := S1.told HB.out (ToldAt.new2 w _)
  have t0 := hT.c0; have t1 := hT.c1; have t2 := hT.c2; have t3 := hT.c3; have z0 := hT.f 0; have z1 := hT.f 1; have z2 := hT.f 2; have z3 := hT.f 3
  have HT := Lib.hid hT
  clear hT
  have HS := Lib.hid S1
  clear S1
  go_wp2_with fail
  refine leaves_cons (f := 89) (args := #[.pointer (some ⟨w.heap.size + 1, 0, none⟩)]) (by simp) (by simp [go_sem]) ?_
  refine (look_idle _ _).mono ?_
  rintro e u' w'' ⟨rfl, rfl, rfl⟩
  simp [Leaves, settle, results, Tryz.results52, go_sem, t0, t1, t2, t3]
  exact ⟨_, rfl, HS.out.skip (((Fr.refl (fun _ => False) w).alloc _).alloc _) (by omega) HT.out (just4 _ _ _ _ _ _), rfl⟩
set_option maxHeartbeats 1600000 in
set_option maxRecDepth 100000 in
theorem look_16 (b : Nat) (g : Gh) (w : World) (h : BufAt w b g) :
    Calls Tryz.prog 52 #[.pointer (some ⟨b, 0, none⟩), .agg #[.int .i64 16, .int .i64 a, .int .i64 bb, .int .u16 (size : Int), .int .i64 n, .int .u8 (sign.toNat : Int), .int .i32 char, .string ⟨text.toArray⟩, .slice ad cuts.length cap]] w (WDPost w b g ⟨0, [], 0, 0⟩ (fun g' => g' = g.rs)) := by
  have H := Lib.hid h
  have HB := Lib.hid (h.fr (((Fr.refl (fun _ => False) w).alloc _).alloc _) (fun _ _ q => q) : BufAt ((w.alloc (.cells #[.int .i64 16, .int .i64 a, .int .i64 bb, .int .u16 (size : Int), .int .i64 n, .int .u8 (sign.toNat : Int), .int .i32 char, .string ⟨text.toArray⟩, .slice ad cuts.length cap] 36)).alloc (.cells #[.int .i64 0, .string ⟨#[]⟩, .int .i32 0, .int .i64 0] 39)) b g)
  clear h
  have hmf : ∀ (fn : Fn) (first cap : Array Value) (w : World), (Instr.makeFunc fn first cap).run Tryz.prog w = .ok (.func fn first cap) w := fun _ _ _ _ => rfl
  go_enter_defers Tryz.func52, Tryz.ntmps52
  go_wp2_with fail
  refine (buf_reset _ b g HB.out).mono ?_
  rintro e w1 ⟨rfl, A1, F1⟩
  have S1 : BufStep ((w.alloc (.cells #[.int .i64 16, .int .i64 a, .int .i64 bb, .int .u16 (size : Int), .int .i64 n, .int .u8 (sign.toNat : Int), .int .i32 char, .string ⟨text.toArray⟩, .slice ad cuts.length cap] 36)).alloc (.cells #[.int .i64 0, .string ⟨#[]⟩, .int .i32 0, .int .i64 0] 39)) b g w1 (g.rs) := BufStep.of_just A1 rfl F1
  clear F1 A1
  have hT : ToldAt w1 (w.heap.size + 1) := S1.told HB.out (ToldAt.new2 w _)
  have t0 := hT.c0; have t1 := hT.c1; have t2 := hT.c2; have t3 := hT.c3; have z0 := hT.f 0; have z1 := hT.f 1; have z2 := hT.f 2; have z3 := hT.f 3
  have HT := Lib.hid hT
  clear hT
  have HS := Lib.hid S1
  clear S1
  go_wp2_with fail
  refine leaves_cons (f := 89) (args := #[.pointer (some ⟨w.heap.size + 1, 0, none⟩)]) (by simp) (by simp [go_sem]) ?_
  refine (look_idle _ _).mono ?_
  rintro e u' w'' ⟨rfl, rfl, rfl⟩
  simp [Leaves, settle, results, Tryz.results52, go_sem, t0, t1, t2, t3]
  exact ⟨_, rfl, HS.out.skip (((Fr.refl (fun _ => False) w).alloc _).alloc _) (by omega) HT.out (just4 _ _ _ _ _ _), rfl⟩
set_option maxHeartbeats 1600000 in
set_option maxRecDepth 100000 in
theorem look_17 (b : Nat) (g : Gh) (w : World) (h : BufAt w b g) (k : Nat) (hb : g.txt.length + k ≤ 1099511627776) :
    Calls Tryz.prog 52 #[.pointer (some ⟨b, 0, none⟩), .agg #[.int .i64 17, .int .i64 a, .int .i64 bb, .int .u16 (size : Int), .int .i64 (k : Int), .int .u8 (sign.toNat : Int), .int .i32 char, .string ⟨text.toArray⟩, .slice ad cuts.length cap]] w (WDPost w b g ⟨0, [], 0, 0⟩ (fun g' => g'.txt = g.txt)) := by
  have H := Lib.hid h
  have HB := Lib.hid (h.fr (((Fr.refl (fun _ => False) w).alloc _).alloc _) (fun _ _ q => q) : BufAt ((w.alloc (.cells #[.int .i64 17, .int .i64 a, .int .i64 bb, .int .u16 (size : Int), .int .i64 (k : Int), .int .u8 (sign.toNat : Int), .int .i32 char, .string ⟨text.toArray⟩, .slice ad cuts.length cap] 36)).alloc (.cells #[.int .i64 0, .string ⟨#[]⟩, .int .i32 0, .int .i64 0] 39)) b g)
  clear h
  have hmf : ∀ (fn : Fn) (first cap : Array Value) (w : World), (Instr.makeFunc fn first cap).run Tryz.prog w = .ok (.func fn first cap) w := fun _ _ _ _ => rfl
  go_enter_defers Tryz.func52, Tryz.ntmps52
  go_wp2_with fail
  refine (buf_grow k _ b g HB.out hb).mono ?_
  rintro e w1 ⟨g1, rfl, S1, G1⟩
  have HR := Lib.hid G1.txt
  clear G1
  have hT : ToldAt w1 (w.heap.size + 1) := S1.told HB.out (ToldAt.new2 w _)
  have t0 := hT.c0; have t1 := hT.c1; have t2 := hT.c2; have t3 := hT.c3; have z0 := hT.f 0; have z1 := hT.f 1; have z2 := hT.f 2; have z3 := hT.f 3
  have HT := Lib.hid hT
  clear hT
  have HS := Lib.hid S1
  clear S1
  go_wp2_with fail
  refine leaves_cons (f := 89) (args := #[.pointer (some ⟨w.heap.size + 1, 0, none⟩)]) (by simp) (by simp [go_sem]) ?_
  refine (look_idle _ _).mono ?_
  rintro e u' w'' ⟨rfl, rfl, rfl⟩
  simp [Leaves, settle, results, Tryz.results52, go_sem, t0, t1, t2, t3]
  exact ⟨_, rfl, HS.out.skip (((Fr.refl (fun _ => False) w).alloc _).alloc _) (by omega) HT.out (just4 _ _ _ _ _ _), HR.out⟩
set_option maxHeartbeats 1600000 in
set_option maxRecDepth 100000 in
theorem look_18 (b : Nat) (g : Gh) (w : World) (h : BufAt w b g) (m : Nat) (hm : g.off + m = g.len) :
    Calls Tryz.prog 52 #[.pointer (some ⟨b, 0, none⟩), .agg #[.int .i64 18, .int .i64 a, .int .i64 bb, .int .u16 (size : Int), .int .i64 n, .int .u8 (sign.toNat : Int), .int .i32 char, .string ⟨text.toArray⟩, .slice ad cuts.length cap]] w (WDPost w b g ⟨m, [], 0, 0⟩ (fun g' => g' = g)) := by
  have H := Lib.hid h
  have HB := Lib.hid (h.fr (((Fr.refl (fun _ => False) w).alloc _).alloc _) (fun _ _ q => q) : BufAt ((w.alloc (.cells #[.int .i64 18, .int .i64 a, .int .i64 bb, .int .u16 (size : Int), .int .i64 n, .int .u8 (sign.toNat : Int), .int .i32 char, .string ⟨text.toArray⟩, .slice ad cuts.length cap] 36)).alloc (.cells #[.int .i64 0, .string ⟨#[]⟩, .int .i32 0, .int .i64 0] 39)) b g)
  clear h
  have hmf : ∀ (fn : Fn) (first cap : Array Value) (w : World), (Instr.makeFunc fn first cap).run Tryz.prog w = .ok (.func fn first cap) w := fun _ _ _ _ => rfl
  go_enter_defers Tryz.func52, Tryz.ntmps52
  go_wp2_with fail
  refine (buf_len_m _ b g m HB.out hm).mono ?_
  rintro e w1 ⟨rfl, A1, F1⟩
  have S1 : BufStep ((w.alloc (.cells #[.int .i64 18, .int .i64 a, .int .i64 bb, .int .u16 (size : Int), .int .i64 n, .int .u8 (sign.toNat : Int), .int .i32 char, .string ⟨text.toArray⟩, .slice ad cuts.length cap] 36)).alloc (.cells #[.int .i64 0, .string ⟨#[]⟩, .int .i32 0, .int .i64 0] 39)) b g w1 g := BufStep.of_none HB.out F1
  clear A1 F1
  have hT : ToldAt w1 (w.heap.size + 1) := S1.told HB.out (ToldAt.new2 w _)
  have t0 := hT.c0; have t1 := hT.c1; have t2 := hT.c2; have t3 := hT.c3; have z0 := hT.f 0; have z1 := hT.f 1; have z2 := hT.f 2; have z3 := hT.f 3
  have HT := Lib.hid hT
  clear hT
  have HS := Lib.hid S1
  clear S1
  go_wp2_with fail
  refine leaves_cons (f := 89) (args := #[.pointer (some ⟨w.heap.size + 1, 0, none⟩)]) (by simp) (by simp [go_sem]) ?_
  refine (look_idle _ _).mono ?_
  rintro e u' w'' ⟨rfl, rfl, rfl⟩
  simp [Leaves, settle, results, Tryz.results52, go_sem, t0, t1, t2, t3]
  exact ⟨_, rfl, HS.out.skip (((Fr.refl (fun _ => False) w).alloc _).alloc _) (by omega) HT.out (just4 _ _ _ _ _ _), rfl⟩
set_option maxHeartbeats 1600000 in
set_option maxRecDepth 100000 in
theorem look_19 (b : Nat) (g : Gh) (w : World) (h : BufAt w b g) :
    Calls Tryz.prog 52 #[.pointer (some ⟨b, 0, none⟩), .agg #[.int .i64 19, .int .i64 a, .int .i64 bb, .int .u16 (size : Int), .int .i64 n, .int .u8 (sign.toNat : Int), .int .i32 char, .string ⟨text.toArray⟩, .slice ad cuts.length cap]] w (WDPost w b g ⟨0, g.txt, 0, 0⟩ (fun g' => g' = g)) := by
  have H := Lib.hid h
  have HB := Lib.hid (h.fr (((Fr.refl (fun _ => False) w).alloc _).alloc _) (fun _ _ q => q) : BufAt ((w.alloc (.cells #[.int .i64 19, .int .i64 a, .int .i64 bb, .int .u16 (size : Int), .int .i64 n, .int .u8 (sign.toNat : Int), .int .i32 char, .string ⟨text.toArray⟩, .slice ad cuts.length cap] 36)).alloc (.cells #[.int .i64 0, .string ⟨#[]⟩, .int .i32 0, .int .i64 0] 39)) b g)
  clear h
  have hmf : ∀ (fn : Fn) (first cap : Array Value) (w : World), (Instr.makeFunc fn first cap).run Tryz.prog w = .ok (.func fn first cap) w := fun _ _ _ _ => rfl
  go_enter_defers Tryz.func52, Tryz.ntmps52
  go_wp2_with fail
  refine (buf_string _ b g HB.out).mono ?_
  rintro e w1 ⟨rfl, hw⟩
  have F1 : Fr (fun _ => False) ((w.alloc (.cells #[.int .i64 19, .int .i64 a, .int .i64 bb, .int .u16 (size : Int), .int .i64 n, .int .u8 (sign.toNat : Int), .int .i32 char, .string ⟨text.toArray⟩, .slice ad cuts.length cap] 36)).alloc (.cells #[.int .i64 0, .string ⟨#[]⟩, .int .i32 0, .int .i64 0] 39)) w1 := by rw [hw]; exact (Fr.refl _ _).drew
  have S1 : BufStep ((w.alloc (.cells #[.int .i64 19, .int .i64 a, .int .i64 bb, .int .u16 (size : Int), .int .i64 n, .int .u8 (sign.toNat : Int), .int .i32 char, .string ⟨text.toArray⟩, .slice ad cuts.length cap] 36)).alloc (.cells #[.int .i64 0, .string ⟨#[]⟩, .int .i32 0, .int .i64 0] 39)) b g w1 g := BufStep.of_none HB.out F1
  clear F1 hw
  have hT : ToldAt w1 (w.heap.size + 1) := S1.told HB.out (ToldAt.new2 w _)
  have t0 := hT.c0; have t1 := hT.c1; have t2 := hT.c2; have t3 := hT.c3; have z0 := hT.f 0; have z1 := hT.f 1; have z2 := hT.f 2; have z3 := hT.f 3
  have HT := Lib.hid hT
  clear hT
  have HS := Lib.hid S1
  clear S1
  go_wp2_with fail
  refine leaves_cons (f := 89) (args := #[.pointer (some ⟨w.heap.size + 1, 0, none⟩)]) (by simp) (by simp [go_sem]) ?_
  refine (look_idle _ _).mono ?_
  rintro e u' w'' ⟨rfl, rfl, rfl⟩
  simp [Leaves, settle, results, Tryz.results52, go_sem, t0, t1, t2, t3]
  exact ⟨_, rfl, HS.out.skip (((Fr.refl (fun _ => False) w).alloc _).alloc _) (by omega) HT.out (just4 _ _ _ _ _ _), rfl⟩
set_option maxHeartbeats 1600000 in
set_option maxRecDepth 100000 in
theorem look_20 (b : Nat) (g : Gh) (w : World) (h : BufAt w b g) :
    Calls Tryz.prog 52 #[.pointer (some ⟨b, 0, none⟩), .agg #[.int .i64 20, .int .i64 a, .int .i64 bb, .int .u16 (size : Int), .int .i64 n, .int .u8 (sign.toNat : Int), .int .i32 char, .string ⟨text.toArray⟩, .slice ad cuts.length cap]] w (WDPost w b g ⟨0, g.txt, 0, 0⟩ (fun g' => g' = g)) := by
  have H := Lib.hid h
  have HB := Lib.hid (h.fr (((Fr.refl (fun _ => False) w).alloc _).alloc _) (fun _ _ q => q) : BufAt ((w.alloc (.cells #[.int .i64 20, .int .i64 a, .int .i64 bb, .int .u16 (size : Int), .int .i64 n, .int .u8 (sign.toNat : Int), .int .i32 char, .string ⟨text.toArray⟩, .slice ad cuts.length cap] 36)).alloc (.cells #[.int .i64 0, .string ⟨#[]⟩, .int .i32 0, .int .i64 0] 39)) b g)
  clear h
  have hmf : ∀ (fn : Fn) (first cap : Array Value) (w : World), (Instr.makeFunc fn first cap).run Tryz.prog w = .ok (.func fn first cap) w := fun _ _ _ _ => rfl
  go_enter_defers Tryz.func52, Tryz.ntmps52
  go_wp2_with fail
  refine (buf_bytes _ b g HB.out).mono ?_
  rintro e w1 ⟨rfl, kk, hw⟩
  have F1 : Fr (fun _ => False) ((w.alloc (.cells #[.int .i64 20, .int .i64 a, .int .i64 bb, .int .u16 (size : Int), .int .i64 n, .int .u8 (sign.toNat : Int), .int .i32 char, .string ⟨text.toArray⟩, .slice ad cuts.length cap] 36)).alloc (.cells #[.int .i64 0, .string ⟨#[]⟩, .int .i32 0, .int .i64 0] 39)) w1 := by rw [hw]; exact (Fr.refl _ _).drewN _
  have S1 : BufStep ((w.alloc (.cells #[.int .i64 20, .int .i64 a, .int .i64 bb, .int .u16 (size : Int), .int .i64 n, .int .u8 (sign.toNat : Int), .int .i32 char, .string ⟨text.toArray⟩, .slice ad cuts.length cap] 36)).alloc (.cells #[.int .i64 0, .string ⟨#[]⟩, .int .i32 0, .int .i64 0] 39)) b g w1 g := BufStep.of_none HB.out F1
  have hsrc := Src.unread S1.at'
  have hcs := conv_str hsrc
  clear F1 hw hsrc
  have hT : ToldAt w1 (w.heap.size + 1) := S1.told HB.out (ToldAt.new2 w _)
  have t0 := hT.c0; have t1 := hT.c1; have t2 := hT.c2; have t3 := hT.c3; have z0 := hT.f 0; have z1 := hT.f 1; have z2 := hT.f 2; have z3 := hT.f 3
  have HT := Lib.hid hT
  clear hT
  have HS := Lib.hid S1
  clear S1
  go_wp2_with fail
  refine leaves_cons (f := 89) (args := #[.pointer (some ⟨w.heap.size + 1, 0, none⟩)]) (by simp) (by simp [go_sem]) ?_
  refine (look_idle _ _).mono ?_
  rintro e u' w'' ⟨rfl, rfl, rfl⟩
  simp [Leaves, settle, results, Tryz.results52, go_sem, t0, t1, t2, t3]
  exact ⟨_, rfl, HS.out.skip (((Fr.refl (fun _ => False) w).alloc _).alloc _) (by omega) HT.out (just4 _ _ _ _ _ _), rfl⟩
set_option maxHeartbeats 1600000 in
set_option maxRecDepth 100000 in
theorem look_21n (b : Nat) (g : Gh) (w : World) (h : BufAt w b g) (m : Nat) (hm : g.off + m = g.len) (hle : m ≤ size) (hsize : size ≤ 65535) :
    Calls Tryz.prog 52 #[.pointer (some ⟨b, 0, none⟩), .agg #[.int .i64 21, .int .i64 a, .int .i64 bb, .int .u16 (size : Int), .int .i64 n, .int .u8 (sign.toNat : Int), .int .i32 char, .string ⟨text.toArray⟩, .slice ad cuts.length cap]] w (WDPost w b g ⟨0, [], 0, 0⟩ (fun g' => g' = g)) := by
  have H := Lib.hid h
  have HB := Lib.hid (h.fr (((Fr.refl (fun _ => False) w).alloc _).alloc _) (fun _ _ q => q) : BufAt ((w.alloc (.cells #[.int .i64 21, .int .i64 a, .int .i64 bb, .int .u16 (size : Int), .int .i64 n, .int .u8 (sign.toNat : Int), .int .i32 char, .string ⟨text.toArray⟩, .slice ad cuts.length cap] 36)).alloc (.cells #[.int .i64 0, .string ⟨#[]⟩, .int .i32 0, .int .i64 0] 39)) b g)
  clear h
  have hcv : IntKind.i64.wrap (size : Int) = (size : Int) := IntWalk.i64_in _ (by omega)
  have hlt : ¬ ((size : Int) < (m : Int)) := by omega
  have hmf : ∀ (fn : Fn) (first cap : Array Value) (w : World), (Instr.makeFunc fn first cap).run Tryz.prog w = .ok (.func fn first cap) w := fun _ _ _ _ => rfl
  go_enter_defers Tryz.func52, Tryz.ntmps52
  go_wp2_with fail
  refine (buf_bytes _ b g HB.out).mono ?_
  rintro e w1 ⟨rfl, kk, hw⟩
  have F1 : Fr (fun _ => False) ((w.alloc (.cells #[.int .i64 21, .int .i64 a, .int .i64 bb, .int .u16 (size : Int), .int .i64 n, .int .u8 (sign.toNat : Int), .int .i32 char, .string ⟨text.toArray⟩, .slice ad cuts.length cap] 36)).alloc (.cells #[.int .i64 0, .string ⟨#[]⟩, .int .i32 0, .int .i64 0] 39)) w1 := by rw [hw]; exact (Fr.refl _ _).drewN _
  have S1 : BufStep ((w.alloc (.cells #[.int .i64 21, .int .i64 a, .int .i64 bb, .int .u16 (size : Int), .int .i64 n, .int .u8 (sign.toNat : Int), .int .i32 char, .string ⟨text.toArray⟩, .slice ad cuts.length cap] 36)).alloc (.cells #[.int .i64 0, .string ⟨#[]⟩, .int .i32 0, .int .i64 0] 39)) b g w1 g := BufStep.of_none HB.out F1
  have q3 : w1.cell? ⟨w.heap.size, 3, none⟩ = some (.int .u16 (size : Int)) := (F1.cell (by simp; omega) (fun q => q)).trans (by simp)
  have q5 : w1.cell? ⟨w.heap.size, 5, none⟩ = some (.int .u8 (sign.toNat : Int)) := (F1.cell (by simp; omega) (fun q => q)).trans (by simp)
  have hlm : g.len - g.off = m := by omega
  rw [hlm]
  clear F1 hw hlm
  have hT : ToldAt w1 (w.heap.size + 1) := S1.told HB.out (ToldAt.new2 w _)
  have t0 := hT.c0; have t1 := hT.c1; have t2 := hT.c2; have t3 := hT.c3; have z0 := hT.f 0; have z1 := hT.f 1; have z2 := hT.f 2; have z3 := hT.f 3
  have HT := Lib.hid hT
  clear hT
  have HS := Lib.hid S1
  clear S1
  go_wp2_with fail
  refine leaves_cons (f := 89) (args := #[.pointer (some ⟨w.heap.size + 1, 0, none⟩)]) (by simp) (by simp [go_sem]) ?_
  refine (look_idle _ _).mono ?_
  rintro e u' w'' ⟨rfl, rfl, rfl⟩
  simp [Leaves, settle, results, Tryz.results52, go_sem, t0, t1, t2, t3]
  exact ⟨_, rfl, HS.out.skip (((Fr.refl (fun _ => False) w).alloc _).alloc _) (by omega) HT.out (just4 _ _ _ _ _ _), rfl⟩
set_option maxHeartbeats 1600000 in
set_option maxRecDepth 100000 in
theorem look_21 (b : Nat) (g : Gh) (w : World) (h : BufAt w b g) (m r : Nat) (hrow : g.row = some r) (hm : g.off + m = g.len) (hle : size < m) (hsize : size ≤ 65535) :
    Calls Tryz.prog 52 #[.pointer (some ⟨b, 0, none⟩), .agg #[.int .i64 21, .int .i64 a, .int .i64 bb, .int .u16 (size : Int), .int .i64 n, .int .u8 (sign.toNat : Int), .int .i32 char, .string ⟨text.toArray⟩, .slice ad cuts.length cap]] w (WDPost w b g ⟨0, [], 0, 0⟩ (fun g' => g' = { g with all := g.all.set (g.off + size) sign })) := by
  have H := Lib.hid h
  have HB := Lib.hid (h.fr (((Fr.refl (fun _ => False) w).alloc _).alloc _) (fun _ _ q => q) : BufAt ((w.alloc (.cells #[.int .i64 21, .int .i64 a, .int .i64 bb, .int .u16 (size : Int), .int .i64 n, .int .u8 (sign.toNat : Int), .int .i32 char, .string ⟨text.toArray⟩, .slice ad cuts.length cap] 36)).alloc (.cells #[.int .i64 0, .string ⟨#[]⟩, .int .i32 0, .int .i64 0] 39)) b g)
  clear h
  have hcv : IntKind.i64.wrap (size : Int) = (size : Int) := IntWalk.i64_in _ (by omega)
  have hlt : (size : Int) < (m : Int) := by omega
  have hs0 : (0 : Int) ≤ (size : Int) := by omega
  have hlc := H.out.lc
  have hmf : ∀ (fn : Fn) (first cap : Array Value) (w : World), (Instr.makeFunc fn first cap).run Tryz.prog w = .ok (.func fn first cap) w := fun _ _ _ _ => rfl
  go_enter_defers Tryz.func52, Tryz.ntmps52
  go_wp2_with fail
  refine (buf_bytes _ b g HB.out).mono ?_
  rintro e w1 ⟨rfl, kk, hw⟩
  have F1 : Fr (fun _ => False) ((w.alloc (.cells #[.int .i64 21, .int .i64 a, .int .i64 bb, .int .u16 (size : Int), .int .i64 n, .int .u8 (sign.toNat : Int), .int .i32 char, .string ⟨text.toArray⟩, .slice ad cuts.length cap] 36)).alloc (.cells #[.int .i64 0, .string ⟨#[]⟩, .int .i32 0, .int .i64 0] 39)) w1 := by rw [hw]; exact (Fr.refl _ _).drewN _
  have S1 : BufStep ((w.alloc (.cells #[.int .i64 21, .int .i64 a, .int .i64 bb, .int .u16 (size : Int), .int .i64 n, .int .u8 (sign.toNat : Int), .int .i32 char, .string ⟨text.toArray⟩, .slice ad cuts.length cap] 36)).alloc (.cells #[.int .i64 0, .string ⟨#[]⟩, .int .i32 0, .int .i64 0] 39)) b g w1 g := BufStep.of_none HB.out F1
  have q3 : w1.cell? ⟨w.heap.size, 3, none⟩ = some (.int .u16 (size : Int)) := (F1.cell (by simp; omega) (fun q => q)).trans (by simp)
  have q5 : w1.cell? ⟨w.heap.size, 5, none⟩ = some (.int .u8 (sign.toNat : Int)) := (F1.cell (by simp; omega) (fun q => q)).trans (by simp)
  have hlm : g.len - g.off = m := by omega
  rw [hlm]
  clear F1 hw hlm
  have hT : ToldAt w1 (w.heap.size + 1) := S1.told HB.out (ToldAt.new2 w _)
  have t0 := hT.c0; have t1 := hT.c1; have t2 := hT.c2; have t3 := hT.c3; have z0 := hT.f 0; have z1 := hT.f 1; have z2 := hT.f 2; have z3 := hT.f 3
  have HT := Lib.hid hT
  clear hT
  have HS := Lib.hid S1
  clear S1
  have hA2 := HS.out.at'.poke hrow (g.off + (size)) sign
  have hF2 : Fr (fun x => g.row = some x) w1 (w1.setCell ⟨r, g.off + (size), none⟩ (.int .u8 (sign.toNat : Int))) := (Fr.refl _ w1).setCell (fun _ => hrow) _
  have HS2 := Lib.hid (HS.out.trans ⟨hA2, .inl rfl, hF2.mono fun _ _ q => .inr q⟩)
  have hT2 : ToldAt (w1.setCell ⟨r, g.off + (size), none⟩ (.int .u8 (sign.toNat : Int))) (w.heap.size + 1) := HT.out.fr hF2 (fun q => by have := H.out.rlt q; omega)
  have rc : w1.cell? ⟨r, g.off + (size), none⟩ = some (.int .u8 (g.all[g.off + (size)]'(by omega)).toNat) := (HS.out.at'.row r hrow).cell _ (by omega)
  have rz : w1.frozen? ⟨r, g.off + (size), none⟩ = false := (HS.out.at'.row r hrow).free _ (by omega)
  have hcut : cutA g.row g.off g.all.length = some ⟨r, g.off, none⟩ := by rw [hrow]; exact cutA_some _ _ _ (by omega)
  rw [hcut]
  clear t0 t1 t2 t3 z0 z1 z2 z3 hcut
  have t0 := hT2.c0; have t1 := hT2.c1; have t2 := hT2.c2; have t3 := hT2.c3; have z0 := hT2.f 0; have z1 := hT2.f 1; have z2 := hT2.f 2; have z3 := hT2.f 3
  have HT2 := Lib.hid hT2
  clear hT2 hA2 hF2
  go_wp2_with fail
  refine leaves_cons (f := 89) (args := #[.pointer (some ⟨w.heap.size + 1, 0, none⟩)]) (by simp) (by simp [go_sem]) ?_
  refine (look_idle _ _).mono ?_
  rintro e u' w'' ⟨rfl, rfl, rfl⟩
  simp [Leaves, settle, results, Tryz.results52, go_sem, t0, t1, t2, t3]
  exact ⟨_, rfl, HS2.out.skip (((Fr.refl (fun _ => False) w).alloc _).alloc _) (by omega) HT2.out (just4 _ _ _ _ _ _), rfl⟩
set_option maxHeartbeats 1600000 in
set_option maxRecDepth 100000 in
theorem look_22z (b : Nat) (g : Gh) (w : World) (h : BufAt w b g) (m : Nat) (hm : g.off + m = g.len) (hz : size = 0) :
    Calls Tryz.prog 52 #[.pointer (some ⟨b, 0, none⟩), .agg #[.int .i64 22, .int .i64 a, .int .i64 bb, .int .u16 (size : Int), .int .i64 n, .int .u8 (sign.toNat : Int), .int .i32 char, .string ⟨text.toArray⟩, .slice ad cuts.length cap]] w (WDPost w b g ⟨0, [], 0, 0⟩ (fun g' => g' = g)) := by
  have H := Lib.hid h
  have HB := Lib.hid (h.fr (((Fr.refl (fun _ => False) w).alloc _).alloc _) (fun _ _ q => q) : BufAt ((w.alloc (.cells #[.int .i64 22, .int .i64 a, .int .i64 bb, .int .u16 (size : Int), .int .i64 n, .int .u8 (sign.toNat : Int), .int .i32 char, .string ⟨text.toArray⟩, .slice ad cuts.length cap] 36)).alloc (.cells #[.int .i64 0, .string ⟨#[]⟩, .int .i32 0, .int .i64 0] 39)) b g)
  clear h
  have hcv : IntKind.i64.wrap (size : Int) = (size : Int) := IntWalk.i64_in _ (by omega)
  have HZ := Lib.hid hz
  clear hz
  have hmf : ∀ (fn : Fn) (first cap : Array Value) (w : World), (Instr.makeFunc fn first cap).run Tryz.prog w = .ok (.func fn first cap) w := fun _ _ _ _ => rfl
  go_enter_defers Tryz.func52, Tryz.ntmps52
  go_wp2_with fail
  refine (buf_peek _ b g size m HB.out hm (by rw [HZ.out]; omega)).mono ?_
  rintro e w1 ⟨rfl, A1, F1⟩
  have S1 : BufStep ((w.alloc (.cells #[.int .i64 22, .int .i64 a, .int .i64 bb, .int .u16 (size : Int), .int .i64 n, .int .u8 (sign.toNat : Int), .int .i32 char, .string ⟨text.toArray⟩, .slice ad cuts.length cap] 36)).alloc (.cells #[.int .i64 0, .string ⟨#[]⟩, .int .i32 0, .int .i64 0] 39)) b g w1 g := BufStep.of_none HB.out F1
  have q3 : w1.cell? ⟨w.heap.size, 3, none⟩ = some (.int .u16 (size : Int)) := (F1.cell (by simp; omega) (fun q => q)).trans (by simp)
  have q5 : w1.cell? ⟨w.heap.size, 5, none⟩ = some (.int .u8 (sign.toNat : Int)) := (F1.cell (by simp; omega) (fun q => q)).trans (by simp)
  rw [HZ.out]
  clear F1 A1
  have hT : ToldAt w1 (w.heap.size + 1) := S1.told HB.out (ToldAt.new2 w _)
  have t0 := hT.c0; have t1 := hT.c1; have t2 := hT.c2; have t3 := hT.c3; have z0 := hT.f 0; have z1 := hT.f 1; have z2 := hT.f 2; have z3 := hT.f 3
  have HT := Lib.hid hT
  clear hT
  have HS := Lib.hid S1
  clear S1
  go_wp2_with fail
  refine leaves_cons (f := 89) (args := #[.pointer (some ⟨w.heap.size + 1, 0, none⟩)]) (by simp) (by simp [go_sem]) ?_
  refine (look_idle _ _).mono ?_
  rintro e u' w'' ⟨rfl, rfl, rfl⟩
  simp [Leaves, settle, results, Tryz.results52, go_sem, t0, t1, t2, t3]
  exact ⟨_, rfl, HS.out.skip (((Fr.refl (fun _ => False) w).alloc _).alloc _) (by omega) HT.out (just4 _ _ _ _ _ _), rfl⟩
set_option maxHeartbeats 1600000 in
set_option maxRecDepth 100000 in
theorem look_22 (b : Nat) (g : Gh) (w : World) (h : BufAt w b g) (m r k : Nat) (hrow : g.row = some r) (hm : g.off + m = g.len) (hk : size = k + 1) (hle : size ≤ m) (hsize : size ≤ 65535) :
    Calls Tryz.prog 52 #[.pointer (some ⟨b, 0, none⟩), .agg #[.int .i64 22, .int .i64 a, .int .i64 bb, .int .u16 (size : Int), .int .i64 n, .int .u8 (sign.toNat : Int), .int .i32 char, .string ⟨text.toArray⟩, .slice ad cuts.length cap]] w (WDPost w b g ⟨0, [], 0, 0⟩ (fun g' => g' = { g with all := g.all.set (g.off + k) sign })) := by
  have H := Lib.hid h
  have HB := Lib.hid (h.fr (((Fr.refl (fun _ => False) w).alloc _).alloc _) (fun _ _ q => q) : BufAt ((w.alloc (.cells #[.int .i64 22, .int .i64 a, .int .i64 bb, .int .u16 (size : Int), .int .i64 n, .int .u8 (sign.toNat : Int), .int .i32 char, .string ⟨text.toArray⟩, .slice ad cuts.length cap] 36)).alloc (.cells #[.int .i64 0, .string ⟨#[]⟩, .int .i32 0, .int .i64 0] 39)) b g)
  clear h
  have hcv : IntKind.i64.wrap (size : Int) = (size : Int) := IntWalk.i64_in _ (by omega)
  have hpos : (0 : Int) < (size : Int) := by omega
  have hsub : IntKind.i64.wrap ((size : Int) - 1) = (k : Int) := by rw [show (size : Int) - 1 = (k : Int) by omega]; exact IntWalk.i64_in _ (by omega)
  have hlt : (k : Int) < (size : Int) := by omega
  have hs0 : (0 : Int) ≤ (k : Int) := by omega
  have hlc := H.out.lc
  have hkm : k < m := by omega
  clear hk
  have hmf : ∀ (fn : Fn) (first cap : Array Value) (w : World), (Instr.makeFunc fn first cap).run Tryz.prog w = .ok (.func fn first cap) w := fun _ _ _ _ => rfl
  go_enter_defers Tryz.func52, Tryz.ntmps52
  go_wp2_with fail
  refine (buf_peek _ b g size m HB.out hm hle).mono ?_
  rintro e w1 ⟨rfl, A1, F1⟩
  have S1 : BufStep ((w.alloc (.cells #[.int .i64 22, .int .i64 a, .int .i64 bb, .int .u16 (size : Int), .int .i64 n, .int .u8 (sign.toNat : Int), .int .i32 char, .string ⟨text.toArray⟩, .slice ad cuts.length cap] 36)).alloc (.cells #[.int .i64 0, .string ⟨#[]⟩, .int .i32 0, .int .i64 0] 39)) b g w1 g := BufStep.of_none HB.out F1
  have q3 : w1.cell? ⟨w.heap.size, 3, none⟩ = some (.int .u16 (size : Int)) := (F1.cell (by simp; omega) (fun q => q)).trans (by simp)
  have q5 : w1.cell? ⟨w.heap.size, 5, none⟩ = some (.int .u8 (sign.toNat : Int)) := (F1.cell (by simp; omega) (fun q => q)).trans (by simp)
  clear F1 A1
  have hT : ToldAt w1 (w.heap.size + 1) := S1.told HB.out (ToldAt.new2 w _)
  have t0 := hT.c0; have t1 := hT.c1; have t2 := hT.c2; have t3 := hT.c3; have z0 := hT.f 0; have z1 := hT.f 1; have z2 := hT.f 2; have z3 := hT.f 3
  have HT := Lib.hid hT
  clear hT
  have HS := Lib.hid S1
  clear S1
  have hA2 := HS.out.at'.poke hrow (g.off + (k)) sign
  have hF2 : Fr (fun x => g.row = some x) w1 (w1.setCell ⟨r, g.off + (k), none⟩ (.int .u8 (sign.toNat : Int))) := (Fr.refl _ w1).setCell (fun _ => hrow) _
  have HS2 := Lib.hid (HS.out.trans ⟨hA2, .inl rfl, hF2.mono fun _ _ q => .inr q⟩)
  have hT2 : ToldAt (w1.setCell ⟨r, g.off + (k), none⟩ (.int .u8 (sign.toNat : Int))) (w.heap.size + 1) := HT.out.fr hF2 (fun q => by have := H.out.rlt q; omega)
  have rc : w1.cell? ⟨r, g.off + (k), none⟩ = some (.int .u8 (g.all[g.off + (k)]'(by omega)).toNat) := (HS.out.at'.row r hrow).cell _ (by omega)
  have rz : w1.frozen? ⟨r, g.off + (k), none⟩ = false := (HS.out.at'.row r hrow).free _ (by omega)
  have hcut : cutA g.row g.off g.all.length = some ⟨r, g.off, none⟩ := by rw [hrow]; exact cutA_some _ _ _ (by omega)
  rw [hcut]
  clear t0 t1 t2 t3 z0 z1 z2 z3 hcut
  have t0 := hT2.c0; have t1 := hT2.c1; have t2 := hT2.c2; have t3 := hT2.c3; have z0 := hT2.f 0; have z1 := hT2.f 1; have z2 := hT2.f 2; have z3 := hT2.f 3
  have HT2 := Lib.hid hT2
  clear hT2 hA2 hF2
  go_wp2_with fail
  refine leaves_cons (f := 89) (args := #[.pointer (some ⟨w.heap.size + 1, 0, none⟩)]) (by simp) (by simp [go_sem]) ?_
  refine (look_idle _ _).mono ?_
  rintro e u' w'' ⟨rfl, rfl, rfl⟩
  simp [Leaves, settle, results, Tryz.results52, go_sem, t0, t1, t2, t3]
  exact ⟨_, rfl, HS2.out.skip (((Fr.refl (fun _ => False) w).alloc _).alloc _) (by omega) HT2.out (just4 _ _ _ _ _ _), rfl⟩
set_option maxHeartbeats 1600000 in
set_option maxRecDepth 100000 in
theorem look_0 (op : Int) (hop : op < 1) (b : Nat) (g : Gh) (w : World) (h : BufAt w b g) :
    Calls Tryz.prog 52 #[.pointer (some ⟨b, 0, none⟩), .agg #[.int .i64 op, .int .i64 a, .int .i64 bb, .int .u16 (size : Int), .int .i64 n, .int .u8 (sign.toNat : Int), .int .i32 char, .string ⟨text.toArray⟩, .slice ad cuts.length cap]] w (WDPost w b g ⟨0, [], 0, 4⟩ (fun g' => g' = g)) := by
  have H := Lib.hid h
  have HB := Lib.hid (h.fr (((Fr.refl (fun _ => False) w).alloc _).alloc _) (fun _ _ q => q) : BufAt ((w.alloc (.cells #[.int .i64 op, .int .i64 a, .int .i64 bb, .int .u16 (size : Int), .int .i64 n, .int .u8 (sign.toNat : Int), .int .i32 char, .string ⟨text.toArray⟩, .slice ad cuts.length cap] 36)).alloc (.cells #[.int .i64 0, .string ⟨#[]⟩, .int .i32 0, .int .i64 0] 39)) b g)
  clear h
  have n15 : (op == 15) = false := by simp; omega
  have n16 : (op == 16) = false := by simp; omega
  have n17 : (op == 17) = false := by simp; omega
  have n18 : (op == 18) = false := by simp; omega
  have n19 : (op == 19) = false := by simp; omega
  have n20 : (op == 20) = false := by simp; omega
  have n21 : (op == 21) = false := by simp; omega
  have n22 : (op == 22) = false := by simp; omega
  clear hop
  have hmf : ∀ (fn : Fn) (first cap : Array Value) (w : World), (Instr.makeFunc fn first cap).run Tryz.prog w = .ok (.func fn first cap) w := fun _ _ _ _ => rfl
  go_enter_defers Tryz.func52, Tryz.ntmps52
  go_wp2_with fail
  refine leaves_cons (f := 89) (args := #[.pointer (some ⟨w.heap.size + 1, 0, none⟩)]) (by simp) (by simp [go_sem]) ?_
  refine (look_idle _ _).mono ?_
  rintro e u' w'' ⟨rfl, rfl, rfl⟩
  simp [Leaves, settle, results, Tryz.results52, go_sem]
  exact ⟨g, rfl, BufStep.of_none H.out (((Fr.refl (fun _ => False) w).alloc _).alloc _), rfl⟩
end
end Go.Proofs.YtbodbajgpgaoeaaGreatDoor

namespace Go.Proofs.YtbodbajgpgaoeaaGreatDoor
open Go Go.RowKit

/-- The deferred call finds nothing to recover. -/
theorem put_idle (p : Addr) (w : World) :
    CallsD Tryz.prog 65 #[.pointer (some p)] .returning w fun e u' w' => e = .returned (.tuple #[]) ∧ u' = .returning ∧ w' = w := by
  refine callsD_of_wpS Tryz.func65 rfl fun c₀ cs hu => ?_
  apply wpS_seq
  apply wpS_region
  simp [wpOpsS, go_sem, recoverD, hu, Tryz.ntmps65, Exit.thenS]
  refine wpS_cond (t := false) (by simp [Act.eval, Array.replicate]) ?_
  simp only [Bool.false_eq_true, if_false]
  refine wpS_of_wp (wp_skip ?_)
  cases c₀
  simp_all [bodyPostS, results, Tryz.results65]

def PDPost (w : World) (d : Nat) (g : BG) (t : Td) (R : BG → Prop) (e : Ending) (w' : World) : Prop :=
  ∃ g', e = .returned t.val ∧ BldStep w d g w' g' ∧ R g'
theorem BldStep.skip {w0 w w' w'' : World} {d x : Nat} {g g' : BG} (S : BldStep w d g w' g') (h0 : Fr (fun _ => False) w0 w) (hx : w0.heap.size ≤ x) (hT : ToldAt w' x) (h1 : Fr (Just x) w' w'') : BldStep w0 d g w'' g' := by
  refine ⟨S.at'.fr h1 (fun z hz q => ?_), ?_, ?_⟩
  · obtain rfl : z = x := q
    rcases S.at'.foot_typed hz with k | k
    · exact k.ne (by decide) ⟨_, _, hT.st⟩
    · exact k.ne (by decide) ⟨_, _, hT.st⟩
  · rcases S.row with e | e | ⟨r, e, hr⟩
    · exact .inl e
    · exact .inr (.inl e)
    · exact .inr (.inr ⟨r, e, Nat.le_trans h0.size hr⟩)
  · refine ((h0.mono fun _ _ q => q.elim).trans S.fr).trans' h1 fun z hz q => ?_
    obtain rfl : z = x := q
    omega
theorem BldStep.told {w w' : World} {d x : Nat} {g g' : BG} (S : BldStep w d g w' g') (hb : BldAt w d g) (h : ToldAt w x) : ToldAt w' x :=
  h.fr S.fr fun q => by
    rcases hb.foot_typed q with k | k
    · exact k.ne (by decide) ⟨_, _, h.st⟩
    · exact k.ne (by decide) ⟨_, _, h.st⟩
theorem BldStep.refl {w : World} {d : Nat} {g : BG} (h : BldAt w d g) : BldStep w d g w g := ⟨h, .inl rfl, Fr.refl _ _⟩
theorem BldStep.of_foot {w w' : World} {d : Nat} {g : BG} (h : BldAt w' d g) (hf : Fr (fun x => g.row = some x) w w') : BldStep w d g w' g := ⟨h, .inl rfl, hf.mono fun _ _ q => .inr q⟩

section
variable (a bb : Int) (size : Nat) (n : Int) (sign : UInt8) (char : Int) (text : List UInt8) (cuts : List Nat) (ad : Option Addr) (cap : Nat)
set_option maxHeartbeats 1600000 in
set_option maxRecDepth 100000 in
theorem put_29 (d : Nat) (g : BG) (w : World) (h : BldAt w d g) (hsz : g.txt.length + text.length ≤ 1099511627776) :
    Calls Tryz.prog 48 #[.pointer (some ⟨d, 0, none⟩), .agg #[.int .i64 29, .int .i64 a, .int .i64 bb, .int .u16 (size : Int), .int .i64 n, .int .u8 (sign.toNat : Int), .int .i32 char, .string ⟨text.toArray⟩, .slice ad cuts.length cap]] w (PDPost w d g ⟨text.length, [], 0, 0⟩ (fun g' => Built g text g')) := by
  have H := Lib.hid h
  have HB := Lib.hid (h.fr (((Fr.refl (fun _ => False) w).alloc _).alloc _) (fun _ _ q => q) : BldAt ((w.alloc (.cells #[.int .i64 29, .int .i64 a, .int .i64 bb, .int .u16 (size : Int), .int .i64 n, .int .u8 (sign.toNat : Int), .int .i32 char, .string ⟨text.toArray⟩, .slice ad cuts.length cap] 36)).alloc (.cells #[.int .i64 0, .string ⟨#[]⟩, .int .i32 0, .int .i64 0] 39)) d g)
  clear h
  have hmf : ∀ (fn : Fn) (first cap : Array Value) (w : World), (Instr.makeFunc fn first cap).run Tryz.prog w = .ok (.func fn first cap) w := fun _ _ _ _ => rfl
  go_enter_defers Tryz.func48, Tryz.ntmps48
  go_wp2_with fail
  refine (bldWS text _ d g HB.out hsz).mono ?_
  rintro e w1 ⟨g1, rfl, S1, W1⟩
  have HR := Lib.hid W1
  clear W1
  have hT : ToldAt w1 (w.heap.size + 1) := S1.told HB.out (ToldAt.new2 w _)
  have t0 := hT.c0; have t1 := hT.c1; have t2 := hT.c2; have t3 := hT.c3; have z0 := hT.f 0; have z1 := hT.f 1; have z2 := hT.f 2; have z3 := hT.f 3
  have HT := Lib.hid hT
  clear hT
  have HS := Lib.hid S1
  clear S1
  go_wp2_with fail
  refine (said_nil _).mono ?_
  rintro e w2 ⟨rfl, rfl⟩
  go_wp2_with fail
  refine leaves_cons (f := 65) (args := #[.pointer (some ⟨w.heap.size + 1, 0, none⟩)]) (by simp) (by simp [go_sem]) ?_
  refine (put_idle _ _).mono ?_
  rintro e u' w'' ⟨rfl, rfl, rfl⟩
  simp [Leaves, settle, results, Tryz.results48, go_sem, t0, t1, t2, t3]
  exact ⟨_, rfl, HS.out.skip (((Fr.refl (fun _ => False) w).alloc _).alloc _) (by omega) HT.out (just4 _ _ _ _ _ _), HR.out⟩
set_option maxHeartbeats 1600000 in
set_option maxRecDepth 100000 in
theorem put_30 (d : Nat) (g : BG) (w : World) (h : BldAt w d g) (hsz : g.txt.length + 1 ≤ 1099511627776) :
    Calls Tryz.prog 48 #[.pointer (some ⟨d, 0, none⟩), .agg #[.int .i64 30, .int .i64 a, .int .i64 bb, .int .u16 (size : Int), .int .i64 n, .int .u8 (sign.toNat : Int), .int .i32 char, .string ⟨text.toArray⟩, .slice ad cuts.length cap]] w (PDPost w d g ⟨0, [], 0, 0⟩ (fun g' => Built g [sign] g')) := by
  have H := Lib.hid h
  have HB := Lib.hid (h.fr (((Fr.refl (fun _ => False) w).alloc _).alloc _) (fun _ _ q => q) : BldAt ((w.alloc (.cells #[.int .i64 30, .int .i64 a, .int .i64 bb, .int .u16 (size : Int), .int .i64 n, .int .u8 (sign.toNat : Int), .int .i32 char, .string ⟨text.toArray⟩, .slice ad cuts.length cap] 36)).alloc (.cells #[.int .i64 0, .string ⟨#[]⟩, .int .i32 0, .int .i64 0] 39)) d g)
  clear h
  have hmf : ∀ (fn : Fn) (first cap : Array Value) (w : World), (Instr.makeFunc fn first cap).run Tryz.prog w = .ok (.func fn first cap) w := fun _ _ _ _ => rfl
  go_enter_defers Tryz.func48, Tryz.ntmps48
  go_wp2_with fail
  refine (bldWB sign _ d g HB.out hsz).mono ?_
  rintro e w1 ⟨g1, rfl, S1, W1⟩
  have HR := Lib.hid W1
  clear W1
  have hT : ToldAt w1 (w.heap.size + 1) := S1.told HB.out (ToldAt.new2 w _)
  have t0 := hT.c0; have t1 := hT.c1; have t2 := hT.c2; have t3 := hT.c3; have z0 := hT.f 0; have z1 := hT.f 1; have z2 := hT.f 2; have z3 := hT.f 3
  have HT := Lib.hid hT
  clear hT
  have HS := Lib.hid S1
  clear S1
  go_wp2_with fail
  refine (said_nil _).mono ?_
  rintro e w2 ⟨rfl, rfl⟩
  go_wp2_with fail
  refine leaves_cons (f := 65) (args := #[.pointer (some ⟨w.heap.size + 1, 0, none⟩)]) (by simp) (by simp [go_sem]) ?_
  refine (put_idle _ _).mono ?_
  rintro e u' w'' ⟨rfl, rfl, rfl⟩
  simp [Leaves, settle, results, Tryz.results48, go_sem, t0, t1, t2, t3]
  exact ⟨_, rfl, HS.out.skip (((Fr.refl (fun _ => False) w).alloc _).alloc _) (by omega) HT.out (just4 _ _ _ _ _ _), HR.out⟩
set_option maxHeartbeats 1600000 in
set_option maxRecDepth 100000 in
theorem put_31 (d : Nat) (g : BG) (w : World) (h : BldAt w d g) (hgood : ¬ badRune char) (hsz : g.txt.length + 4 ≤ 1099511627776) :
    Calls Tryz.prog 48 #[.pointer (some ⟨d, 0, none⟩), .agg #[.int .i64 31, .int .i64 a, .int .i64 bb, .int .u16 (size : Int), .int .i64 n, .int .u8 (sign.toNat : Int), .int .i32 char, .string ⟨text.toArray⟩, .slice ad cuts.length cap]] w (PDPost w d g ⟨(enc char).length, [], 0, 0⟩ (fun g' => Built g (enc char) g')) := by
  have H := Lib.hid h
  have HB := Lib.hid (h.fr (((Fr.refl (fun _ => False) w).alloc _).alloc _) (fun _ _ q => q) : BldAt ((w.alloc (.cells #[.int .i64 31, .int .i64 a, .int .i64 bb, .int .u16 (size : Int), .int .i64 n, .int .u8 (sign.toNat : Int), .int .i32 char, .string ⟨text.toArray⟩, .slice ad cuts.length cap] 36)).alloc (.cells #[.int .i64 0, .string ⟨#[]⟩, .int .i32 0, .int .i64 0] 39)) d g)
  clear h
  have hmf : ∀ (fn : Fn) (first cap : Array Value) (w : World), (Instr.makeFunc fn first cap).run Tryz.prog w = .ok (.func fn first cap) w := fun _ _ _ _ => rfl
  go_enter_defers Tryz.func48, Tryz.ntmps48
  go_wp2_with fail
  refine (bldWR char _ d g HB.out hgood hsz).mono ?_
  rintro e w1 ⟨g1, rfl, S1, W1⟩
  have HR := Lib.hid W1
  clear W1
  have hT : ToldAt w1 (w.heap.size + 1) := S1.told HB.out (ToldAt.new2 w _)
  have t0 := hT.c0; have t1 := hT.c1; have t2 := hT.c2; have t3 := hT.c3; have z0 := hT.f 0; have z1 := hT.f 1; have z2 := hT.f 2; have z3 := hT.f 3
  have HT := Lib.hid hT
  clear hT
  have HS := Lib.hid S1
  clear S1
  go_wp2_with fail
  refine (said_nil _).mono ?_
  rintro e w2 ⟨rfl, rfl⟩
  go_wp2_with fail
  refine leaves_cons (f := 65) (args := #[.pointer (some ⟨w.heap.size + 1, 0, none⟩)]) (by simp) (by simp [go_sem]) ?_
  refine (put_idle _ _).mono ?_
  rintro e u' w'' ⟨rfl, rfl, rfl⟩
  simp [Leaves, settle, results, Tryz.results48, go_sem, t0, t1, t2, t3]
  exact ⟨_, rfl, HS.out.skip (((Fr.refl (fun _ => False) w).alloc _).alloc _) (by omega) HT.out (just4 _ _ _ _ _ _), HR.out⟩
set_option maxHeartbeats 1600000 in
set_option maxRecDepth 100000 in
theorem put_32 (d : Nat) (g : BG) (w : World) (h : BldAt w d g) (k : Nat) (hsz : g.txt.length + k ≤ 1099511627776) :
    Calls Tryz.prog 48 #[.pointer (some ⟨d, 0, none⟩), .agg #[.int .i64 32, .int .i64 a, .int .i64 bb, .int .u16 (size : Int), .int .i64 (k : Int), .int .u8 (sign.toNat : Int), .int .i32 char, .string ⟨text.toArray⟩, .slice ad cuts.length cap]] w (PDPost w d g ⟨0, [], 0, 0⟩ (fun g' => Roomy g k g')) := by
  have H := Lib.hid h
  have HB := Lib.hid (h.fr (((Fr.refl (fun _ => False) w).alloc _).alloc _) (fun _ _ q => q) : BldAt ((w.alloc (.cells #[.int .i64 32, .int .i64 a, .int .i64 bb, .int .u16 (size : Int), .int .i64 (k : Int), .int .u8 (sign.toNat : Int), .int .i32 char, .string ⟨text.toArray⟩, .slice ad cuts.length cap] 36)).alloc (.cells #[.int .i64 0, .string ⟨#[]⟩, .int .i32 0, .int .i64 0] 39)) d g)
  clear h
  have hmf : ∀ (fn : Fn) (first cap : Array Value) (w : World), (Instr.makeFunc fn first cap).run Tryz.prog w = .ok (.func fn first cap) w := fun _ _ _ _ => rfl
  go_enter_defers Tryz.func48, Tryz.ntmps48
  go_wp2_with fail
  refine (bld_Grow k _ d g HB.out hsz).mono ?_
  rintro e w1 ⟨g1, rfl, S1, W1⟩
  have HR := Lib.hid W1
  clear W1
  have hT : ToldAt w1 (w.heap.size + 1) := S1.told HB.out (ToldAt.new2 w _)
  have t0 := hT.c0; have t1 := hT.c1; have t2 := hT.c2; have t3 := hT.c3; have z0 := hT.f 0; have z1 := hT.f 1; have z2 := hT.f 2; have z3 := hT.f 3
  have HT := Lib.hid hT
  clear hT
  have HS := Lib.hid S1
  clear S1
  go_wp2_with fail
  refine leaves_cons (f := 65) (args := #[.pointer (some ⟨w.heap.size + 1, 0, none⟩)]) (by simp) (by simp [go_sem]) ?_
  refine (put_idle _ _).mono ?_
  rintro e u' w'' ⟨rfl, rfl, rfl⟩
  simp [Leaves, settle, results, Tryz.results48, go_sem, t0, t1, t2, t3]
  exact ⟨_, rfl, HS.out.skip (((Fr.refl (fun _ => False) w).alloc _).alloc _) (by omega) HT.out (just4 _ _ _ _ _ _), HR.out⟩
set_option maxHeartbeats 1600000 in
set_option maxRecDepth 100000 in
theorem put_33 (d : Nat) (g : BG) (w : World) (h : BldAt w d g) :
    Calls Tryz.prog 48 #[.pointer (some ⟨d, 0, none⟩), .agg #[.int .i64 33, .int .i64 a, .int .i64 bb, .int .u16 (size : Int), .int .i64 n, .int .u8 (sign.toNat : Int), .int .i32 char, .string ⟨text.toArray⟩, .slice ad cuts.length cap]] w (PDPost w d g ⟨0, [], 0, 0⟩ (fun g' => g' = ⟨none, [], 0, false⟩)) := by
  have H := Lib.hid h
  have HB := Lib.hid (h.fr (((Fr.refl (fun _ => False) w).alloc _).alloc _) (fun _ _ q => q) : BldAt ((w.alloc (.cells #[.int .i64 33, .int .i64 a, .int .i64 bb, .int .u16 (size : Int), .int .i64 n, .int .u8 (sign.toNat : Int), .int .i32 char, .string ⟨text.toArray⟩, .slice ad cuts.length cap] 36)).alloc (.cells #[.int .i64 0, .string ⟨#[]⟩, .int .i32 0, .int .i64 0] 39)) d g)
  clear h
  have hmf : ∀ (fn : Fn) (first cap : Array Value) (w : World), (Instr.makeFunc fn first cap).run Tryz.prog w = .ok (.func fn first cap) w := fun _ _ _ _ => rfl
  go_enter_defers Tryz.func48, Tryz.ntmps48
  go_wp2_with fail
  refine (bld_reset _ d g HB.out).mono ?_
  rintro e w1 ⟨rfl, A1, F1⟩
  have S1 : BldStep ((w.alloc (.cells #[.int .i64 33, .int .i64 a, .int .i64 bb, .int .u16 (size : Int), .int .i64 n, .int .u8 (sign.toNat : Int), .int .i32 char, .string ⟨text.toArray⟩, .slice ad cuts.length cap] 36)).alloc (.cells #[.int .i64 0, .string ⟨#[]⟩, .int .i32 0, .int .i64 0] 39)) d g w1 ⟨none, [], 0, false⟩ := ⟨A1, .inr (.inl rfl), F1.mono fun _ _ q => .inl q⟩
  clear A1 F1
  have hT : ToldAt w1 (w.heap.size + 1) := S1.told HB.out (ToldAt.new2 w _)
  have t0 := hT.c0; have t1 := hT.c1; have t2 := hT.c2; have t3 := hT.c3; have z0 := hT.f 0; have z1 := hT.f 1; have z2 := hT.f 2; have z3 := hT.f 3
  have HT := Lib.hid hT
  clear hT
  have HS := Lib.hid S1
  clear S1
  go_wp2_with fail
  refine leaves_cons (f := 65) (args := #[.pointer (some ⟨w.heap.size + 1, 0, none⟩)]) (by simp) (by simp [go_sem]) ?_
  refine (put_idle _ _).mono ?_
  rintro e u' w'' ⟨rfl, rfl, rfl⟩
  simp [Leaves, settle, results, Tryz.results48, go_sem, t0, t1, t2, t3]
  exact ⟨_, rfl, HS.out.skip (((Fr.refl (fun _ => False) w).alloc _).alloc _) (by omega) HT.out (just4 _ _ _ _ _ _), rfl⟩
set_option maxHeartbeats 1600000 in
set_option maxRecDepth 100000 in
theorem put_34 (d : Nat) (g : BG) (w : World) (h : BldAt w d g) :
    Calls Tryz.prog 48 #[.pointer (some ⟨d, 0, none⟩), .agg #[.int .i64 34, .int .i64 a, .int .i64 bb, .int .u16 (size : Int), .int .i64 n, .int .u8 (sign.toNat : Int), .int .i32 char, .string ⟨text.toArray⟩, .slice ad cuts.length cap]] w (PDPost w d g ⟨g.txt.length, [], 0, 0⟩ (fun g' => g' = g)) := by
  have H := Lib.hid h
  have HB := Lib.hid (h.fr (((Fr.refl (fun _ => False) w).alloc _).alloc _) (fun _ _ q => q) : BldAt ((w.alloc (.cells #[.int .i64 34, .int .i64 a, .int .i64 bb, .int .u16 (size : Int), .int .i64 n, .int .u8 (sign.toNat : Int), .int .i32 char, .string ⟨text.toArray⟩, .slice ad cuts.length cap] 36)).alloc (.cells #[.int .i64 0, .string ⟨#[]⟩, .int .i32 0, .int .i64 0] 39)) d g)
  clear h
  have hmf : ∀ (fn : Fn) (first cap : Array Value) (w : World), (Instr.makeFunc fn first cap).run Tryz.prog w = .ok (.func fn first cap) w := fun _ _ _ _ => rfl
  go_enter_defers Tryz.func48, Tryz.ntmps48
  go_wp2_with fail
  refine (bld_len _ d g HB.out).mono ?_
  rintro e w1 ⟨rfl, hw⟩
  have S1 : BldStep ((w.alloc (.cells #[.int .i64 34, .int .i64 a, .int .i64 bb, .int .u16 (size : Int), .int .i64 n, .int .u8 (sign.toNat : Int), .int .i32 char, .string ⟨text.toArray⟩, .slice ad cuts.length cap] 36)).alloc (.cells #[.int .i64 0, .string ⟨#[]⟩, .int .i32 0, .int .i64 0] 39)) d g w1 g := by rw [hw]; exact BldStep.refl HB.out
  clear hw
  have hT : ToldAt w1 (w.heap.size + 1) := S1.told HB.out (ToldAt.new2 w _)
  have t0 := hT.c0; have t1 := hT.c1; have t2 := hT.c2; have t3 := hT.c3; have z0 := hT.f 0; have z1 := hT.f 1; have z2 := hT.f 2; have z3 := hT.f 3
  have HT := Lib.hid hT
  clear hT
  have HS := Lib.hid S1
  clear S1
  go_wp2_with fail
  refine leaves_cons (f := 65) (args := #[.pointer (some ⟨w.heap.size + 1, 0, none⟩)]) (by simp) (by simp [go_sem]) ?_
  refine (put_idle _ _).mono ?_
  rintro e u' w'' ⟨rfl, rfl, rfl⟩
  simp [Leaves, settle, results, Tryz.results48, go_sem, t0, t1, t2, t3]
  exact ⟨_, rfl, HS.out.skip (((Fr.refl (fun _ => False) w).alloc _).alloc _) (by omega) HT.out (just4 _ _ _ _ _ _), rfl⟩
set_option maxHeartbeats 1600000 in
set_option maxRecDepth 100000 in
theorem put_35 (d : Nat) (g : BG) (w : World) (h : BldAt w d g) :
    Calls Tryz.prog 48 #[.pointer (some ⟨d, 0, none⟩), .agg #[.int .i64 35, .int .i64 a, .int .i64 bb, .int .u16 (size : Int), .int .i64 n, .int .u8 (sign.toNat : Int), .int .i32 char, .string ⟨text.toArray⟩, .slice ad cuts.length cap]] w (PDPost w d g ⟨0, g.txt, 0, 0⟩ (fun g' => g' = g)) := by
  have H := Lib.hid h
  have HB := Lib.hid (h.fr (((Fr.refl (fun _ => False) w).alloc _).alloc _) (fun _ _ q => q) : BldAt ((w.alloc (.cells #[.int .i64 35, .int .i64 a, .int .i64 bb, .int .u16 (size : Int), .int .i64 n, .int .u8 (sign.toNat : Int), .int .i32 char, .string ⟨text.toArray⟩, .slice ad cuts.length cap] 36)).alloc (.cells #[.int .i64 0, .string ⟨#[]⟩, .int .i32 0, .int .i64 0] 39)) d g)
  clear h
  have hmf : ∀ (fn : Fn) (first cap : Array Value) (w : World), (Instr.makeFunc fn first cap).run Tryz.prog w = .ok (.func fn first cap) w := fun _ _ _ _ => rfl
  go_enter_defers Tryz.func48, Tryz.ntmps48
  go_wp2_with fail
  refine (bld_string _ d g HB.out).mono ?_
  rintro e w1 ⟨rfl, A1, F1⟩
  have S1 : BldStep ((w.alloc (.cells #[.int .i64 35, .int .i64 a, .int .i64 bb, .int .u16 (size : Int), .int .i64 n, .int .u8 (sign.toNat : Int), .int .i32 char, .string ⟨text.toArray⟩, .slice ad cuts.length cap] 36)).alloc (.cells #[.int .i64 0, .string ⟨#[]⟩, .int .i32 0, .int .i64 0] 39)) d g w1 g := BldStep.of_foot A1 F1
  clear A1 F1
  have hT : ToldAt w1 (w.heap.size + 1) := S1.told HB.out (ToldAt.new2 w _)
  have t0 := hT.c0; have t1 := hT.c1; have t2 := hT.c2; have t3 := hT.c3; have z0 := hT.f 0; have z1 := hT.f 1; have z2 := hT.f 2; have z3 := hT.f 3
  have HT := Lib.hid hT
  clear hT
  have HS := Lib.hid S1
  clear S1
  go_wp2_with fail
  refine leaves_cons (f := 65) (args := #[.pointer (some ⟨w.heap.size + 1, 0, none⟩)]) (by simp) (by simp [go_sem]) ?_
  refine (put_idle _ _).mono ?_
  rintro e u' w'' ⟨rfl, rfl, rfl⟩
  simp [Leaves, settle, results, Tryz.results48, go_sem, t0, t1, t2, t3]
  exact ⟨_, rfl, HS.out.skip (((Fr.refl (fun _ => False) w).alloc _).alloc _) (by omega) HT.out (just4 _ _ _ _ _ _), rfl⟩
set_option maxHeartbeats 1600000 in
set_option maxRecDepth 100000 in
theorem put_28 (d : Nat) (g : BG) (w : World) (h : BldAt w d g) (hsz : g.txt.length + text.length ≤ 1099511627776) :
    Calls Tryz.prog 48 #[.pointer (some ⟨d, 0, none⟩), .agg #[.int .i64 28, .int .i64 a, .int .i64 bb, .int .u16 (size : Int), .int .i64 n, .int .u8 (sign.toNat : Int), .int .i32 char, .string ⟨text.toArray⟩, .slice ad cuts.length cap]] w (PDPost w d g ⟨text.length, [], 0, 0⟩ (fun g' => Built g text g')) := by
  have H := Lib.hid h
  have HB := Lib.hid (h.fr (((Fr.refl (fun _ => False) w).alloc _).alloc _) (fun _ _ q => q) : BldAt ((w.alloc (.cells #[.int .i64 28, .int .i64 a, .int .i64 bb, .int .u16 (size : Int), .int .i64 n, .int .u8 (sign.toNat : Int), .int .i32 char, .string ⟨text.toArray⟩, .slice ad cuts.length cap] 36)).alloc (.cells #[.int .i64 0, .string ⟨#[]⟩, .int .i32 0, .int .i64 0] 39)) d g)
  clear h
  obtain ⟨w0, all, hrun, hrow, htk, hla, hlen, hfr, hsz0⟩ := conv_bytes text ((w.alloc (.cells #[.int .i64 28, .int .i64 a, .int .i64 bb, .int .u16 (size : Int), .int .i64 n, .int .u8 (sign.toNat : Int), .int .i32 char, .string ⟨text.toArray⟩, .slice ad cuts.length cap] 36)).alloc (.cells #[.int .i64 0, .string ⟨#[]⟩, .int .i32 0, .int .i64 0] 39)) (by omega)
  obtain ⟨r, hr⟩ : ∃ r, r = ((w.alloc (.cells #[.int .i64 28, .int .i64 a, .int .i64 bb, .int .u16 (size : Int), .int .i64 n, .int .u8 (sign.toNat : Int), .int .i32 char, .string ⟨text.toArray⟩, .slice ad cuts.length cap] 36)).alloc (.cells #[.int .i64 0, .string ⟨#[]⟩, .int .i32 0, .int .i64 0] 39)).heap.size := ⟨_, rfl⟩
  rw [← hr] at hrun hrow
  have HB0 := Lib.hid (HB.out.fr hfr (fun _ _ q => q))
  have HT0 := Lib.hid ((ToldAt.new2 w (.cells #[.int .i64 28, .int .i64 a, .int .i64 bb, .int .u16 (size : Int), .int .i64 n, .int .u8 (sign.toNat : Int), .int .i32 char, .string ⟨text.toArray⟩, .slice ad cuts.length cap] 36)).fr hfr (fun q => q))
  have HF0 := Lib.hid (((((Fr.refl (fun _ => False) w).alloc _).alloc _) : Fr _ w ((w.alloc (.cells #[.int .i64 28, .int .i64 a, .int .i64 bb, .int .u16 (size : Int), .int .i64 n, .int .u8 (sign.toNat : Int), .int .i32 char, .string ⟨text.toArray⟩, .slice ad cuts.length cap] 36)).alloc (.cells #[.int .i64 0, .string ⟨#[]⟩, .int .i32 0, .int .i64 0] 39))).trans hfr)
  have HSR := Lib.hid (src_head (c := all.length) hrow htk hla)
  clear hfr hsz0 hrow htk hr
  have hmf : ∀ (fn : Fn) (first cap : Array Value) (w : World), (Instr.makeFunc fn first cap).run Tryz.prog w = .ok (.func fn first cap) w := fun _ _ _ _ => rfl
  go_enter_defers Tryz.func48, Tryz.ntmps48
  go_wp2_with fail
  refine (bldW _ _ _ text _ d g HB0.out HSR.out rfl hsz).mono ?_
  rintro e w1 ⟨g1, rfl, S1, W1⟩
  have HR := Lib.hid W1
  clear W1
  have hT : ToldAt w1 (w.heap.size + 1) := S1.told HB0.out HT0.out
  have t0 := hT.c0; have t1 := hT.c1; have t2 := hT.c2; have t3 := hT.c3; have z0 := hT.f 0; have z1 := hT.f 1; have z2 := hT.f 2; have z3 := hT.f 3
  have HT := Lib.hid hT
  clear hT
  have HS := Lib.hid S1
  clear S1
  go_wp2_with fail
  refine (said_nil _).mono ?_
  rintro e w2 ⟨rfl, rfl⟩
  go_wp2_with fail
  refine leaves_cons (f := 65) (args := #[.pointer (some ⟨w.heap.size + 1, 0, none⟩)]) (by simp) (by simp [go_sem]) ?_
  refine (put_idle _ _).mono ?_
  rintro e u' w'' ⟨rfl, rfl, rfl⟩
  simp [Leaves, settle, results, Tryz.results48, go_sem, t0, t1, t2, t3]
  exact ⟨_, rfl, HS.out.skip HF0.out (by omega) HT.out (just4 _ _ _ _ _ _), HR.out⟩
set_option maxHeartbeats 1600000 in
set_option maxRecDepth 100000 in
theorem put_36 (op : Int) (hop : 36 ≤ op) (d : Nat) (g : BG) (w : World) (h : BldAt w d g) :
    Calls Tryz.prog 48 #[.pointer (some ⟨d, 0, none⟩), .agg #[.int .i64 op, .int .i64 a, .int .i64 bb, .int .u16 (size : Int), .int .i64 n, .int .u8 (sign.toNat : Int), .int .i32 char, .string ⟨text.toArray⟩, .slice ad cuts.length cap]] w (PDPost w d g ⟨0, [], 0, 4⟩ (fun g' => g' = g)) := by
  have H := Lib.hid h
  have HB := Lib.hid (h.fr (((Fr.refl (fun _ => False) w).alloc _).alloc _) (fun _ _ q => q) : BldAt ((w.alloc (.cells #[.int .i64 op, .int .i64 a, .int .i64 bb, .int .u16 (size : Int), .int .i64 n, .int .u8 (sign.toNat : Int), .int .i32 char, .string ⟨text.toArray⟩, .slice ad cuts.length cap] 36)).alloc (.cells #[.int .i64 0, .string ⟨#[]⟩, .int .i32 0, .int .i64 0] 39)) d g)
  clear h
  have n28 : (op == 28) = false := by simp; omega
  have n29 : (op == 29) = false := by simp; omega
  have n30 : (op == 30) = false := by simp; omega
  have n31 : (op == 31) = false := by simp; omega
  have n32 : (op == 32) = false := by simp; omega
  have n33 : (op == 33) = false := by simp; omega
  have n34 : (op == 34) = false := by simp; omega
  have n35 : (op == 35) = false := by simp; omega
  clear hop
  have hmf : ∀ (fn : Fn) (first cap : Array Value) (w : World), (Instr.makeFunc fn first cap).run Tryz.prog w = .ok (.func fn first cap) w := fun _ _ _ _ => rfl
  go_enter_defers Tryz.func48, Tryz.ntmps48
  go_wp2_with fail
  refine leaves_cons (f := 65) (args := #[.pointer (some ⟨w.heap.size + 1, 0, none⟩)]) (by simp) (by simp [go_sem]) ?_
  refine (put_idle _ _).mono ?_
  rintro e u' w'' ⟨rfl, rfl, rfl⟩
  simp [Leaves, settle, results, Tryz.results48, go_sem]
  exact ⟨g, rfl, ⟨H.out.fr (((Fr.refl (fun _ => False) w).alloc _).alloc _) (fun _ _ q => q), .inl rfl, ((((Fr.refl (fun _ => False) w).alloc _).alloc _)).mono fun _ _ q => q.elim⟩, rfl⟩
end
end Go.Proofs.YtbodbajgpgaoeaaGreatDoor

namespace Go.Proofs.YtbodbajgpgaoeaaGreatDoor
open Go Go.RowKit

theorem drain_any (w : World) (b : Nat) (g : Gh) (sb room : Nat) (h : BufAt w b g) (hst : w.heap[sb]? = some (.cells #[.int .i64 (room : Int), .slice none 0 0] 130 (0, 0))) (hroom : room ≤ 65535) (hn : g.txt.length ≤ room) :
    Calls Tryz.prog 86 #[.pointer (some ⟨b, 0, none⟩), .iface 128 (.pointer (some ⟨sb, 0, none⟩))] w (DrainPost w b g sb) := by
  by_cases ht : g.txt = []
  · exact drain_empty w b g sb room h hst ht
  · exact drain_all w b g sb room g.txt.length h hst rfl (List.length_pos_iff.2 ht) hroom hn

/-- A new reader of pieces. -/
theorem SrcAt.new {w : World} {base : Nat} {v : Value} {ps : List (List UInt8)} (fl : Bool) (h : Own 9 1 w base v ps.length (strs ps)) (hb : base ≤ w.heap.size) :
    SrcAt (w.alloc (.cells #[v, .bool fl, .slice none 0 0] 135)) w.heap.size base ps fl [] := by
  have hf : Fr (fun _ => False) w (w.alloc (.cells #[v, .bool fl, .slice none 0 0] 135)) := (Fr.refl _ w).alloc _
  rcases h.2 with ⟨rfl, h0⟩ | ⟨g, cap, cur, rfl, h1, h2, h3, h4, h5, h6⟩
  · refine ⟨none, 0, _, hb, ?_, fun q => absurd (List.eq_nil_of_length_eq_zero h0) q, by omega, Own.nil _ _ _ _⟩
    rw [h0]
    exact heap_alloc_new w _
  · refine ⟨_, cap, _, hb, heap_alloc_new w _, fun _ => ⟨g, 0, cur, rfl, h1, hf.blk h2 (fun q => q), fun j p hp => ?_⟩, h3, Own.nil _ _ _ _⟩
    have hj : j < ps.length := (List.getElem?_eq_some_iff.1 hp).1
    have e : (strs ps)[j]? = some (strV p) := by simp [strs, hp]
    rw [← h6, List.getElem?_take_of_lt (by omega)] at e
    simpa using e
theorem piecesF_len (s : List UInt8) (ks : List Nat) : (piecesF s ks).length ≤ ks.length + 1 := by
  unfold piecesF
  rw [List.length_append, cutAll_len]
  split <;> simp
theorem BufGo.step' {S : Nat → Prop} {w0 w w' : World} {b : Nat} {g g' : Gh} (h : BufGo S w b g w' g') (h0 : Fr (fun _ => False) w0 w) (hS : ∀ x, x < w0.heap.size → ¬ S x) : BufStep w0 b g w' g' := by
  refine ⟨h.at', ?_, (h0.mono fun _ _ q => q.elim).trans' h.fr fun x hx q => q.elim id fun q => absurd q (hS x hx)⟩
  rcases h.row with e | ⟨r, e, hr⟩
  · exact .inl e
  · exact .inr ⟨r, e, Nat.le_trans h0.size hr⟩

section
variable (a bb : Int) (size : Nat) (n : Int) (sign : UInt8) (char : Int) (text : List UInt8) (cuts : List Nat) (ad : Option Addr) (cap : Nat)
set_option maxHeartbeats 1600000 in
set_option maxRecDepth 100000 in
theorem flow_26 (yp : Value) (b : Nat) (g : Gh) (w : World) (h : BufAt w b g) (hsize : size ≤ 65535) (hle : g.txt.length ≤ size) :
    Calls Tryz.prog 51 #[yp, .pointer (some ⟨b, 0, none⟩), .agg #[.int .i64 26, .int .i64 a, .int .i64 bb, .int .u16 (size : Int), .int .i64 n, .int .u8 (sign.toNat : Int), .int .i32 char, .string ⟨text.toArray⟩, .slice ad cuts.length cap]] w (WDPost w b g ⟨g.txt.length, g.txt, 0, 0⟩ (fun g' => g' = g.rs)) := by
  have H := Lib.hid h
  have HB := Lib.hid (h.fr (((Fr.refl (fun _ => False) w).alloc _).alloc _) (fun _ _ q => q) : BufAt ((w.alloc (.cells #[.int .i64 26, .int .i64 a, .int .i64 bb, .int .u16 (size : Int), .int .i64 n, .int .u8 (sign.toNat : Int), .int .i32 char, .string ⟨text.toArray⟩, .slice ad cuts.length cap] 36)).alloc (.cells #[.int .i64 0, .string ⟨#[]⟩, .int .i32 0, .int .i64 0] 39)) b g)
  clear h
  have hcv : IntKind.i64.wrap (size : Int) = (size : Int) := IntWalk.i64_in _ (by omega)
  have hB1 : BufAt (((w.alloc (.cells #[.int .i64 26, .int .i64 a, .int .i64 bb, .int .u16 (size : Int), .int .i64 n, .int .u8 (sign.toNat : Int), .int .i32 char, .string ⟨text.toArray⟩, .slice ad cuts.length cap] 36)).alloc (.cells #[.int .i64 0, .string ⟨#[]⟩, .int .i32 0, .int .i64 0] 39)).alloc (.cells #[.int .i64 (size : Int), .slice none 0 0] 130)) b g := H.out.fr ((((Fr.refl (fun _ => False) w).alloc _).alloc _).alloc _) (fun _ _ q => q)
  have hT1 : ToldAt (((w.alloc (.cells #[.int .i64 26, .int .i64 a, .int .i64 bb, .int .u16 (size : Int), .int .i64 n, .int .u8 (sign.toNat : Int), .int .i32 char, .string ⟨text.toArray⟩, .slice ad cuts.length cap] 36)).alloc (.cells #[.int .i64 0, .string ⟨#[]⟩, .int .i32 0, .int .i64 0] 39)).alloc (.cells #[.int .i64 (size : Int), .slice none 0 0] 130)) (w.heap.size + 1) := (ToldAt.new2 w _).fr ((Fr.refl (fun _ => False) _).alloc _) (fun q => q)
  have hst1 : (((w.alloc (.cells #[.int .i64 26, .int .i64 a, .int .i64 bb, .int .u16 (size : Int), .int .i64 n, .int .u8 (sign.toNat : Int), .int .i32 char, .string ⟨text.toArray⟩, .slice ad cuts.length cap] 36)).alloc (.cells #[.int .i64 0, .string ⟨#[]⟩, .int .i32 0, .int .i64 0] 39)).alloc (.cells #[.int .i64 (size : Int), .slice none 0 0] 130)).heap[w.heap.size + 1 + 1]? = some (.cells #[.int .i64 (size : Int), .slice none 0 0] 130 (0, 0)) := by have := heap_alloc_new ((w.alloc (.cells #[.int .i64 26, .int .i64 a, .int .i64 bb, .int .u16 (size : Int), .int .i64 n, .int .u8 (sign.toNat : Int), .int .i32 char, .string ⟨text.toArray⟩, .slice ad cuts.length cap] 36)).alloc (.cells #[.int .i64 0, .string ⟨#[]⟩, .int .i32 0, .int .i64 0] 39)) (.cells #[.int .i64 (size : Int), .slice none 0 0] 130); simpa using this
  have hlt := H.out.lt
  have HB1 := Lib.hid hB1
  have HT1 := Lib.hid hT1
  have HST := Lib.hid hst1
  clear hB1 hT1 hst1
  go_enter Tryz.func51, Tryz.ntmps51
  go_wp2_with fail
  refine (drain_any _ b g (w.heap.size + 1 + 1) size HB1.out HST.out hsize hle).mono ?_
  rintro e w1 ⟨A, k2, c2, rfl, A1, hc1, hs1, F1⟩
  have S1 : BufStep w b g w1 g.rs := ⟨A1, .inl rfl, (((((Fr.refl (fun _ => False) w).alloc _).alloc _).alloc _) : Fr _ w (((w.alloc (.cells #[.int .i64 26, .int .i64 a, .int .i64 bb, .int .u16 (size : Int), .int .i64 n, .int .u8 (sign.toNat : Int), .int .i32 char, .string ⟨text.toArray⟩, .slice ad cuts.length cap] 36)).alloc (.cells #[.int .i64 0, .string ⟨#[]⟩, .int .i32 0, .int .i64 0] 39)).alloc (.cells #[.int .i64 (size : Int), .slice none 0 0] 130))).mono (fun _ _ q => q.elim) |>.trans' F1 (fun x hx q => q.elim (fun q => .inl q) (fun q => by omega))⟩
  have hT : ToldAt w1 (w.heap.size + 1) := HT1.out.fr F1 (fun q => by rcases q with q | q <;> omega)
  have t0 := hT.c0; have t1 := hT.c1; have t2 := hT.c2; have t3 := hT.c3; have z0 := hT.f 0; have z1 := hT.f 1; have z2 := hT.f 2; have z3 := hT.f 3
  have HT := Lib.hid hT
  clear hT
  have HS := Lib.hid S1
  have HSRC := Lib.hid hs1
  have HC1 := Lib.hid hc1
  clear S1 F1 A1 hs1
  have hcs : ∀ w', Src w' (.slice A k2 c2) g.txt → (convert 40 9 (.slice A k2 c2)).run Tryz.prog w' = .ok (.string ⟨g.txt.toArray⟩) w' := fun w' h => conv_str h
  go_wp2_with fail
  go_region_held3 (fun w' => w'.cell? ⟨w.heap.size + 1 + 1, 1, none⟩ = some (.slice A k2 c2) ∧ Src w' (.slice A k2 c2) g.txt) (first | exact ⟨HC1.out, HSRC.out.of_heap rfl⟩ | exact ⟨((just4 _ _ _ _ _ _).cell (World.block_lt_of_cell? _ _ HC1.out) (fun q => by have q : w.heap.size + 1 + 1 = w.heap.size + 1 := q; omega)).trans HC1.out, HSRC.out.told HT.out rfl _ _ _ _⟩) ((go_at_call 67; refine (said_nil _).mono ?_; rintro e w2 ⟨rfl, rfl⟩))
  all_goals
    go_wp2_with fail
    refine bodyPost_ret (v := Td.val ⟨g.txt.length, g.txt, 0, 0⟩) (by simp [results, Tryz.results51, go_sem, t0, t1, t2, t3, Td.val, Td.cells]) rfl ?_
    exact ⟨_, rfl, HS.out.skip (Fr.refl _ w) (by omega) HT.out (by first | exact just4 _ _ _ _ _ _ | exact (((Fr.refl (Just _) _).drew).trans (just4 _ _ _ _ _ _))), rfl⟩
set_option maxHeartbeats 1600000 in
set_option maxRecDepth 100000 in
theorem flow_27 (yp : Value) (b : Nat) (g : Gh) (w : World) (h : BufAt w b g) (ea : Addr) (he : w.cell? ⟨0, 0, none⟩ = some (errV ea)) (hU : U16s w ad cuts) (hsz : g.txt.length + text.length + 512 ≤ 1099511627776) (htl : text.length ≤ 2147483647) (hcl : cuts.length ≤ 1073741824) :
    Calls Tryz.prog 51 #[yp, .pointer (some ⟨b, 0, none⟩), .agg #[.int .i64 27, .int .i64 a, .int .i64 bb, .int .u16 (size : Int), .int .i64 0, .int .u8 (sign.toNat : Int), .int .i32 char, .string ⟨text.toArray⟩, .slice ad cuts.length cap]] w (WDPost w b g ⟨text.length, [], 0, 0⟩ (fun g' => g'.txt = g.txt ++ text)) := by
  have H := Lib.hid h
  have HB := Lib.hid (h.fr (((Fr.refl (fun _ => False) w).alloc _).alloc _) (fun _ _ q => q) : BufAt ((w.alloc (.cells #[.int .i64 27, .int .i64 a, .int .i64 bb, .int .u16 (size : Int), .int .i64 0, .int .u8 (sign.toNat : Int), .int .i32 char, .string ⟨text.toArray⟩, .slice ad cuts.length cap] 36)).alloc (.cells #[.int .i64 0, .string ⟨#[]⟩, .int .i32 0, .int .i64 0] 39)) b g)
  clear h
  have hU0 : U16s ((w.alloc (.cells #[.int .i64 27, .int .i64 a, .int .i64 bb, .int .u16 (size : Int), .int .i64 0, .int .u8 (sign.toNat : Int), .int .i32 char, .string ⟨text.toArray⟩, .slice ad cuts.length cap] 36)).alloc (.cells #[.int .i64 0, .string ⟨#[]⟩, .int .i32 0, .int .i64 0] 39)) ad cuts := hU.fr (((Fr.refl (fun _ => False) w).alloc _).alloc _) (fun _ _ _ q => q)
  have he0 : ((w.alloc (.cells #[.int .i64 27, .int .i64 a, .int .i64 bb, .int .u16 (size : Int), .int .i64 0, .int .u8 (sign.toNat : Int), .int .i32 char, .string ⟨text.toArray⟩, .slice ad cuts.length cap] 36)).alloc (.cells #[.int .i64 0, .string ⟨#[]⟩, .int .i32 0, .int .i64 0] 39)).cell? ⟨0, 0, none⟩ = some (errV ea) := (((((Fr.refl (fun _ => False) w).alloc _).alloc _) : Fr _ w ((w.alloc (.cells #[.int .i64 27, .int .i64 a, .int .i64 bb, .int .u16 (size : Int), .int .i64 0, .int .u8 (sign.toNat : Int), .int .i32 char, .string ⟨text.toArray⟩, .slice ad cuts.length cap] 36)).alloc (.cells #[.int .i64 0, .string ⟨#[]⟩, .int .i32 0, .int .i64 0] 39))).cell (World.block_lt_of_cell? _ _ he) (fun q => q)).trans he
  have hel : 0 < w.heap.size := World.block_lt_of_cell? _ _ he
  have hlt := H.out.lt
  have HU0 := Lib.hid hU0
  have HE0 := Lib.hid he0
  have HTOT := Lib.hid (show tot (piecesF text cuts) = text.length by unfold tot; rw [piecesF_flat])
  clear he he0 hU hU0
  go_enter Tryz.func51, Tryz.ntmps51
  go_wp2_with fail
  go_region_held3 (fun w' => w'.cell? ⟨w.heap.size, 7, none⟩ = some (.string ⟨text.toArray⟩) ∧ w'.cell? ⟨w.heap.size, 8, none⟩ = some (.slice ad cuts.length cap) ∧ w'.cell? ⟨w.heap.size, 4, none⟩ = some (.int .i64 0)) (go_keep) ((first | (go_at_call 88; refine (pieces_any text cuts ad cap _ (HU0.out.fr ((Fr.refl (fun _ => False) _).drew) (fun _ _ _ q => q)) (by omega) (by omega)).mono ?_; rintro e w1 ⟨v, rfl, hown, F1⟩; obtain ⟨A3, cap3, rfl⟩ := hown.value; have q7 : w1.cell? ⟨w.heap.size, 7, none⟩ = some (.string ⟨text.toArray⟩) := (F1.cell (by simp; omega) (fun q => q)).trans (by simp); have q8 : w1.cell? ⟨w.heap.size, 8, none⟩ = some (.slice ad cuts.length cap) := (F1.cell (by simp; omega) (fun q => q)).trans (by simp); have q4 : w1.cell? ⟨w.heap.size, 4, none⟩ = some (.int .i64 0) := (F1.cell (by simp; omega) (fun q => q)).trans (by simp); have hn7 := World.new_ne w1 _ q7; have HOWN := Lib.hid hown; have HF1 := Lib.hid F1; clear hown F1) | (go_at_call 87; have hFa : Fr (fun _ => False) ((w.alloc (.cells #[.int .i64 27, .int .i64 a, .int .i64 bb, .int .u16 (size : Int), .int .i64 0, .int .u8 (sign.toNat : Int), .int .i32 char, .string ⟨text.toArray⟩, .slice ad cuts.length cap] 36)).alloc (.cells #[.int .i64 0, .string ⟨#[]⟩, .int .i32 0, .int .i64 0] 39)) (w1.alloc (.cells #[.slice A3 (piecesF text cuts).length cap3, .bool false, .slice none 0 0] 135)) := ((Fr.refl (fun _ => False) ((w.alloc (.cells #[.int .i64 27, .int .i64 a, .int .i64 bb, .int .u16 (size : Int), .int .i64 0, .int .u8 (sign.toNat : Int), .int .i32 char, .string ⟨text.toArray⟩, .slice ad cuts.length cap] 36)).alloc (.cells #[.int .i64 0, .string ⟨#[]⟩, .int .i32 0, .int .i64 0] 39))).drew.trans HF1.out).alloc _; have hsz1 : w.heap.size + 1 + 1 ≤ w1.heap.size := (by have := HF1.out.size; simpa using this); refine (readFrom_src _ b g w1.heap.size (w.heap.size + 1 + 1) (piecesF text cuts) ea (HB.out.fr hFa (fun _ _ q => q)) (by have := SrcAt.new false HOWN.out HF1.out.size; simpa using this) (by omega) (by first | omega | (simp; done) | (simp; omega)) ((hFa.cell (World.block_lt_of_cell? _ _ HE0.out) (fun q => q)).trans HE0.out) (by omega) (by rw [HTOT.out]; exact hsz) (by rw [HTOT.out]; have := piecesF_len text cuts; omega)).mono ?_; rintro e w5 ⟨g5, ak, rfl, G5, hlr, htx, hs5, hx1, hx2, hx3⟩; rw [HTOT.out]; have hno : ∀ x, w.heap.size ≤ x → x < w.heap.size + 1 + 1 → ¬ (g.foot b x ∨ srcS (w1.alloc (.cells #[.slice A3 (piecesF text cuts).length cap3, .bool false, .slice none 0 0] 135)) (w.heap.size + 1 + 1) x) := (fun x h1 h2 q => q.elim (fun q => by have := H.out.foot_lt q; omega) (fun q => by have := q.1; omega)); have p7 : w5.cell? ⟨w.heap.size, 7, none⟩ = some (.string ⟨text.toArray⟩) := (G5.fr.cell (by first | omega | (simp; done) | (simp; omega)) (hno w.heap.size (Nat.le_refl _) (by omega))).trans ((((Fr.refl (fun _ => False) w1).alloc _).cell (World.block_lt_of_cell? _ _ q7) (fun q => q)).trans q7); have p8 : w5.cell? ⟨w.heap.size, 8, none⟩ = some (.slice ad cuts.length cap) := (G5.fr.cell (by first | omega | (simp; done) | (simp; omega)) (hno w.heap.size (Nat.le_refl _) (by omega))).trans ((((Fr.refl (fun _ => False) w1).alloc _).cell (World.block_lt_of_cell? _ _ q8) (fun q => q)).trans q8); have p4 : w5.cell? ⟨w.heap.size, 4, none⟩ = some (.int .i64 0) := (G5.fr.cell (by first | omega | (simp; done) | (simp; omega)) (hno w.heap.size (Nat.le_refl _) (by omega))).trans ((((Fr.refl (fun _ => False) w1).alloc _).cell (World.block_lt_of_cell? _ _ q4) (fun q => q)).trans q4); have hT : ToldAt w5 (w.heap.size + 1) := ((ToldAt.new2 w _).fr hFa (fun q => q)).fr G5.fr (hno (w.heap.size + 1) (by omega) (by omega)); have HS := Lib.hid (G5.step' (((((Fr.refl (fun _ => False) w).alloc _).alloc _) : Fr _ w ((w.alloc (.cells #[.int .i64 27, .int .i64 a, .int .i64 bb, .int .u16 (size : Int), .int .i64 0, .int .u8 (sign.toNat : Int), .int .i32 char, .string ⟨text.toArray⟩, .slice ad cuts.length cap] 36)).alloc (.cells #[.int .i64 0, .string ⟨#[]⟩, .int .i32 0, .int .i64 0] 39))).trans hFa) (fun x hx q => by have := q.1; omega)); have HTX := Lib.hid (show g5.txt = g.txt ++ text by rw [htx, piecesF_flat]); clear hlr htx hs5 hx1 hx2 hx3 G5 hno hFa)))
  have t0 := hT.c0; have t1 := hT.c1; have t2 := hT.c2; have t3 := hT.c3; have z0 := hT.f 0; have z1 := hT.f 1; have z2 := hT.f 2; have z3 := hT.f 3
  have HT := Lib.hid hT
  clear hT
  go_wp2_with fail
  refine (said_nil _).mono ?_
  rintro e w2 ⟨rfl, rfl⟩
  go_wp2_with fail
  refine bodyPost_ret (v := Td.val ⟨text.length, [], 0, 0⟩) (by simp [results, Tryz.results51, go_sem, t0, t1, t2, t3, Td.val, Td.cells]) rfl ?_
  exact ⟨_, rfl, HS.out.skip (Fr.refl _ w) (by omega) HT.out (just4 _ _ _ _ _ _), HTX.out⟩
end
end Go.Proofs.YtbodbajgpgaoeaaGreatDoor
