/- CallL. -/
import Derived.Test.YtkggebhkjgjijaaGreatDoorQ17
import Derived.Defers
import Derived.Recover
import Derived.Laws.Pointers
namespace Go.Proofs.YtkggebhkjgjijaaGreatDoor
open Go Go.RowKit

/-- The deferred call finds nothing to recover. -/
theorem look_idle (p : Addr) (w : World) :
    CallsD Tryz.prog 63 #[.pointer (some p)] .returning w fun e u' w' => e = .returned (.tuple #[]) ∧ u' = .returning ∧ w' = w := by
  refine callsD_of_wpS Tryz.func63 rfl fun c₀ cs hu => ?_
  apply wpS_seq
  apply wpS_region
  simp [wpOpsS, go_sem, recoverD, hu, Tryz.ntmps63, Exit.thenS]
  refine wpS_cond (t := false) (by simp [Act.eval, Array.replicate]) ?_
  simp only [Bool.false_eq_true, if_false]
  refine wpS_of_wp (wp_skip ?_)
  cases c₀
  simp_all [bodyPostS, results, Tryz.results63]
section
variable (a bb : Int) (size : Nat) (n : Int) (sign : UInt8) (char : Int) (text : List UInt8) (cuts : List Nat) (ad : Option Addr) (cap : Nat)
set_option maxHeartbeats 1600000 in
set_option maxRecDepth 100000 in
theorem look_15 (b : Nat) (g : Gh) (w : World) (h : BufAt w b g) (k m : Nat) (hm : g.off + m = g.len) (hk : 0 < k) (hkm : k ≤ m) :
    Calls Tryz.prog 29 #[.pointer (some ⟨b, 0, none⟩), .agg #[.int .i64 15, .int .i64 a, .int .i64 bb, .int .u16 (size : Int), .int .i64 (k : Int), .int .u8 (sign.toNat : Int), .int .i32 char, .string ⟨text.toArray⟩, .slice ad cuts.length cap]] w (WDPost w b g ⟨0, [], 0, 0⟩ (fun g' => g' = { g with len := g.off + k, lr := 0 })) := by
  have H := Lib.hid h
  have HB := Lib.hid (h.fr (((Fr.refl (fun _ => False) w).alloc _).alloc _) (fun _ _ q => q) : BufAt ((w.alloc (.cells #[.int .i64 15, .int .i64 a, .int .i64 bb, .int .u16 (size : Int), .int .i64 (k : Int), .int .u8 (sign.toNat : Int), .int .i32 char, .string ⟨text.toArray⟩, .slice ad cuts.length cap] 27)).alloc (.cells #[.int .i64 0, .string ⟨#[]⟩, .int .i32 0, .int .i64 0] 45)) b g)
  clear h
  have hmf : ∀ (fn : Fn) (first cap : Array Value) (w : World), (Instr.makeFunc fn first cap).run Tryz.prog w = .ok (.func fn first cap) w := fun _ _ _ _ => rfl
  go_enter_defers Tryz.func29, Tryz.ntmps29
  go_wp2_with fail
  refine (buf_truncate_some _ b g k m HB.out hm hk hkm).mono ?_
  rintro e w1 ⟨rfl, A1, F1⟩
  have S1 : BufStep ((w.alloc (.cells #[.int .i64 15, .int .i64 a, .int .i64 bb, .int .u16 (size : Int), .int .i64 (k : Int), .int .u8 (sign.toNat : Int), .int .i32 char, .string ⟨text.toArray⟩, .slice ad cuts.length cap] 27)).alloc (.cells #[.int .i64 0, .string ⟨#[]⟩, .int .i32 0, .int .i64 0] 45)) b g w1 ({ g with len := g.off + k, lr := 0 }) := BufStep.of_just A1 rfl F1
  clear F1 A1
  have hT : ToldAt w1 (w.heap.size + 1) := S1.told HB.out (ToldAt.new2 w _)
  have t0 := hT.c0; have t1 := hT.c1; have t2 := hT.c2; have t3 := hT.c3; have z0 := hT.f 0; have z1 := hT.f 1; have z2 := hT.f 2; have z3 := hT.f 3
  have HT := Lib.hid hT
  clear hT
  have HS := Lib.hid S1
  clear S1
  go_wp2_with fail
  refine leaves_cons (f := 63) (args := #[.pointer (some ⟨w.heap.size + 1, 0, none⟩)]) (by simp) (by simp [go_sem]) ?_
  refine (look_idle _ _).mono ?_
  rintro e u' w'' ⟨rfl, rfl, rfl⟩
  simp [Leaves, settle, results, Tryz.results29, go_sem, t0, t1, t2, t3]
  exact ⟨_, rfl, HS.out.skip (((Fr.refl (fun _ => False) w).alloc _).alloc _) (by omega) HT.out (just4 _ _ _ _ _ _), rfl⟩
set_option maxHeartbeats 1600000 in
set_option maxRecDepth 100000 in
theorem look_15z (b : Nat) (g : Gh) (w : World) (h : BufAt w b g) :
    Calls Tryz.prog 29 #[.pointer (some ⟨b, 0, none⟩), .agg #[.int .i64 15, .int .i64 a, .int .i64 bb, .int .u16 (size : Int), .int .i64 0, .int .u8 (sign.toNat : Int), .int .i32 char, .string ⟨text.toArray⟩, .slice ad cuts.length cap]] w (WDPost w b g ⟨0, [], 0, 0⟩ (fun g' => g' = g.rs)) := by
  have H := Lib.hid h
  have HB := Lib.hid (h.fr (((Fr.refl (fun _ => False) w).alloc _).alloc _) (fun _ _ q => q) : BufAt ((w.alloc (.cells #[.int .i64 15, .int .i64 a, .int .i64 bb, .int .u16 (size : Int), .int .i64 0, .int .u8 (sign.toNat : Int), .int .i32 char, .string ⟨text.toArray⟩, .slice ad cuts.length cap] 27)).alloc (.cells #[.int .i64 0, .string ⟨#[]⟩, .int .i32 0, .int .i64 0] 45)) b g)
  clear h
  have hmf : ∀ (fn : Fn) (first cap : Array Value) (w : World), (Instr.makeFunc fn first cap).run Tryz.prog w = .ok (.func fn first cap) w := fun _ _ _ _ => rfl
  go_enter_defers Tryz.func29, Tryz.ntmps29
  go_wp2_with fail
  refine (buf_truncate_zero _ b g HB.out).mono ?_
  rintro e w1 ⟨rfl, A1, F1⟩
  have S1 : BufStep ((w.alloc (.cells #[.int .i64 15, .int .i64 a, .int .i64 bb, .int .u16 (size : Int), .int .i64 0, .int .u8 (sign.toNat : Int), .int .i32 char, .string ⟨text.toArray⟩, .slice ad cuts.length cap] 27)).alloc (.cells #[.int .i64 0, .string ⟨#[]⟩, .int .i32 0, .int .i64 0] 45)) b g w1 (g.rs) := BufStep.of_just A1 rfl F1
  clear F1 A1
  have hT : ToldAt w1 (w.heap.size + 1) := S1.told HB.out (ToldAt.new2 w _)
  have t0 := hT.c0; have t1 := hT.c1; have t2 := hT.c2; have t3 := hT.c3; have z0 := hT.f 0; have z1 := hT.f 1; have z2 := hT.f 2; have z3 := hT.f 3
  have HT := Lib.hid hT
  clear hT
  have HS := Lib.hid S1
  clear S1
  go_wp2_with fail
  refine leaves_cons (f := 63) (args := #[.pointer (some ⟨w.heap.size + 1, 0, none⟩)]) (by simp) (by simp [go_sem]) ?_
  refine (look_idle _ _).mono ?_
  rintro e u' w'' ⟨rfl, rfl, rfl⟩
  simp [Leaves, settle, results, Tryz.results29, go_sem, t0, t1, t2, t3]
  exact ⟨_, rfl, HS.out.skip (((Fr.refl (fun _ => False) w).alloc _).alloc _) (by omega) HT.out (just4 _ _ _ _ _ _), rfl⟩
set_option maxHeartbeats 1600000 in
set_option maxRecDepth 100000 in
theorem look_16 (b : Nat) (g : Gh) (w : World) (h : BufAt w b g) :
    Calls Tryz.prog 29 #[.pointer (some ⟨b, 0, none⟩), .agg #[.int .i64 16, .int .i64 a, .int .i64 bb, .int .u16 (size : Int), .int .i64 n, .int .u8 (sign.toNat : Int), .int .i32 char, .string ⟨text.toArray⟩, .slice ad cuts.length cap]] w (WDPost w b g ⟨0, [], 0, 0⟩ (fun g' => g' = g.rs)) := by
  have H := Lib.hid h
  have HB := Lib.hid (h.fr (((Fr.refl (fun _ => False) w).alloc _).alloc _) (fun _ _ q => q) : BufAt ((w.alloc (.cells #[.int .i64 16, .int .i64 a, .int .i64 bb, .int .u16 (size : Int), .int .i64 n, .int .u8 (sign.toNat : Int), .int .i32 char, .string ⟨text.toArray⟩, .slice ad cuts.length cap] 27)).alloc (.cells #[.int .i64 0, .string ⟨#[]⟩, .int .i32 0, .int .i64 0] 45)) b g)
  clear h
  have hmf : ∀ (fn : Fn) (first cap : Array Value) (w : World), (Instr.makeFunc fn first cap).run Tryz.prog w = .ok (.func fn first cap) w := fun _ _ _ _ => rfl
  go_enter_defers Tryz.func29, Tryz.ntmps29
  go_wp2_with fail
  refine (buf_reset _ b g HB.out).mono ?_
  rintro e w1 ⟨rfl, A1, F1⟩
  have S1 : BufStep ((w.alloc (.cells #[.int .i64 16, .int .i64 a, .int .i64 bb, .int .u16 (size : Int), .int .i64 n, .int .u8 (sign.toNat : Int), .int .i32 char, .string ⟨text.toArray⟩, .slice ad cuts.length cap] 27)).alloc (.cells #[.int .i64 0, .string ⟨#[]⟩, .int .i32 0, .int .i64 0] 45)) b g w1 (g.rs) := BufStep.of_just A1 rfl F1
  clear F1 A1
  have hT : ToldAt w1 (w.heap.size + 1) := S1.told HB.out (ToldAt.new2 w _)
  have t0 := hT.c0; have t1 := hT.c1; have t2 := hT.c2; have t3 := hT.c3; have z0 := hT.f 0; have z1 := hT.f 1; have z2 := hT.f 2; have z3 := hT.f 3
  have HT := Lib.hid hT
  clear hT
  have HS := Lib.hid S1
  clear S1
  go_wp2_with fail
  refine leaves_cons (f := 63) (args := #[.pointer (some ⟨w.heap.size + 1, 0, none⟩)]) (by simp) (by simp [go_sem]) ?_
  refine (look_idle _ _).mono ?_
  rintro e u' w'' ⟨rfl, rfl, rfl⟩
  simp [Leaves, settle, results, Tryz.results29, go_sem, t0, t1, t2, t3]
  exact ⟨_, rfl, HS.out.skip (((Fr.refl (fun _ => False) w).alloc _).alloc _) (by omega) HT.out (just4 _ _ _ _ _ _), rfl⟩
set_option maxHeartbeats 1600000 in
set_option maxRecDepth 100000 in
theorem look_17 (b : Nat) (g : Gh) (w : World) (h : BufAt w b g) (k : Nat) (hb : g.txt.length + k ≤ 1099511627776) :
    Calls Tryz.prog 29 #[.pointer (some ⟨b, 0, none⟩), .agg #[.int .i64 17, .int .i64 a, .int .i64 bb, .int .u16 (size : Int), .int .i64 (k : Int), .int .u8 (sign.toNat : Int), .int .i32 char, .string ⟨text.toArray⟩, .slice ad cuts.length cap]] w (WDPost w b g ⟨0, [], 0, 0⟩ (fun g' => g'.txt = g.txt)) := by
  have H := Lib.hid h
  have HB := Lib.hid (h.fr (((Fr.refl (fun _ => False) w).alloc _).alloc _) (fun _ _ q => q) : BufAt ((w.alloc (.cells #[.int .i64 17, .int .i64 a, .int .i64 bb, .int .u16 (size : Int), .int .i64 (k : Int), .int .u8 (sign.toNat : Int), .int .i32 char, .string ⟨text.toArray⟩, .slice ad cuts.length cap] 27)).alloc (.cells #[.int .i64 0, .string ⟨#[]⟩, .int .i32 0, .int .i64 0] 45)) b g)
  clear h
  have hmf : ∀ (fn : Fn) (first cap : Array Value) (w : World), (Instr.makeFunc fn first cap).run Tryz.prog w = .ok (.func fn first cap) w := fun _ _ _ _ => rfl
  go_enter_defers Tryz.func29, Tryz.ntmps29
  go_wp2_with fail
  refine (buf_grow k _ b g HB.out hb).mono ?_
  rintro e w1 ⟨g1, rfl, S1, G1⟩
  have HR := Lib.hid G1.txt
  clear G1
  have hT : ToldAt w1 (w.heap.size + 1) := S1.told HB.out (ToldAt.new2 w _)
  have t0 := hT.c0; have t1 := hT.c1; have t2 := hT.c2; have t3 := hT.c3; have z0 := hT.f 0; have z1 := hT.f 1; have z2 := hT.f 2; have z3 := hT.f 3
  have HT := Lib.hid hT
  clear hT
  have HS := Lib.hid S1
  clear S1
  go_wp2_with fail
  refine leaves_cons (f := 63) (args := #[.pointer (some ⟨w.heap.size + 1, 0, none⟩)]) (by simp) (by simp [go_sem]) ?_
  refine (look_idle _ _).mono ?_
  rintro e u' w'' ⟨rfl, rfl, rfl⟩
  simp [Leaves, settle, results, Tryz.results29, go_sem, t0, t1, t2, t3]
  exact ⟨_, rfl, HS.out.skip (((Fr.refl (fun _ => False) w).alloc _).alloc _) (by omega) HT.out (just4 _ _ _ _ _ _), HR.out⟩
set_option maxHeartbeats 1600000 in
set_option maxRecDepth 100000 in
theorem look_18 (b : Nat) (g : Gh) (w : World) (h : BufAt w b g) (m : Nat) (hm : g.off + m = g.len) :
    Calls Tryz.prog 29 #[.pointer (some ⟨b, 0, none⟩), .agg #[.int .i64 18, .int .i64 a, .int .i64 bb, .int .u16 (size : Int), .int .i64 n, .int .u8 (sign.toNat : Int), .int .i32 char, .string ⟨text.toArray⟩, .slice ad cuts.length cap]] w (WDPost w b g ⟨m, [], 0, 0⟩ (fun g' => g' = g)) := by
  have H := Lib.hid h
  have HB := Lib.hid (h.fr (((Fr.refl (fun _ => False) w).alloc _).alloc _) (fun _ _ q => q) : BufAt ((w.alloc (.cells #[.int .i64 18, .int .i64 a, .int .i64 bb, .int .u16 (size : Int), .int .i64 n, .int .u8 (sign.toNat : Int), .int .i32 char, .string ⟨text.toArray⟩, .slice ad cuts.length cap] 27)).alloc (.cells #[.int .i64 0, .string ⟨#[]⟩, .int .i32 0, .int .i64 0] 45)) b g)
  clear h
  have hmf : ∀ (fn : Fn) (first cap : Array Value) (w : World), (Instr.makeFunc fn first cap).run Tryz.prog w = .ok (.func fn first cap) w := fun _ _ _ _ => rfl
  go_enter_defers Tryz.func29, Tryz.ntmps29
  go_wp2_with fail
  refine (buf_len_m _ b g m HB.out hm).mono ?_
  rintro e w1 ⟨rfl, A1, F1⟩
  have S1 : BufStep ((w.alloc (.cells #[.int .i64 18, .int .i64 a, .int .i64 bb, .int .u16 (size : Int), .int .i64 n, .int .u8 (sign.toNat : Int), .int .i32 char, .string ⟨text.toArray⟩, .slice ad cuts.length cap] 27)).alloc (.cells #[.int .i64 0, .string ⟨#[]⟩, .int .i32 0, .int .i64 0] 45)) b g w1 g := BufStep.of_none HB.out F1
  clear A1 F1
  have hT : ToldAt w1 (w.heap.size + 1) := S1.told HB.out (ToldAt.new2 w _)
  have t0 := hT.c0; have t1 := hT.c1; have t2 := hT.c2; have t3 := hT.c3; have z0 := hT.f 0; have z1 := hT.f 1; have z2 := hT.f 2; have z3 := hT.f 3
  have HT := Lib.hid hT
  clear hT
  have HS := Lib.hid S1
  clear S1
  go_wp2_with fail
  refine leaves_cons (f := 63) (args := #[.pointer (some ⟨w.heap.size + 1, 0, none⟩)]) (by simp) (by simp [go_sem]) ?_
  refine (look_idle _ _).mono ?_
  rintro e u' w'' ⟨rfl, rfl, rfl⟩
  simp [Leaves, settle, results, Tryz.results29, go_sem, t0, t1, t2, t3]
  exact ⟨_, rfl, HS.out.skip (((Fr.refl (fun _ => False) w).alloc _).alloc _) (by omega) HT.out (just4 _ _ _ _ _ _), rfl⟩
set_option maxHeartbeats 1600000 in
set_option maxRecDepth 100000 in
theorem look_19 (b : Nat) (g : Gh) (w : World) (h : BufAt w b g) :
    Calls Tryz.prog 29 #[.pointer (some ⟨b, 0, none⟩), .agg #[.int .i64 19, .int .i64 a, .int .i64 bb, .int .u16 (size : Int), .int .i64 n, .int .u8 (sign.toNat : Int), .int .i32 char, .string ⟨text.toArray⟩, .slice ad cuts.length cap]] w (WDPost w b g ⟨0, g.txt, 0, 0⟩ (fun g' => g' = g)) := by
  have H := Lib.hid h
  have HB := Lib.hid (h.fr (((Fr.refl (fun _ => False) w).alloc _).alloc _) (fun _ _ q => q) : BufAt ((w.alloc (.cells #[.int .i64 19, .int .i64 a, .int .i64 bb, .int .u16 (size : Int), .int .i64 n, .int .u8 (sign.toNat : Int), .int .i32 char, .string ⟨text.toArray⟩, .slice ad cuts.length cap] 27)).alloc (.cells #[.int .i64 0, .string ⟨#[]⟩, .int .i32 0, .int .i64 0] 45)) b g)
  clear h
  have hmf : ∀ (fn : Fn) (first cap : Array Value) (w : World), (Instr.makeFunc fn first cap).run Tryz.prog w = .ok (.func fn first cap) w := fun _ _ _ _ => rfl
  go_enter_defers Tryz.func29, Tryz.ntmps29
  go_wp2_with fail
  refine (buf_string _ b g HB.out).mono ?_
  rintro e w1 ⟨rfl, hw⟩
  have F1 : Fr (fun _ => False) ((w.alloc (.cells #[.int .i64 19, .int .i64 a, .int .i64 bb, .int .u16 (size : Int), .int .i64 n, .int .u8 (sign.toNat : Int), .int .i32 char, .string ⟨text.toArray⟩, .slice ad cuts.length cap] 27)).alloc (.cells #[.int .i64 0, .string ⟨#[]⟩, .int .i32 0, .int .i64 0] 45)) w1 := by rw [hw]; exact (Fr.refl _ _).drew
  have S1 : BufStep ((w.alloc (.cells #[.int .i64 19, .int .i64 a, .int .i64 bb, .int .u16 (size : Int), .int .i64 n, .int .u8 (sign.toNat : Int), .int .i32 char, .string ⟨text.toArray⟩, .slice ad cuts.length cap] 27)).alloc (.cells #[.int .i64 0, .string ⟨#[]⟩, .int .i32 0, .int .i64 0] 45)) b g w1 g := BufStep.of_none HB.out F1
  clear F1 hw
  have hT : ToldAt w1 (w.heap.size + 1) := S1.told HB.out (ToldAt.new2 w _)
  have t0 := hT.c0; have t1 := hT.c1; have t2 := hT.c2; have t3 := hT.c3; have z0 := hT.f 0; have z1 := hT.f 1; have z2 := hT.f 2; have z3 := hT.f 3
  have HT := Lib.hid hT
  clear hT
  have HS := Lib.hid S1
  clear S1
  go_wp2_with fail
  refine leaves_cons (f := 63) (args := #[.pointer (some ⟨w.heap.size + 1, 0, none⟩)]) (by simp) (by simp [go_sem]) ?_
  refine (look_idle _ _).mono ?_
  rintro e u' w'' ⟨rfl, rfl, rfl⟩
  simp [Leaves, settle, results, Tryz.results29, go_sem, t0, t1, t2, t3]
  exact ⟨_, rfl, HS.out.skip (((Fr.refl (fun _ => False) w).alloc _).alloc _) (by omega) HT.out (just4 _ _ _ _ _ _), rfl⟩
set_option maxHeartbeats 1600000 in
set_option maxRecDepth 100000 in
theorem look_20 (b : Nat) (g : Gh) (w : World) (h : BufAt w b g) :
    Calls Tryz.prog 29 #[.pointer (some ⟨b, 0, none⟩), .agg #[.int .i64 20, .int .i64 a, .int .i64 bb, .int .u16 (size : Int), .int .i64 n, .int .u8 (sign.toNat : Int), .int .i32 char, .string ⟨text.toArray⟩, .slice ad cuts.length cap]] w (WDPost w b g ⟨0, g.txt, 0, 0⟩ (fun g' => g' = g)) := by
  have H := Lib.hid h
  have HB := Lib.hid (h.fr (((Fr.refl (fun _ => False) w).alloc _).alloc _) (fun _ _ q => q) : BufAt ((w.alloc (.cells #[.int .i64 20, .int .i64 a, .int .i64 bb, .int .u16 (size : Int), .int .i64 n, .int .u8 (sign.toNat : Int), .int .i32 char, .string ⟨text.toArray⟩, .slice ad cuts.length cap] 27)).alloc (.cells #[.int .i64 0, .string ⟨#[]⟩, .int .i32 0, .int .i64 0] 45)) b g)
  clear h
  have hmf : ∀ (fn : Fn) (first cap : Array Value) (w : World), (Instr.makeFunc fn first cap).run Tryz.prog w = .ok (.func fn first cap) w := fun _ _ _ _ => rfl
  go_enter_defers Tryz.func29, Tryz.ntmps29
  go_wp2_with fail
  refine (buf_bytes _ b g HB.out).mono ?_
  rintro e w1 ⟨rfl, kk, hw⟩
  have F1 : Fr (fun _ => False) ((w.alloc (.cells #[.int .i64 20, .int .i64 a, .int .i64 bb, .int .u16 (size : Int), .int .i64 n, .int .u8 (sign.toNat : Int), .int .i32 char, .string ⟨text.toArray⟩, .slice ad cuts.length cap] 27)).alloc (.cells #[.int .i64 0, .string ⟨#[]⟩, .int .i32 0, .int .i64 0] 45)) w1 := by rw [hw]; exact (Fr.refl _ _).drewN _
  have S1 : BufStep ((w.alloc (.cells #[.int .i64 20, .int .i64 a, .int .i64 bb, .int .u16 (size : Int), .int .i64 n, .int .u8 (sign.toNat : Int), .int .i32 char, .string ⟨text.toArray⟩, .slice ad cuts.length cap] 27)).alloc (.cells #[.int .i64 0, .string ⟨#[]⟩, .int .i32 0, .int .i64 0] 45)) b g w1 g := BufStep.of_none HB.out F1
  have hsrc := Src.unread S1.at'
  have hcs := conv_str hsrc
  clear F1 hw hsrc
  have hT : ToldAt w1 (w.heap.size + 1) := S1.told HB.out (ToldAt.new2 w _)
  have t0 := hT.c0; have t1 := hT.c1; have t2 := hT.c2; have t3 := hT.c3; have z0 := hT.f 0; have z1 := hT.f 1; have z2 := hT.f 2; have z3 := hT.f 3
  have HT := Lib.hid hT
  clear hT
  have HS := Lib.hid S1
  clear S1
  go_wp2_with fail
  refine leaves_cons (f := 63) (args := #[.pointer (some ⟨w.heap.size + 1, 0, none⟩)]) (by simp) (by simp [go_sem]) ?_
  refine (look_idle _ _).mono ?_
  rintro e u' w'' ⟨rfl, rfl, rfl⟩
  simp [Leaves, settle, results, Tryz.results29, go_sem, t0, t1, t2, t3]
  exact ⟨_, rfl, HS.out.skip (((Fr.refl (fun _ => False) w).alloc _).alloc _) (by omega) HT.out (just4 _ _ _ _ _ _), rfl⟩
set_option maxHeartbeats 1600000 in
set_option maxRecDepth 100000 in
theorem look_21n (b : Nat) (g : Gh) (w : World) (h : BufAt w b g) (m : Nat) (hm : g.off + m = g.len) (hle : m ≤ size) (hsize : size ≤ 65535) :
    Calls Tryz.prog 29 #[.pointer (some ⟨b, 0, none⟩), .agg #[.int .i64 21, .int .i64 a, .int .i64 bb, .int .u16 (size : Int), .int .i64 n, .int .u8 (sign.toNat : Int), .int .i32 char, .string ⟨text.toArray⟩, .slice ad cuts.length cap]] w (WDPost w b g ⟨0, [], 0, 0⟩ (fun g' => g' = g)) := by
  have H := Lib.hid h
  have HB := Lib.hid (h.fr (((Fr.refl (fun _ => False) w).alloc _).alloc _) (fun _ _ q => q) : BufAt ((w.alloc (.cells #[.int .i64 21, .int .i64 a, .int .i64 bb, .int .u16 (size : Int), .int .i64 n, .int .u8 (sign.toNat : Int), .int .i32 char, .string ⟨text.toArray⟩, .slice ad cuts.length cap] 27)).alloc (.cells #[.int .i64 0, .string ⟨#[]⟩, .int .i32 0, .int .i64 0] 45)) b g)
  clear h
  have hcv : IntKind.i64.wrap (size : Int) = (size : Int) := IntWalk.i64_in _ (by omega)
  have hlt : ¬ ((size : Int) < (m : Int)) := by omega
  have hmf : ∀ (fn : Fn) (first cap : Array Value) (w : World), (Instr.makeFunc fn first cap).run Tryz.prog w = .ok (.func fn first cap) w := fun _ _ _ _ => rfl
  go_enter_defers Tryz.func29, Tryz.ntmps29
  go_wp2_with fail
  refine (buf_bytes _ b g HB.out).mono ?_
  rintro e w1 ⟨rfl, kk, hw⟩
  have F1 : Fr (fun _ => False) ((w.alloc (.cells #[.int .i64 21, .int .i64 a, .int .i64 bb, .int .u16 (size : Int), .int .i64 n, .int .u8 (sign.toNat : Int), .int .i32 char, .string ⟨text.toArray⟩, .slice ad cuts.length cap] 27)).alloc (.cells #[.int .i64 0, .string ⟨#[]⟩, .int .i32 0, .int .i64 0] 45)) w1 := by rw [hw]; exact (Fr.refl _ _).drewN _
  have S1 : BufStep ((w.alloc (.cells #[.int .i64 21, .int .i64 a, .int .i64 bb, .int .u16 (size : Int), .int .i64 n, .int .u8 (sign.toNat : Int), .int .i32 char, .string ⟨text.toArray⟩, .slice ad cuts.length cap] 27)).alloc (.cells #[.int .i64 0, .string ⟨#[]⟩, .int .i32 0, .int .i64 0] 45)) b g w1 g := BufStep.of_none HB.out F1
  have q3 : w1.cell? ⟨w.heap.size, 3, none⟩ = some (.int .u16 (size : Int)) := (F1.cell (by simp; omega) (fun q => q)).trans (by simp)
  have q5 : w1.cell? ⟨w.heap.size, 5, none⟩ = some (.int .u8 (sign.toNat : Int)) := (F1.cell (by simp; omega) (fun q => q)).trans (by simp)
  have hlm : g.len - g.off = m := by omega
  rw [hlm]
  clear F1 hw hlm
  have hT : ToldAt w1 (w.heap.size + 1) := S1.told HB.out (ToldAt.new2 w _)
  have t0 := hT.c0; have t1 := hT.c1; have t2 := hT.c2; have t3 := hT.c3; have z0 := hT.f 0; have z1 := hT.f 1; have z2 := hT.f 2; have z3 := hT.f 3
  have HT := Lib.hid hT
  clear hT
  have HS := Lib.hid S1
  clear S1
  go_wp2_with fail
  refine leaves_cons (f := 63) (args := #[.pointer (some ⟨w.heap.size + 1, 0, none⟩)]) (by simp) (by simp [go_sem]) ?_
  refine (look_idle _ _).mono ?_
  rintro e u' w'' ⟨rfl, rfl, rfl⟩
  simp [Leaves, settle, results, Tryz.results29, go_sem, t0, t1, t2, t3]
  exact ⟨_, rfl, HS.out.skip (((Fr.refl (fun _ => False) w).alloc _).alloc _) (by omega) HT.out (just4 _ _ _ _ _ _), rfl⟩
set_option maxHeartbeats 1600000 in
set_option maxRecDepth 100000 in
theorem look_21 (b : Nat) (g : Gh) (w : World) (h : BufAt w b g) (m r : Nat) (hrow : g.row = some r) (hm : g.off + m = g.len) (hle : size < m) (hsize : size ≤ 65535) :
    Calls Tryz.prog 29 #[.pointer (some ⟨b, 0, none⟩), .agg #[.int .i64 21, .int .i64 a, .int .i64 bb, .int .u16 (size : Int), .int .i64 n, .int .u8 (sign.toNat : Int), .int .i32 char, .string ⟨text.toArray⟩, .slice ad cuts.length cap]] w (WDPost w b g ⟨0, [], 0, 0⟩ (fun g' => g' = { g with all := g.all.set (g.off + size) sign })) := by
  have H := Lib.hid h
  have HB := Lib.hid (h.fr (((Fr.refl (fun _ => False) w).alloc _).alloc _) (fun _ _ q => q) : BufAt ((w.alloc (.cells #[.int .i64 21, .int .i64 a, .int .i64 bb, .int .u16 (size : Int), .int .i64 n, .int .u8 (sign.toNat : Int), .int .i32 char, .string ⟨text.toArray⟩, .slice ad cuts.length cap] 27)).alloc (.cells #[.int .i64 0, .string ⟨#[]⟩, .int .i32 0, .int .i64 0] 45)) b g)
  clear h
  have hcv : IntKind.i64.wrap (size : Int) = (size : Int) := IntWalk.i64_in _ (by omega)
  have hlt : (size : Int) < (m : Int) := by omega
  have hs0 : (0 : Int) ≤ (size : Int) := by omega
  have hlc := H.out.lc
  have hmf : ∀ (fn : Fn) (first cap : Array Value) (w : World), (Instr.makeFunc fn first cap).run Tryz.prog w = .ok (.func fn first cap) w := fun _ _ _ _ => rfl
  go_enter_defers Tryz.func29, Tryz.ntmps29
  go_wp2_with fail
  refine (buf_bytes _ b g HB.out).mono ?_
  rintro e w1 ⟨rfl, kk, hw⟩
  have F1 : Fr (fun _ => False) ((w.alloc (.cells #[.int .i64 21, .int .i64 a, .int .i64 bb, .int .u16 (size : Int), .int .i64 n, .int .u8 (sign.toNat : Int), .int .i32 char, .string ⟨text.toArray⟩, .slice ad cuts.length cap] 27)).alloc (.cells #[.int .i64 0, .string ⟨#[]⟩, .int .i32 0, .int .i64 0] 45)) w1 := by rw [hw]; exact (Fr.refl _ _).drewN _
  have S1 : BufStep ((w.alloc (.cells #[.int .i64 21, .int .i64 a, .int .i64 bb, .int .u16 (size : Int), .int .i64 n, .int .u8 (sign.toNat : Int), .int .i32 char, .string ⟨text.toArray⟩, .slice ad cuts.length cap] 27)).alloc (.cells #[.int .i64 0, .string ⟨#[]⟩, .int .i32 0, .int .i64 0] 45)) b g w1 g := BufStep.of_none HB.out F1
  have q3 : w1.cell? ⟨w.heap.size, 3, none⟩ = some (.int .u16 (size : Int)) := (F1.cell (by simp; omega) (fun q => q)).trans (by simp)
  have q5 : w1.cell? ⟨w.heap.size, 5, none⟩ = some (.int .u8 (sign.toNat : Int)) := (F1.cell (by simp; omega) (fun q => q)).trans (by simp)
  have hlm : g.len - g.off = m := by omega
  rw [hlm]
  clear F1 hw hlm
  have hT : ToldAt w1 (w.heap.size + 1) := S1.told HB.out (ToldAt.new2 w _)
  have t0 := hT.c0; have t1 := hT.c1; have t2 := hT.c2; have t3 := hT.c3; have z0 := hT.f 0; have z1 := hT.f 1; have z2 := hT.f 2; have z3 := hT.f 3
  have HT := Lib.hid hT
  clear hT
  have HS := Lib.hid S1
  clear S1
  have hA2 := HS.out.at'.poke hrow (g.off + (size)) sign
  have hF2 : Fr (fun x => g.row = some x) w1 (w1.setCell ⟨r, g.off + (size), none⟩ (.int .u8 (sign.toNat : Int))) := (Fr.refl _ w1).setCell (fun _ => hrow) _
  have HS2 := Lib.hid (HS.out.trans ⟨hA2, .inl rfl, hF2.mono fun _ _ q => .inr q⟩)
  have hT2 : ToldAt (w1.setCell ⟨r, g.off + (size), none⟩ (.int .u8 (sign.toNat : Int))) (w.heap.size + 1) := HT.out.fr hF2 (fun q => by have := H.out.rlt q; omega)
  have rc : w1.cell? ⟨r, g.off + (size), none⟩ = some (.int .u8 (g.all[g.off + (size)]'(by omega)).toNat) := (HS.out.at'.row r hrow).cell _ (by omega)
  have rz : w1.frozen? ⟨r, g.off + (size), none⟩ = false := (HS.out.at'.row r hrow).free _ (by omega)
  have hcut : cutA g.row g.off g.all.length = some ⟨r, g.off, none⟩ := by rw [hrow]; exact cutA_some _ _ _ (by omega)
  rw [hcut]
  clear t0 t1 t2 t3 z0 z1 z2 z3 hcut
  have t0 := hT2.c0; have t1 := hT2.c1; have t2 := hT2.c2; have t3 := hT2.c3; have z0 := hT2.f 0; have z1 := hT2.f 1; have z2 := hT2.f 2; have z3 := hT2.f 3
  have HT2 := Lib.hid hT2
  clear hT2 hA2 hF2
  go_wp2_with fail
  refine leaves_cons (f := 63) (args := #[.pointer (some ⟨w.heap.size + 1, 0, none⟩)]) (by simp) (by simp [go_sem]) ?_
  refine (look_idle _ _).mono ?_
  rintro e u' w'' ⟨rfl, rfl, rfl⟩
  simp [Leaves, settle, results, Tryz.results29, go_sem, t0, t1, t2, t3]
  exact ⟨_, rfl, HS2.out.skip (((Fr.refl (fun _ => False) w).alloc _).alloc _) (by omega) HT2.out (just4 _ _ _ _ _ _), rfl⟩
set_option maxHeartbeats 1600000 in
set_option maxRecDepth 100000 in
theorem look_22z (b : Nat) (g : Gh) (w : World) (h : BufAt w b g) (m : Nat) (hm : g.off + m = g.len) (hz : size = 0) :
    Calls Tryz.prog 29 #[.pointer (some ⟨b, 0, none⟩), .agg #[.int .i64 22, .int .i64 a, .int .i64 bb, .int .u16 (size : Int), .int .i64 n, .int .u8 (sign.toNat : Int), .int .i32 char, .string ⟨text.toArray⟩, .slice ad cuts.length cap]] w (WDPost w b g ⟨0, [], 0, 0⟩ (fun g' => g' = g)) := by
  have H := Lib.hid h
  have HB := Lib.hid (h.fr (((Fr.refl (fun _ => False) w).alloc _).alloc _) (fun _ _ q => q) : BufAt ((w.alloc (.cells #[.int .i64 22, .int .i64 a, .int .i64 bb, .int .u16 (size : Int), .int .i64 n, .int .u8 (sign.toNat : Int), .int .i32 char, .string ⟨text.toArray⟩, .slice ad cuts.length cap] 27)).alloc (.cells #[.int .i64 0, .string ⟨#[]⟩, .int .i32 0, .int .i64 0] 45)) b g)
  clear h
  have hcv : IntKind.i64.wrap (size : Int) = (size : Int) := IntWalk.i64_in _ (by omega)
  have HZ := Lib.hid hz
  clear hz
  have hmf : ∀ (fn : Fn) (first cap : Array Value) (w : World), (Instr.makeFunc fn first cap).run Tryz.prog w = .ok (.func fn first cap) w := fun _ _ _ _ => rfl
  go_enter_defers Tryz.func29, Tryz.ntmps29
  go_wp2_with fail
  refine (buf_peek _ b g size m HB.out hm (by rw [HZ.out]; omega)).mono ?_
  rintro e w1 ⟨rfl, A1, F1⟩
  have S1 : BufStep ((w.alloc (.cells #[.int .i64 22, .int .i64 a, .int .i64 bb, .int .u16 (size : Int), .int .i64 n, .int .u8 (sign.toNat : Int), .int .i32 char, .string ⟨text.toArray⟩, .slice ad cuts.length cap] 27)).alloc (.cells #[.int .i64 0, .string ⟨#[]⟩, .int .i32 0, .int .i64 0] 45)) b g w1 g := BufStep.of_none HB.out F1
  have q3 : w1.cell? ⟨w.heap.size, 3, none⟩ = some (.int .u16 (size : Int)) := (F1.cell (by simp; omega) (fun q => q)).trans (by simp)
  have q5 : w1.cell? ⟨w.heap.size, 5, none⟩ = some (.int .u8 (sign.toNat : Int)) := (F1.cell (by simp; omega) (fun q => q)).trans (by simp)
  rw [HZ.out]
  clear F1 A1
  have hT : ToldAt w1 (w.heap.size + 1) := S1.told HB.out (ToldAt.new2 w _)
  have t0 := hT.c0; have t1 := hT.c1; have t2 := hT.c2; have t3 := hT.c3; have z0 := hT.f 0; have z1 := hT.f 1; have z2 := hT.f 2; have z3 := hT.f 3
  have HT := Lib.hid hT
  clear hT
  have HS := Lib.hid S1
  clear S1
  go_wp2_with fail
  refine leaves_cons (f := 63) (args := #[.pointer (some ⟨w.heap.size + 1, 0, none⟩)]) (by simp) (by simp [go_sem]) ?_
  refine (look_idle _ _).mono ?_
  rintro e u' w'' ⟨rfl, rfl, rfl⟩
  simp [Leaves, settle, results, Tryz.results29, go_sem, t0, t1, t2, t3]
  exact ⟨_, rfl, HS.out.skip (((Fr.refl (fun _ => False) w).alloc _).alloc _) (by omega) HT.out (just4 _ _ _ _ _ _), rfl⟩
set_option maxHeartbeats 1600000 in
set_option maxRecDepth 100000 in
theorem look_22 (b : Nat) (g : Gh) (w : World) (h : BufAt w b g) (m r k : Nat) (hrow : g.row = some r) (hm : g.off + m = g.len) (hk : size = k + 1) (hle : size ≤ m) (hsize : size ≤ 65535) :
    Calls Tryz.prog 29 #[.pointer (some ⟨b, 0, none⟩), .agg #[.int .i64 22, .int .i64 a, .int .i64 bb, .int .u16 (size : Int), .int .i64 n, .int .u8 (sign.toNat : Int), .int .i32 char, .string ⟨text.toArray⟩, .slice ad cuts.length cap]] w (WDPost w b g ⟨0, [], 0, 0⟩ (fun g' => g' = { g with all := g.all.set (g.off + k) sign })) := by
  have H := Lib.hid h
  have HB := Lib.hid (h.fr (((Fr.refl (fun _ => False) w).alloc _).alloc _) (fun _ _ q => q) : BufAt ((w.alloc (.cells #[.int .i64 22, .int .i64 a, .int .i64 bb, .int .u16 (size : Int), .int .i64 n, .int .u8 (sign.toNat : Int), .int .i32 char, .string ⟨text.toArray⟩, .slice ad cuts.length cap] 27)).alloc (.cells #[.int .i64 0, .string ⟨#[]⟩, .int .i32 0, .int .i64 0] 45)) b g)
  clear h
  have hcv : IntKind.i64.wrap (size : Int) = (size : Int) := IntWalk.i64_in _ (by omega)
  have hpos : (0 : Int) < (size : Int) := by omega
  have hsub : IntKind.i64.wrap ((size : Int) - 1) = (k : Int) := by rw [show (size : Int) - 1 = (k : Int) by omega]; exact IntWalk.i64_in _ (by omega)
  have hlt : (k : Int) < (size : Int) := by omega
  have hs0 : (0 : Int) ≤ (k : Int) := by omega
  have hlc := H.out.lc
  have hkm : k < m := by omega
  clear hk
  have hmf : ∀ (fn : Fn) (first cap : Array Value) (w : World), (Instr.makeFunc fn first cap).run Tryz.prog w = .ok (.func fn first cap) w := fun _ _ _ _ => rfl
  go_enter_defers Tryz.func29, Tryz.ntmps29
  go_wp2_with fail
  refine (buf_peek _ b g size m HB.out hm hle).mono ?_
  rintro e w1 ⟨rfl, A1, F1⟩
  have S1 : BufStep ((w.alloc (.cells #[.int .i64 22, .int .i64 a, .int .i64 bb, .int .u16 (size : Int), .int .i64 n, .int .u8 (sign.toNat : Int), .int .i32 char, .string ⟨text.toArray⟩, .slice ad cuts.length cap] 27)).alloc (.cells #[.int .i64 0, .string ⟨#[]⟩, .int .i32 0, .int .i64 0] 45)) b g w1 g := BufStep.of_none HB.out F1
  have q3 : w1.cell? ⟨w.heap.size, 3, none⟩ = some (.int .u16 (size : Int)) := (F1.cell (by simp; omega) (fun q => q)).trans (by simp)
  have q5 : w1.cell? ⟨w.heap.size, 5, none⟩ = some (.int .u8 (sign.toNat : Int)) := (F1.cell (by simp; omega) (fun q => q)).trans (by simp)
  clear F1 A1
  have hT : ToldAt w1 (w.heap.size + 1) := S1.told HB.out (ToldAt.new2 w _)
  have t0 := hT.c0; have t1 := hT.c1; have t2 := hT.c2; have t3 := hT.c3; have z0 := hT.f 0; have z1 := hT.f 1; have z2 := hT.f 2; have z3 := hT.f 3
  have HT := Lib.hid hT
  clear hT
  have HS := Lib.hid S1
  clear S1
  have hA2 := HS.out.at'.poke hrow (g.off + (k)) sign
  have hF2 : Fr (fun x => g.row = some x) w1 (w1.setCell ⟨r, g.off + (k), none⟩ (.int .u8 (sign.toNat : Int))) := (Fr.refl _ w1).setCell (fun _ => hrow) _
  have HS2 := Lib.hid (HS.out.trans ⟨hA2, .inl rfl, hF2.mono fun _ _ q => .inr q⟩)
  have hT2 : ToldAt (w1.setCell ⟨r, g.off + (k), none⟩ (.int .u8 (sign.toNat : Int))) (w.heap.size + 1) := HT.out.fr hF2 (fun q => by have := H.out.rlt q; omega)
  have rc : w1.cell? ⟨r, g.off + (k), none⟩ = some (.int .u8 (g.all[g.off + (k)]'(by omega)).toNat) := (HS.out.at'.row r hrow).cell _ (by omega)
  have rz : w1.frozen? ⟨r, g.off + (k), none⟩ = false := (HS.out.at'.row r hrow).free _ (by omega)
  have hcut : cutA g.row g.off g.all.length = some ⟨r, g.off, none⟩ := by rw [hrow]; exact cutA_some _ _ _ (by omega)
  rw [hcut]
  clear t0 t1 t2 t3 z0 z1 z2 z3 hcut
  have t0 := hT2.c0; have t1 := hT2.c1; have t2 := hT2.c2; have t3 := hT2.c3; have z0 := hT2.f 0; have z1 := hT2.f 1; have z2 := hT2.f 2; have z3 := hT2.f 3
  have HT2 := Lib.hid hT2
  clear hT2 hA2 hF2
  go_wp2_with fail
  refine leaves_cons (f := 63) (args := #[.pointer (some ⟨w.heap.size + 1, 0, none⟩)]) (by simp) (by simp [go_sem]) ?_
  refine (look_idle _ _).mono ?_
  rintro e u' w'' ⟨rfl, rfl, rfl⟩
  simp [Leaves, settle, results, Tryz.results29, go_sem, t0, t1, t2, t3]
  exact ⟨_, rfl, HS2.out.skip (((Fr.refl (fun _ => False) w).alloc _).alloc _) (by omega) HT2.out (just4 _ _ _ _ _ _), rfl⟩
set_option maxHeartbeats 1600000 in
set_option maxRecDepth 100000 in
theorem look_0 (op : Int) (hop : op < 1) (b : Nat) (g : Gh) (w : World) (h : BufAt w b g) :
    Calls Tryz.prog 29 #[.pointer (some ⟨b, 0, none⟩), .agg #[.int .i64 op, .int .i64 a, .int .i64 bb, .int .u16 (size : Int), .int .i64 n, .int .u8 (sign.toNat : Int), .int .i32 char, .string ⟨text.toArray⟩, .slice ad cuts.length cap]] w (WDPost w b g ⟨0, [], 0, 4⟩ (fun g' => g' = g)) := by
  have H := Lib.hid h
  have HB := Lib.hid (h.fr (((Fr.refl (fun _ => False) w).alloc _).alloc _) (fun _ _ q => q) : BufAt ((w.alloc (.cells #[.int .i64 op, .int .i64 a, .int .i64 bb, .int .u16 (size : Int), .int .i64 n, .int .u8 (sign.toNat : Int), .int .i32 char, .string ⟨text.toArray⟩, .slice ad cuts.length cap] 27)).alloc (.cells #[.int .i64 0, .string ⟨#[]⟩, .int .i32 0, .int .i64 0] 45)) b g)
  clear h
  have n15 : (op == 15) = false := by simp; omega
  have n16 : (op == 16) = false := by simp; omega
  have n17 : (op == 17) = false := by simp; omega
  have n18 : (op == 18) = false := by simp; omega
  have n19 : (op == 19) = false := by simp; omega
  have n20 : (op == 20) = false := by simp; omega
  have n21 : (op == 21) = false := by simp; omega
  have n22 : (op == 22) = false := by simp; omega
  clear hop
  have hmf : ∀ (fn : Fn) (first cap : Array Value) (w : World), (Instr.makeFunc fn first cap).run Tryz.prog w = .ok (.func fn first cap) w := fun _ _ _ _ => rfl
  go_enter_defers Tryz.func29, Tryz.ntmps29
  go_wp2_with fail
  refine leaves_cons (f := 63) (args := #[.pointer (some ⟨w.heap.size + 1, 0, none⟩)]) (by simp) (by simp [go_sem]) ?_
  refine (look_idle _ _).mono ?_
  rintro e u' w'' ⟨rfl, rfl, rfl⟩
  simp [Leaves, settle, results, Tryz.results29, go_sem]
  exact ⟨g, rfl, BufStep.of_none H.out (((Fr.refl (fun _ => False) w).alloc _).alloc _), rfl⟩
end
end Go.Proofs.YtkggebhkjgjijaaGreatDoor
