/- CallP. -/
import Derived.Test.YtkggebhkjgjijaaGreatDoorQ16
import Derived.Defers
import Derived.Recover
import Derived.Laws.Pointers
namespace Go.Proofs.YtkggebhkjgjijaaGreatDoor
open Go Go.RowKit

/-- The deferred call finds nothing to recover. -/
theorem put_idle (p : Addr) (w : World) :
    CallsD Tryz.prog 38 #[.pointer (some p)] .returning w fun e u' w' => e = .returned (.tuple #[]) ∧ u' = .returning ∧ w' = w := by
  refine callsD_of_wpS Tryz.func38 rfl fun c₀ cs hu => ?_
  apply wpS_seq
  apply wpS_region
  simp [wpOpsS, go_sem, recoverD, hu, Tryz.ntmps38, Exit.thenS]
  refine wpS_cond (t := false) (by simp [Act.eval, Array.replicate]) ?_
  simp only [Bool.false_eq_true, if_false]
  refine wpS_of_wp (wp_skip ?_)
  cases c₀
  simp_all [bodyPostS, results, Tryz.results38]

def PDPost (w : World) (d : Nat) (g : BG) (t : Td) (R : BG → Prop) (e : Ending) (w' : World) : Prop :=
  ∃ g', e = .returned t.val ∧ BldStep w d g w' g' ∧ R g'
theorem BldStep.skip {w0 w w' w'' : World} {d x : Nat} {g g' : BG} (S : BldStep w d g w' g') (h0 : Fr (fun _ => False) w0 w) (hx : w0.heap.size ≤ x) (hT : ToldAt w' x) (h1 : Fr (Just x) w' w'') : BldStep w0 d g w'' g' := by
  refine ⟨S.at'.fr h1 (fun z hz q => ?_), ?_, ?_⟩
  · obtain rfl : z = x := q
    rcases S.at'.foot_typed hz with k | k
    · exact k.ne (by decide) ⟨_, _, hT.st⟩
    · exact k.ne (by decide) ⟨_, _, hT.st⟩
  · rcases S.row with e | e | ⟨r, e, hr⟩
    · exact .inl e
    · exact .inr (.inl e)
    · exact .inr (.inr ⟨r, e, Nat.le_trans h0.size hr⟩)
  · refine ((h0.mono fun _ _ q => q.elim).trans S.fr).trans' h1 fun z hz q => ?_
    obtain rfl : z = x := q
    omega
theorem BldStep.told {w w' : World} {d x : Nat} {g g' : BG} (S : BldStep w d g w' g') (hb : BldAt w d g) (h : ToldAt w x) : ToldAt w' x :=
  h.fr S.fr fun q => by
    rcases hb.foot_typed q with k | k
    · exact k.ne (by decide) ⟨_, _, h.st⟩
    · exact k.ne (by decide) ⟨_, _, h.st⟩
theorem BldStep.refl {w : World} {d : Nat} {g : BG} (h : BldAt w d g) : BldStep w d g w g := ⟨h, .inl rfl, Fr.refl _ _⟩
theorem BldStep.of_foot {w w' : World} {d : Nat} {g : BG} (h : BldAt w' d g) (hf : Fr (fun x => g.row = some x) w w') : BldStep w d g w' g := ⟨h, .inl rfl, hf.mono fun _ _ q => .inr q⟩

section
variable (a bb : Int) (size : Nat) (n : Int) (sign : UInt8) (char : Int) (text : List UInt8) (cuts : List Nat) (ad : Option Addr) (cap : Nat)
set_option maxHeartbeats 1600000 in
set_option maxRecDepth 100000 in
theorem put_29 (d : Nat) (g : BG) (w : World) (h : BldAt w d g) (hsz : g.txt.length + text.length ≤ 1099511627776) :
    Calls Tryz.prog 25 #[.pointer (some ⟨d, 0, none⟩), .agg #[.int .i64 29, .int .i64 a, .int .i64 bb, .int .u16 (size : Int), .int .i64 n, .int .u8 (sign.toNat : Int), .int .i32 char, .string ⟨text.toArray⟩, .slice ad cuts.length cap]] w (PDPost w d g ⟨text.length, [], 0, 0⟩ (fun g' => Built g text g')) := by
  have H := Lib.hid h
  have HB := Lib.hid (h.fr (((Fr.refl (fun _ => False) w).alloc _).alloc _) (fun _ _ q => q) : BldAt ((w.alloc (.cells #[.int .i64 29, .int .i64 a, .int .i64 bb, .int .u16 (size : Int), .int .i64 n, .int .u8 (sign.toNat : Int), .int .i32 char, .string ⟨text.toArray⟩, .slice ad cuts.length cap] 27)).alloc (.cells #[.int .i64 0, .string ⟨#[]⟩, .int .i32 0, .int .i64 0] 45)) d g)
  clear h
  have hmf : ∀ (fn : Fn) (first cap : Array Value) (w : World), (Instr.makeFunc fn first cap).run Tryz.prog w = .ok (.func fn first cap) w := fun _ _ _ _ => rfl
  go_enter_defers Tryz.func25, Tryz.ntmps25
  go_wp2_with fail
  refine (bldWS text _ d g HB.out hsz).mono ?_
  rintro e w1 ⟨g1, rfl, S1, W1⟩
  have HR := Lib.hid W1
  clear W1
  have hT : ToldAt w1 (w.heap.size + 1) := S1.told HB.out (ToldAt.new2 w _)
  have t0 := hT.c0; have t1 := hT.c1; have t2 := hT.c2; have t3 := hT.c3; have z0 := hT.f 0; have z1 := hT.f 1; have z2 := hT.f 2; have z3 := hT.f 3
  have HT := Lib.hid hT
  clear hT
  have HS := Lib.hid S1
  clear S1
  go_wp2_with fail
  refine (said_nil _).mono ?_
  rintro e w2 ⟨rfl, rfl⟩
  go_wp2_with fail
  refine leaves_cons (f := 38) (args := #[.pointer (some ⟨w.heap.size + 1, 0, none⟩)]) (by simp) (by simp [go_sem]) ?_
  refine (put_idle _ _).mono ?_
  rintro e u' w'' ⟨rfl, rfl, rfl⟩
  simp [Leaves, settle, results, Tryz.results25, go_sem, t0, t1, t2, t3]
  exact ⟨_, rfl, HS.out.skip (((Fr.refl (fun _ => False) w).alloc _).alloc _) (by omega) HT.out (just4 _ _ _ _ _ _), HR.out⟩
set_option maxHeartbeats 1600000 in
set_option maxRecDepth 100000 in
theorem put_30 (d : Nat) (g : BG) (w : World) (h : BldAt w d g) (hsz : g.txt.length + 1 ≤ 1099511627776) :
    Calls Tryz.prog 25 #[.pointer (some ⟨d, 0, none⟩), .agg #[.int .i64 30, .int .i64 a, .int .i64 bb, .int .u16 (size : Int), .int .i64 n, .int .u8 (sign.toNat : Int), .int .i32 char, .string ⟨text.toArray⟩, .slice ad cuts.length cap]] w (PDPost w d g ⟨0, [], 0, 0⟩ (fun g' => Built g [sign] g')) := by
  have H := Lib.hid h
  have HB := Lib.hid (h.fr (((Fr.refl (fun _ => False) w).alloc _).alloc _) (fun _ _ q => q) : BldAt ((w.alloc (.cells #[.int .i64 30, .int .i64 a, .int .i64 bb, .int .u16 (size : Int), .int .i64 n, .int .u8 (sign.toNat : Int), .int .i32 char, .string ⟨text.toArray⟩, .slice ad cuts.length cap] 27)).alloc (.cells #[.int .i64 0, .string ⟨#[]⟩, .int .i32 0, .int .i64 0] 45)) d g)
  clear h
  have hmf : ∀ (fn : Fn) (first cap : Array Value) (w : World), (Instr.makeFunc fn first cap).run Tryz.prog w = .ok (.func fn first cap) w := fun _ _ _ _ => rfl
  go_enter_defers Tryz.func25, Tryz.ntmps25
  go_wp2_with fail
  refine (bldWB sign _ d g HB.out hsz).mono ?_
  rintro e w1 ⟨g1, rfl, S1, W1⟩
  have HR := Lib.hid W1
  clear W1
  have hT : ToldAt w1 (w.heap.size + 1) := S1.told HB.out (ToldAt.new2 w _)
  have t0 := hT.c0; have t1 := hT.c1; have t2 := hT.c2; have t3 := hT.c3; have z0 := hT.f 0; have z1 := hT.f 1; have z2 := hT.f 2; have z3 := hT.f 3
  have HT := Lib.hid hT
  clear hT
  have HS := Lib.hid S1
  clear S1
  go_wp2_with fail
  refine (said_nil _).mono ?_
  rintro e w2 ⟨rfl, rfl⟩
  go_wp2_with fail
  refine leaves_cons (f := 38) (args := #[.pointer (some ⟨w.heap.size + 1, 0, none⟩)]) (by simp) (by simp [go_sem]) ?_
  refine (put_idle _ _).mono ?_
  rintro e u' w'' ⟨rfl, rfl, rfl⟩
  simp [Leaves, settle, results, Tryz.results25, go_sem, t0, t1, t2, t3]
  exact ⟨_, rfl, HS.out.skip (((Fr.refl (fun _ => False) w).alloc _).alloc _) (by omega) HT.out (just4 _ _ _ _ _ _), HR.out⟩
set_option maxHeartbeats 1600000 in
set_option maxRecDepth 100000 in
theorem put_31 (d : Nat) (g : BG) (w : World) (h : BldAt w d g) (hgood : ¬ badRune char) (hsz : g.txt.length + 4 ≤ 1099511627776) :
    Calls Tryz.prog 25 #[.pointer (some ⟨d, 0, none⟩), .agg #[.int .i64 31, .int .i64 a, .int .i64 bb, .int .u16 (size : Int), .int .i64 n, .int .u8 (sign.toNat : Int), .int .i32 char, .string ⟨text.toArray⟩, .slice ad cuts.length cap]] w (PDPost w d g ⟨(enc char).length, [], 0, 0⟩ (fun g' => Built g (enc char) g')) := by
  have H := Lib.hid h
  have HB := Lib.hid (h.fr (((Fr.refl (fun _ => False) w).alloc _).alloc _) (fun _ _ q => q) : BldAt ((w.alloc (.cells #[.int .i64 31, .int .i64 a, .int .i64 bb, .int .u16 (size : Int), .int .i64 n, .int .u8 (sign.toNat : Int), .int .i32 char, .string ⟨text.toArray⟩, .slice ad cuts.length cap] 27)).alloc (.cells #[.int .i64 0, .string ⟨#[]⟩, .int .i32 0, .int .i64 0] 45)) d g)
  clear h
  have hmf : ∀ (fn : Fn) (first cap : Array Value) (w : World), (Instr.makeFunc fn first cap).run Tryz.prog w = .ok (.func fn first cap) w := fun _ _ _ _ => rfl
  go_enter_defers Tryz.func25, Tryz.ntmps25
  go_wp2_with fail
  refine (bldWR char _ d g HB.out hgood hsz).mono ?_
  rintro e w1 ⟨g1, rfl, S1, W1⟩
  have HR := Lib.hid W1
  clear W1
  have hT : ToldAt w1 (w.heap.size + 1) := S1.told HB.out (ToldAt.new2 w _)
  have t0 := hT.c0; have t1 := hT.c1; have t2 := hT.c2; have t3 := hT.c3; have z0 := hT.f 0; have z1 := hT.f 1; have z2 := hT.f 2; have z3 := hT.f 3
  have HT := Lib.hid hT
  clear hT
  have HS := Lib.hid S1
  clear S1
  go_wp2_with fail
  refine (said_nil _).mono ?_
  rintro e w2 ⟨rfl, rfl⟩
  go_wp2_with fail
  refine leaves_cons (f := 38) (args := #[.pointer (some ⟨w.heap.size + 1, 0, none⟩)]) (by simp) (by simp [go_sem]) ?_
  refine (put_idle _ _).mono ?_
  rintro e u' w'' ⟨rfl, rfl, rfl⟩
  simp [Leaves, settle, results, Tryz.results25, go_sem, t0, t1, t2, t3]
  exact ⟨_, rfl, HS.out.skip (((Fr.refl (fun _ => False) w).alloc _).alloc _) (by omega) HT.out (just4 _ _ _ _ _ _), HR.out⟩
set_option maxHeartbeats 1600000 in
set_option maxRecDepth 100000 in
theorem put_32 (d : Nat) (g : BG) (w : World) (h : BldAt w d g) (k : Nat) (hsz : g.txt.length + k ≤ 1099511627776) :
    Calls Tryz.prog 25 #[.pointer (some ⟨d, 0, none⟩), .agg #[.int .i64 32, .int .i64 a, .int .i64 bb, .int .u16 (size : Int), .int .i64 (k : Int), .int .u8 (sign.toNat : Int), .int .i32 char, .string ⟨text.toArray⟩, .slice ad cuts.length cap]] w (PDPost w d g ⟨0, [], 0, 0⟩ (fun g' => Roomy g k g')) := by
  have H := Lib.hid h
  have HB := Lib.hid (h.fr (((Fr.refl (fun _ => False) w).alloc _).alloc _) (fun _ _ q => q) : BldAt ((w.alloc (.cells #[.int .i64 32, .int .i64 a, .int .i64 bb, .int .u16 (size : Int), .int .i64 (k : Int), .int .u8 (sign.toNat : Int), .int .i32 char, .string ⟨text.toArray⟩, .slice ad cuts.length cap] 27)).alloc (.cells #[.int .i64 0, .string ⟨#[]⟩, .int .i32 0, .int .i64 0] 45)) d g)
  clear h
  have hmf : ∀ (fn : Fn) (first cap : Array Value) (w : World), (Instr.makeFunc fn first cap).run Tryz.prog w = .ok (.func fn first cap) w := fun _ _ _ _ => rfl
  go_enter_defers Tryz.func25, Tryz.ntmps25
  go_wp2_with fail
  refine (bld_Grow k _ d g HB.out hsz).mono ?_
  rintro e w1 ⟨g1, rfl, S1, W1⟩
  have HR := Lib.hid W1
  clear W1
  have hT : ToldAt w1 (w.heap.size + 1) := S1.told HB.out (ToldAt.new2 w _)
  have t0 := hT.c0; have t1 := hT.c1; have t2 := hT.c2; have t3 := hT.c3; have z0 := hT.f 0; have z1 := hT.f 1; have z2 := hT.f 2; have z3 := hT.f 3
  have HT := Lib.hid hT
  clear hT
  have HS := Lib.hid S1
  clear S1
  go_wp2_with fail
  refine leaves_cons (f := 38) (args := #[.pointer (some ⟨w.heap.size + 1, 0, none⟩)]) (by simp) (by simp [go_sem]) ?_
  refine (put_idle _ _).mono ?_
  rintro e u' w'' ⟨rfl, rfl, rfl⟩
  simp [Leaves, settle, results, Tryz.results25, go_sem, t0, t1, t2, t3]
  exact ⟨_, rfl, HS.out.skip (((Fr.refl (fun _ => False) w).alloc _).alloc _) (by omega) HT.out (just4 _ _ _ _ _ _), HR.out⟩
set_option maxHeartbeats 1600000 in
set_option maxRecDepth 100000 in
theorem put_33 (d : Nat) (g : BG) (w : World) (h : BldAt w d g) :
    Calls Tryz.prog 25 #[.pointer (some ⟨d, 0, none⟩), .agg #[.int .i64 33, .int .i64 a, .int .i64 bb, .int .u16 (size : Int), .int .i64 n, .int .u8 (sign.toNat : Int), .int .i32 char, .string ⟨text.toArray⟩, .slice ad cuts.length cap]] w (PDPost w d g ⟨0, [], 0, 0⟩ (fun g' => g' = ⟨none, [], 0, false⟩)) := by
  have H := Lib.hid h
  have HB := Lib.hid (h.fr (((Fr.refl (fun _ => False) w).alloc _).alloc _) (fun _ _ q => q) : BldAt ((w.alloc (.cells #[.int .i64 33, .int .i64 a, .int .i64 bb, .int .u16 (size : Int), .int .i64 n, .int .u8 (sign.toNat : Int), .int .i32 char, .string ⟨text.toArray⟩, .slice ad cuts.length cap] 27)).alloc (.cells #[.int .i64 0, .string ⟨#[]⟩, .int .i32 0, .int .i64 0] 45)) d g)
  clear h
  have hmf : ∀ (fn : Fn) (first cap : Array Value) (w : World), (Instr.makeFunc fn first cap).run Tryz.prog w = .ok (.func fn first cap) w := fun _ _ _ _ => rfl
  go_enter_defers Tryz.func25, Tryz.ntmps25
  go_wp2_with fail
  refine (bld_reset _ d g HB.out).mono ?_
  rintro e w1 ⟨rfl, A1, F1⟩
  have S1 : BldStep ((w.alloc (.cells #[.int .i64 33, .int .i64 a, .int .i64 bb, .int .u16 (size : Int), .int .i64 n, .int .u8 (sign.toNat : Int), .int .i32 char, .string ⟨text.toArray⟩, .slice ad cuts.length cap] 27)).alloc (.cells #[.int .i64 0, .string ⟨#[]⟩, .int .i32 0, .int .i64 0] 45)) d g w1 ⟨none, [], 0, false⟩ := ⟨A1, .inr (.inl rfl), F1.mono fun _ _ q => .inl q⟩
  clear A1 F1
  have hT : ToldAt w1 (w.heap.size + 1) := S1.told HB.out (ToldAt.new2 w _)
  have t0 := hT.c0; have t1 := hT.c1; have t2 := hT.c2; have t3 := hT.c3; have z0 := hT.f 0; have z1 := hT.f 1; have z2 := hT.f 2; have z3 := hT.f 3
  have HT := Lib.hid hT
  clear hT
  have HS := Lib.hid S1
  clear S1
  go_wp2_with fail
  refine leaves_cons (f := 38) (args := #[.pointer (some ⟨w.heap.size + 1, 0, none⟩)]) (by simp) (by simp [go_sem]) ?_
  refine (put_idle _ _).mono ?_
  rintro e u' w'' ⟨rfl, rfl, rfl⟩
  simp [Leaves, settle, results, Tryz.results25, go_sem, t0, t1, t2, t3]
  exact ⟨_, rfl, HS.out.skip (((Fr.refl (fun _ => False) w).alloc _).alloc _) (by omega) HT.out (just4 _ _ _ _ _ _), rfl⟩
set_option maxHeartbeats 1600000 in
set_option maxRecDepth 100000 in
theorem put_34 (d : Nat) (g : BG) (w : World) (h : BldAt w d g) :
    Calls Tryz.prog 25 #[.pointer (some ⟨d, 0, none⟩), .agg #[.int .i64 34, .int .i64 a, .int .i64 bb, .int .u16 (size : Int), .int .i64 n, .int .u8 (sign.toNat : Int), .int .i32 char, .string ⟨text.toArray⟩, .slice ad cuts.length cap]] w (PDPost w d g ⟨g.txt.length, [], 0, 0⟩ (fun g' => g' = g)) := by
  have H := Lib.hid h
  have HB := Lib.hid (h.fr (((Fr.refl (fun _ => False) w).alloc _).alloc _) (fun _ _ q => q) : BldAt ((w.alloc (.cells #[.int .i64 34, .int .i64 a, .int .i64 bb, .int .u16 (size : Int), .int .i64 n, .int .u8 (sign.toNat : Int), .int .i32 char, .string ⟨text.toArray⟩, .slice ad cuts.length cap] 27)).alloc (.cells #[.int .i64 0, .string ⟨#[]⟩, .int .i32 0, .int .i64 0] 45)) d g)
  clear h
  have hmf : ∀ (fn : Fn) (first cap : Array Value) (w : World), (Instr.makeFunc fn first cap).run Tryz.prog w = .ok (.func fn first cap) w := fun _ _ _ _ => rfl
  go_enter_defers Tryz.func25, Tryz.ntmps25
  go_wp2_with fail
  refine (bld_len _ d g HB.out).mono ?_
  rintro e w1 ⟨rfl, hw⟩
  have S1 : BldStep ((w.alloc (.cells #[.int .i64 34, .int .i64 a, .int .i64 bb, .int .u16 (size : Int), .int .i64 n, .int .u8 (sign.toNat : Int), .int .i32 char, .string ⟨text.toArray⟩, .slice ad cuts.length cap] 27)).alloc (.cells #[.int .i64 0, .string ⟨#[]⟩, .int .i32 0, .int .i64 0] 45)) d g w1 g := by rw [hw]; exact BldStep.refl HB.out
  clear hw
  have hT : ToldAt w1 (w.heap.size + 1) := S1.told HB.out (ToldAt.new2 w _)
  have t0 := hT.c0; have t1 := hT.c1; have t2 := hT.c2; have t3 := hT.c3; have z0 := hT.f 0; have z1 := hT.f 1; have z2 := hT.f 2; have z3 := hT.f 3
  have HT := Lib.hid hT
  clear hT
  have HS := Lib.hid S1
  clear S1
  go_wp2_with fail
  refine leaves_cons (f := 38) (args := #[.pointer (some ⟨w.heap.size + 1, 0, none⟩)]) (by simp) (by simp [go_sem]) ?_
  refine (put_idle _ _).mono ?_
  rintro e u' w'' ⟨rfl, rfl, rfl⟩
  simp [Leaves, settle, results, Tryz.results25, go_sem, t0, t1, t2, t3]
  exact ⟨_, rfl, HS.out.skip (((Fr.refl (fun _ => False) w).alloc _).alloc _) (by omega) HT.out (just4 _ _ _ _ _ _), rfl⟩
set_option maxHeartbeats 1600000 in
set_option maxRecDepth 100000 in
theorem put_35 (d : Nat) (g : BG) (w : World) (h : BldAt w d g) :
    Calls Tryz.prog 25 #[.pointer (some ⟨d, 0, none⟩), .agg #[.int .i64 35, .int .i64 a, .int .i64 bb, .int .u16 (size : Int), .int .i64 n, .int .u8 (sign.toNat : Int), .int .i32 char, .string ⟨text.toArray⟩, .slice ad cuts.length cap]] w (PDPost w d g ⟨0, g.txt, 0, 0⟩ (fun g' => g' = g)) := by
  have H := Lib.hid h
  have HB := Lib.hid (h.fr (((Fr.refl (fun _ => False) w).alloc _).alloc _) (fun _ _ q => q) : BldAt ((w.alloc (.cells #[.int .i64 35, .int .i64 a, .int .i64 bb, .int .u16 (size : Int), .int .i64 n, .int .u8 (sign.toNat : Int), .int .i32 char, .string ⟨text.toArray⟩, .slice ad cuts.length cap] 27)).alloc (.cells #[.int .i64 0, .string ⟨#[]⟩, .int .i32 0, .int .i64 0] 45)) d g)
  clear h
  have hmf : ∀ (fn : Fn) (first cap : Array Value) (w : World), (Instr.makeFunc fn first cap).run Tryz.prog w = .ok (.func fn first cap) w := fun _ _ _ _ => rfl
  go_enter_defers Tryz.func25, Tryz.ntmps25
  go_wp2_with fail
  refine (bld_string _ d g HB.out).mono ?_
  rintro e w1 ⟨rfl, A1, F1⟩
  have S1 : BldStep ((w.alloc (.cells #[.int .i64 35, .int .i64 a, .int .i64 bb, .int .u16 (size : Int), .int .i64 n, .int .u8 (sign.toNat : Int), .int .i32 char, .string ⟨text.toArray⟩, .slice ad cuts.length cap] 27)).alloc (.cells #[.int .i64 0, .string ⟨#[]⟩, .int .i32 0, .int .i64 0] 45)) d g w1 g := BldStep.of_foot A1 F1
  clear A1 F1
  have hT : ToldAt w1 (w.heap.size + 1) := S1.told HB.out (ToldAt.new2 w _)
  have t0 := hT.c0; have t1 := hT.c1; have t2 := hT.c2; have t3 := hT.c3; have z0 := hT.f 0; have z1 := hT.f 1; have z2 := hT.f 2; have z3 := hT.f 3
  have HT := Lib.hid hT
  clear hT
  have HS := Lib.hid S1
  clear S1
  go_wp2_with fail
  refine leaves_cons (f := 38) (args := #[.pointer (some ⟨w.heap.size + 1, 0, none⟩)]) (by simp) (by simp [go_sem]) ?_
  refine (put_idle _ _).mono ?_
  rintro e u' w'' ⟨rfl, rfl, rfl⟩
  simp [Leaves, settle, results, Tryz.results25, go_sem, t0, t1, t2, t3]
  exact ⟨_, rfl, HS.out.skip (((Fr.refl (fun _ => False) w).alloc _).alloc _) (by omega) HT.out (just4 _ _ _ _ _ _), rfl⟩
set_option maxHeartbeats 1600000 in
set_option maxRecDepth 100000 in
theorem put_28 (d : Nat) (g : BG) (w : World) (h : BldAt w d g) (hsz : g.txt.length + text.length ≤ 1099511627776) :
    Calls Tryz.prog 25 #[.pointer (some ⟨d, 0, none⟩), .agg #[.int .i64 28, .int .i64 a, .int .i64 bb, .int .u16 (size : Int), .int .i64 n, .int .u8 (sign.toNat : Int), .int .i32 char, .string ⟨text.toArray⟩, .slice ad cuts.length cap]] w (PDPost w d g ⟨text.length, [], 0, 0⟩ (fun g' => Built g text g')) := by
  have H := Lib.hid h
  have HB := Lib.hid (h.fr (((Fr.refl (fun _ => False) w).alloc _).alloc _) (fun _ _ q => q) : BldAt ((w.alloc (.cells #[.int .i64 28, .int .i64 a, .int .i64 bb, .int .u16 (size : Int), .int .i64 n, .int .u8 (sign.toNat : Int), .int .i32 char, .string ⟨text.toArray⟩, .slice ad cuts.length cap] 27)).alloc (.cells #[.int .i64 0, .string ⟨#[]⟩, .int .i32 0, .int .i64 0] 45)) d g)
  clear h
  obtain ⟨w0, all, hrun, hrow, htk, hla, hlen, hfr, hsz0⟩ := conv_bytes text ((w.alloc (.cells #[.int .i64 28, .int .i64 a, .int .i64 bb, .int .u16 (size : Int), .int .i64 n, .int .u8 (sign.toNat : Int), .int .i32 char, .string ⟨text.toArray⟩, .slice ad cuts.length cap] 27)).alloc (.cells #[.int .i64 0, .string ⟨#[]⟩, .int .i32 0, .int .i64 0] 45)) (by omega)
  obtain ⟨r, hr⟩ : ∃ r, r = ((w.alloc (.cells #[.int .i64 28, .int .i64 a, .int .i64 bb, .int .u16 (size : Int), .int .i64 n, .int .u8 (sign.toNat : Int), .int .i32 char, .string ⟨text.toArray⟩, .slice ad cuts.length cap] 27)).alloc (.cells #[.int .i64 0, .string ⟨#[]⟩, .int .i32 0, .int .i64 0] 45)).heap.size := ⟨_, rfl⟩
  rw [← hr] at hrun hrow
  have HB0 := Lib.hid (HB.out.fr hfr (fun _ _ q => q))
  have HT0 := Lib.hid ((ToldAt.new2 w (.cells #[.int .i64 28, .int .i64 a, .int .i64 bb, .int .u16 (size : Int), .int .i64 n, .int .u8 (sign.toNat : Int), .int .i32 char, .string ⟨text.toArray⟩, .slice ad cuts.length cap] 27)).fr hfr (fun q => q))
  have HF0 := Lib.hid (((((Fr.refl (fun _ => False) w).alloc _).alloc _) : Fr _ w ((w.alloc (.cells #[.int .i64 28, .int .i64 a, .int .i64 bb, .int .u16 (size : Int), .int .i64 n, .int .u8 (sign.toNat : Int), .int .i32 char, .string ⟨text.toArray⟩, .slice ad cuts.length cap] 27)).alloc (.cells #[.int .i64 0, .string ⟨#[]⟩, .int .i32 0, .int .i64 0] 45))).trans hfr)
  have HSR := Lib.hid (src_head (c := all.length) hrow htk hla)
  clear hfr hsz0 hrow htk hr
  have hmf : ∀ (fn : Fn) (first cap : Array Value) (w : World), (Instr.makeFunc fn first cap).run Tryz.prog w = .ok (.func fn first cap) w := fun _ _ _ _ => rfl
  go_enter_defers Tryz.func25, Tryz.ntmps25
  go_wp2_with fail
  refine (bldW _ _ _ text _ d g HB0.out HSR.out rfl hsz).mono ?_
  rintro e w1 ⟨g1, rfl, S1, W1⟩
  have HR := Lib.hid W1
  clear W1
  have hT : ToldAt w1 (w.heap.size + 1) := S1.told HB0.out HT0.out
  have t0 := hT.c0; have t1 := hT.c1; have t2 := hT.c2; have t3 := hT.c3; have z0 := hT.f 0; have z1 := hT.f 1; have z2 := hT.f 2; have z3 := hT.f 3
  have HT := Lib.hid hT
  clear hT
  have HS := Lib.hid S1
  clear S1
  go_wp2_with fail
  refine (said_nil _).mono ?_
  rintro e w2 ⟨rfl, rfl⟩
  go_wp2_with fail
  refine leaves_cons (f := 38) (args := #[.pointer (some ⟨w.heap.size + 1, 0, none⟩)]) (by simp) (by simp [go_sem]) ?_
  refine (put_idle _ _).mono ?_
  rintro e u' w'' ⟨rfl, rfl, rfl⟩
  simp [Leaves, settle, results, Tryz.results25, go_sem, t0, t1, t2, t3]
  exact ⟨_, rfl, HS.out.skip HF0.out (by omega) HT.out (just4 _ _ _ _ _ _), HR.out⟩
set_option maxHeartbeats 1600000 in
set_option maxRecDepth 100000 in
theorem put_36 (op : Int) (hop : 36 ≤ op) (d : Nat) (g : BG) (w : World) (h : BldAt w d g) :
    Calls Tryz.prog 25 #[.pointer (some ⟨d, 0, none⟩), .agg #[.int .i64 op, .int .i64 a, .int .i64 bb, .int .u16 (size : Int), .int .i64 n, .int .u8 (sign.toNat : Int), .int .i32 char, .string ⟨text.toArray⟩, .slice ad cuts.length cap]] w (PDPost w d g ⟨0, [], 0, 4⟩ (fun g' => g' = g)) := by
  have H := Lib.hid h
  have HB := Lib.hid (h.fr (((Fr.refl (fun _ => False) w).alloc _).alloc _) (fun _ _ q => q) : BldAt ((w.alloc (.cells #[.int .i64 op, .int .i64 a, .int .i64 bb, .int .u16 (size : Int), .int .i64 n, .int .u8 (sign.toNat : Int), .int .i32 char, .string ⟨text.toArray⟩, .slice ad cuts.length cap] 27)).alloc (.cells #[.int .i64 0, .string ⟨#[]⟩, .int .i32 0, .int .i64 0] 45)) d g)
  clear h
  have n28 : (op == 28) = false := by simp; omega
  have n29 : (op == 29) = false := by simp; omega
  have n30 : (op == 30) = false := by simp; omega
  have n31 : (op == 31) = false := by simp; omega
  have n32 : (op == 32) = false := by simp; omega
  have n33 : (op == 33) = false := by simp; omega
  have n34 : (op == 34) = false := by simp; omega
  have n35 : (op == 35) = false := by simp; omega
  clear hop
  have hmf : ∀ (fn : Fn) (first cap : Array Value) (w : World), (Instr.makeFunc fn first cap).run Tryz.prog w = .ok (.func fn first cap) w := fun _ _ _ _ => rfl
  go_enter_defers Tryz.func25, Tryz.ntmps25
  go_wp2_with fail
  refine leaves_cons (f := 38) (args := #[.pointer (some ⟨w.heap.size + 1, 0, none⟩)]) (by simp) (by simp [go_sem]) ?_
  refine (put_idle _ _).mono ?_
  rintro e u' w'' ⟨rfl, rfl, rfl⟩
  simp [Leaves, settle, results, Tryz.results25, go_sem]
  exact ⟨g, rfl, ⟨H.out.fr (((Fr.refl (fun _ => False) w).alloc _).alloc _) (fun _ _ q => q), .inl rfl, ((((Fr.refl (fun _ => False) w).alloc _).alloc _)).mono fun _ _ q => q.elim⟩, rfl⟩
end
end Go.Proofs.YtkggebhkjgjijaaGreatDoor
