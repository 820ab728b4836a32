/- CallE. -/
import Derived.Test.YtkggebhkjgjijaaGreatDoorQ21
namespace Go.Proofs.YtkggebhkjgjijaaGreatDoor
open Go Go.RowKit

section
variable (bb : Int) (size : Nat) (n : Int) (sign : UInt8) (char : Int) (text : List UInt8) (cuts : List Nat) (ad : Option Addr) (cap : Nat)
set_option maxHeartbeats 1600000 in
set_option maxRecDepth 100000 in
theorem call_f (op : Int) (hop : op = 26 ∨ op = 27) (w : World) (base yb i b : Nat) (g : Gh) (bs : List (Nat × Gh)) (ds : List (Nat × BG)) (tn : Int) (tt : List UInt8) (tc ts : Int) (R : Gh → Prop) (hY : YardAt w base yb bs ds) (hi : bs[i]? = some (b, g))
    (hc : ∀ w1, Fr (fun _ => False) w w1 → Calls Tryz.prog 28 #[.pointer (some ⟨yb, 0, none⟩), .pointer (some ⟨b, 0, none⟩), .agg #[.int .i64 op, .int .i64 (i : Int), .int .i64 bb, .int .u16 (size : Int), .int .i64 n, .int .u8 (sign.toNat : Int), .int .i32 char, .string ⟨text.toArray⟩, .slice ad cuts.length cap]] w1 (WDPost w1 b g ⟨tn, tt, tc, ts⟩ R)) :
    Calls Tryz.prog 14 #[.pointer (some ⟨yb, 0, none⟩), .agg #[.int .i64 op, .int .i64 (i : Int), .int .i64 bb, .int .u16 (size : Int), .int .i64 n, .int .u8 (sign.toNat : Int), .int .i32 char, .string ⟨text.toArray⟩, .slice ad cuts.length cap]] w (CBPost w base yb bs ds i b ⟨tn, tt, tc, ts⟩ R) := by
  obtain ⟨A, cp, A', cp', lab, hC⟩ := hY
  obtain ⟨rb, rfl, hrt, hrc⟩ := hC.bp i _ hi
  have hil : i < bs.length := (List.getElem?_eq_some_iff.1 hi).1
  have y0 : w.cell? ⟨yb, 0, none⟩ = some (.slice (some ⟨rb, 0, none⟩) bs.length cp) := by rw [cell_of_row w yb 0 _ _ _ hC.st]; rfl
  have hi0 : (0 : Int) ≤ (i : Int) := by omega
  have hi1 : (i : Int) < (bs.length : Int) := by omega
  simp only at hrc
  have hY : YardAt w base yb bs ds := ⟨_, _, _, _, _, hC⟩
  obtain ⟨w0, hw0⟩ : ∃ w0, w0 = ((w.alloc (.cells #[.int .i64 op, .int .i64 (i : Int), .int .i64 bb, .int .u16 (size : Int), .int .i64 n, .int .u8 (sign.toNat : Int), .int .i32 char, .string ⟨text.toArray⟩, .slice ad cuts.length cap] 27)).alloc (.cells #[.int .i64 0, .string ⟨#[]⟩, .int .i32 0, .int .i64 0] 45)) := ⟨_, rfl⟩
  have hF0 : Fr (fun _ => False) w w0 := by rw [hw0]; exact (((Fr.refl (fun _ => False) w).alloc _).alloc _)
  have e0 : w0.cell? ⟨w.heap.size, 0, none⟩ = some (.int .i64 op) := by rw [hw0]; simp
  have e1 : w0.cell? ⟨w.heap.size, 1, none⟩ = some (.int .i64 (i : Int)) := by rw [hw0]; simp
  have e2 : w0.cell? ⟨w.heap.size, 2, none⟩ = some (.int .i64 bb) := by rw [hw0]; simp
  have e3 : w0.cell? ⟨w.heap.size, 3, none⟩ = some (.int .u16 (size : Int)) := by rw [hw0]; simp
  have e4 : w0.cell? ⟨w.heap.size, 4, none⟩ = some (.int .i64 n) := by rw [hw0]; simp
  have e5 : w0.cell? ⟨w.heap.size, 5, none⟩ = some (.int .u8 (sign.toNat : Int)) := by rw [hw0]; simp
  have e6 : w0.cell? ⟨w.heap.size, 6, none⟩ = some (.int .i32 char) := by rw [hw0]; simp
  have e7 : w0.cell? ⟨w.heap.size, 7, none⟩ = some (.string ⟨text.toArray⟩) := by rw [hw0]; simp
  have e8 : w0.cell? ⟨w.heap.size, 8, none⟩ = some (.slice ad cuts.length cap) := by rw [hw0]; simp
  have y1 : w0.cell? ⟨yb, 0, none⟩ = some (.slice (some ⟨rb, 0, none⟩) bs.length cp) := (hF0.cell (World.block_lt_of_cell? _ _ y0) (fun q => q)).trans y0
  have r1 : w0.cell? ⟨rb, i, none⟩ = some (.pointer (some ⟨b, 0, none⟩)) := (hF0.cell (World.block_lt_of_cell? _ _ hrc) (fun q => q)).trans hrc
  have HT0 := Lib.hid (show ToldAt w0 (w.heap.size + 1) by rw [hw0]; exact ToldAt.new2 w _)
  have HY := Lib.hid (hY.fr0 hF0)
  have HF0 := Lib.hid hF0
  have HI := Lib.hid hi
  have HC := Lib.hid hc
  have HW0 := Lib.hid hw0
  clear hC hc hi hrt hY hF0 y0 hrc hw0
  rcases hop with rfl | rfl
  all_goals
    go_enter Tryz.func14, Tryz.ntmps14
    go_wp2_with fail
    rw [← HW0.out]
    go_quiet ((go_at_call 24; exact Calls.quiet_of_same (among_yes i bs.length hil _)))
    go_wp2_with fail
    go_quiet (fail)
    go_wp2_with fail
    refine (HC.out _ (HF0.out.drewN _)).mono ?_
    rintro e w1 ⟨g', rfl, S1, hR⟩
    have S2 := (HY.out.fr0 ((Fr.refl (fun _ => False) w0).drewN _)).one HI.out S1
    have hT : ToldAt w1 (w.heap.size + 1) := S2.told (HT0.out.fr ((Fr.refl (fun _ => False) w0).drewN _) (fun q => q))
    have t0 := hT.c0; have t1 := hT.c1; have t2 := hT.c2; have t3 := hT.c3; have z0 := hT.f 0; have z1 := hT.f 1; have z2 := hT.f 2; have z3 := hT.f 3
    have HT := Lib.hid hT
    have HS := Lib.hid S2
    have HR := Lib.hid hR
    clear hT S1 S2 hR
    simp only [Td.val, Td.cells]
    go_wp2_with fail
    refine bodyPost_ret (v := Td.val ⟨tn, tt, tc, ts⟩) (by simp [results, Tryz.results14, go_sem, t0, t1, t2, t3, Td.val, Td.cells]) rfl ?_
    exact ⟨g', rfl, HS.out.skip (HF0.out.drewN _) (by omega) HT.out (just4 _ _ _ _ _ _), HR.out⟩
set_option maxHeartbeats 1600000 in
set_option maxRecDepth 100000 in
theorem call_0 (op : Int) (hop : op < 1) (w : World) (base yb i b : Nat) (g : Gh) (bs : List (Nat × Gh)) (ds : List (Nat × BG)) (tn : Int) (tt : List UInt8) (tc ts : Int) (R : Gh → Prop) (hY : YardAt w base yb bs ds) (hi : bs[i]? = some (b, g))
    (hc : ∀ w1, Fr (fun _ => False) w w1 → Calls Tryz.prog 29 #[.pointer (some ⟨b, 0, none⟩), .agg #[.int .i64 op, .int .i64 (i : Int), .int .i64 bb, .int .u16 (size : Int), .int .i64 n, .int .u8 (sign.toNat : Int), .int .i32 char, .string ⟨text.toArray⟩, .slice ad cuts.length cap]] w1 (WDPost w1 b g ⟨tn, tt, tc, ts⟩ R)) :
    Calls Tryz.prog 14 #[.pointer (some ⟨yb, 0, none⟩), .agg #[.int .i64 op, .int .i64 (i : Int), .int .i64 bb, .int .u16 (size : Int), .int .i64 n, .int .u8 (sign.toNat : Int), .int .i32 char, .string ⟨text.toArray⟩, .slice ad cuts.length cap]] w (CBPost w base yb bs ds i b ⟨tn, tt, tc, ts⟩ R) := by
  obtain ⟨A, cp, A', cp', lab, hC⟩ := hY
  obtain ⟨rb, rfl, hrt, hrc⟩ := hC.bp i _ hi
  have hil : i < bs.length := (List.getElem?_eq_some_iff.1 hi).1
  have y0 : w.cell? ⟨yb, 0, none⟩ = some (.slice (some ⟨rb, 0, none⟩) bs.length cp) := by rw [cell_of_row w yb 0 _ _ _ hC.st]; rfl
  have hi0 : (0 : Int) ≤ (i : Int) := by omega
  have hi1 : (i : Int) < (bs.length : Int) := by omega
  simp only at hrc
  have hY : YardAt w base yb bs ds := ⟨_, _, _, _, _, hC⟩
  obtain ⟨w0, hw0⟩ : ∃ w0, w0 = ((w.alloc (.cells #[.int .i64 op, .int .i64 (i : Int), .int .i64 bb, .int .u16 (size : Int), .int .i64 n, .int .u8 (sign.toNat : Int), .int .i32 char, .string ⟨text.toArray⟩, .slice ad cuts.length cap] 27)).alloc (.cells #[.int .i64 0, .string ⟨#[]⟩, .int .i32 0, .int .i64 0] 45)) := ⟨_, rfl⟩
  have hF0 : Fr (fun _ => False) w w0 := by rw [hw0]; exact (((Fr.refl (fun _ => False) w).alloc _).alloc _)
  have e0 : w0.cell? ⟨w.heap.size, 0, none⟩ = some (.int .i64 op) := by rw [hw0]; simp
  have e1 : w0.cell? ⟨w.heap.size, 1, none⟩ = some (.int .i64 (i : Int)) := by rw [hw0]; simp
  have e2 : w0.cell? ⟨w.heap.size, 2, none⟩ = some (.int .i64 bb) := by rw [hw0]; simp
  have e3 : w0.cell? ⟨w.heap.size, 3, none⟩ = some (.int .u16 (size : Int)) := by rw [hw0]; simp
  have e4 : w0.cell? ⟨w.heap.size, 4, none⟩ = some (.int .i64 n) := by rw [hw0]; simp
  have e5 : w0.cell? ⟨w.heap.size, 5, none⟩ = some (.int .u8 (sign.toNat : Int)) := by rw [hw0]; simp
  have e6 : w0.cell? ⟨w.heap.size, 6, none⟩ = some (.int .i32 char) := by rw [hw0]; simp
  have e7 : w0.cell? ⟨w.heap.size, 7, none⟩ = some (.string ⟨text.toArray⟩) := by rw [hw0]; simp
  have e8 : w0.cell? ⟨w.heap.size, 8, none⟩ = some (.slice ad cuts.length cap) := by rw [hw0]; simp
  have y1 : w0.cell? ⟨yb, 0, none⟩ = some (.slice (some ⟨rb, 0, none⟩) bs.length cp) := (hF0.cell (World.block_lt_of_cell? _ _ y0) (fun q => q)).trans y0
  have r1 : w0.cell? ⟨rb, i, none⟩ = some (.pointer (some ⟨b, 0, none⟩)) := (hF0.cell (World.block_lt_of_cell? _ _ hrc) (fun q => q)).trans hrc
  have HT0 := Lib.hid (show ToldAt w0 (w.heap.size + 1) by rw [hw0]; exact ToldAt.new2 w _)
  have HY := Lib.hid (hY.fr0 hF0)
  have HF0 := Lib.hid hF0
  have HI := Lib.hid hi
  have HC := Lib.hid hc
  have HW0 := Lib.hid hw0
  clear hC hc hi hrt hY hF0 y0 hrc hw0
  have n1 : (op == 1) = false := by simp; omega
  have n2 : (op == 2) = false := by simp; omega
  have n3 : (op == 3) = false := by simp; omega
  have n4 : (op == 4) = false := by simp; omega
  have n5 : (op == 5) = false := by simp; omega
  have n6 : (op == 6) = false := by simp; omega
  have n7 : (op == 7) = false := by simp; omega
  have n8 : (op == 8) = false := by simp; omega
  have n9 : (op == 9) = false := by simp; omega
  have n10 : (op == 10) = false := by simp; omega
  have n11 : (op == 11) = false := by simp; omega
  have n12 : (op == 12) = false := by simp; omega
  have n13 : (op == 13) = false := by simp; omega
  have n14 : (op == 14) = false := by simp; omega
  have n23 : (op == 23) = false := by simp; omega
  have n24 : (op == 24) = false := by simp; omega
  have n25 : (op == 25) = false := by simp; omega
  have n26 : (op == 26) = false := by simp; omega
  have n27 : (op == 27) = false := by simp; omega
  have n28 : ¬ (28 ≤ op) := by omega
  clear hop
  all_goals
    go_enter Tryz.func14, Tryz.ntmps14
    go_wp2_with fail
    rw [← HW0.out]
    go_quiet ((go_at_call 24; exact Calls.quiet_of_same (among_yes i bs.length hil _)))
    go_wp2_with fail
    go_quiet (fail)
    go_wp2_with fail
    refine (HC.out _ (HF0.out.drewN _)).mono ?_
    rintro e w1 ⟨g', rfl, S1, hR⟩
    have S2 := (HY.out.fr0 ((Fr.refl (fun _ => False) w0).drewN _)).one HI.out S1
    have hT : ToldAt w1 (w.heap.size + 1) := S2.told (HT0.out.fr ((Fr.refl (fun _ => False) w0).drewN _) (fun q => q))
    have t0 := hT.c0; have t1 := hT.c1; have t2 := hT.c2; have t3 := hT.c3; have z0 := hT.f 0; have z1 := hT.f 1; have z2 := hT.f 2; have z3 := hT.f 3
    have HT := Lib.hid hT
    have HS := Lib.hid S2
    have HR := Lib.hid hR
    clear hT S1 S2 hR
    simp only [Td.val, Td.cells]
    go_wp2_with fail
    refine bodyPost_ret (v := Td.val ⟨tn, tt, tc, ts⟩) (by simp [results, Tryz.results14, go_sem, t0, t1, t2, t3, Td.val, Td.cells]) rfl ?_
    exact ⟨g', rfl, HS.out.skip (HF0.out.drewN _) (by omega) HT.out (just4 _ _ _ _ _ _), HR.out⟩
/-- The yard behind a call of one builder. -/
def CDPost (w : World) (base yb : Nat) (bs : List (Nat × Gh)) (ds : List (Nat × BG)) (i b : Nat) (t : Td) (R : BG → Prop) (e : Ending) (w' : World) : Prop :=
  ∃ g', e = .returned t.val ∧ YardStep w base yb w' bs (ds.set i (b, g')) ∧ R g'
set_option maxHeartbeats 1600000 in
set_option maxRecDepth 100000 in
theorem call_p (op : Int) (hop : 28 ≤ op) (w : World) (base yb i b : Nat) (g : BG) (bs : List (Nat × Gh)) (ds : List (Nat × BG)) (tn : Int) (tt : List UInt8) (tc ts : Int) (R : BG → Prop) (hY : YardAt w base yb bs ds) (hi : ds[i]? = some (b, g))
    (hc : ∀ w1, Fr (fun _ => False) w w1 → Calls Tryz.prog 25 #[.pointer (some ⟨b, 0, none⟩), .agg #[.int .i64 op, .int .i64 (i : Int), .int .i64 bb, .int .u16 (size : Int), .int .i64 n, .int .u8 (sign.toNat : Int), .int .i32 char, .string ⟨text.toArray⟩, .slice ad cuts.length cap]] w1 (PDPost w1 b g ⟨tn, tt, tc, ts⟩ R)) :
    Calls Tryz.prog 14 #[.pointer (some ⟨yb, 0, none⟩), .agg #[.int .i64 op, .int .i64 (i : Int), .int .i64 bb, .int .u16 (size : Int), .int .i64 n, .int .u8 (sign.toNat : Int), .int .i32 char, .string ⟨text.toArray⟩, .slice ad cuts.length cap]] w (CDPost w base yb bs ds i b ⟨tn, tt, tc, ts⟩ R) := by
  obtain ⟨A, cp, A', cp', lab, hC⟩ := hY
  obtain ⟨rb, rfl, hrt, hrc⟩ := hC.dp i _ hi
  have hil : i < ds.length := (List.getElem?_eq_some_iff.1 hi).1
  have y0 : w.cell? ⟨yb, 1, none⟩ = some (.slice (some ⟨rb, 0, none⟩) ds.length cp') := by rw [cell_of_row w yb 1 _ _ _ hC.st]; rfl
  have hi0 : (0 : Int) ≤ (i : Int) := by omega
  have hi1 : (i : Int) < (ds.length : Int) := by omega
  simp only at hrc
  have hY : YardAt w base yb bs ds := ⟨_, _, _, _, _, hC⟩
  obtain ⟨w0, hw0⟩ : ∃ w0, w0 = ((w.alloc (.cells #[.int .i64 op, .int .i64 (i : Int), .int .i64 bb, .int .u16 (size : Int), .int .i64 n, .int .u8 (sign.toNat : Int), .int .i32 char, .string ⟨text.toArray⟩, .slice ad cuts.length cap] 27)).alloc (.cells #[.int .i64 0, .string ⟨#[]⟩, .int .i32 0, .int .i64 0] 45)) := ⟨_, rfl⟩
  have hF0 : Fr (fun _ => False) w w0 := by rw [hw0]; exact (((Fr.refl (fun _ => False) w).alloc _).alloc _)
  have e0 : w0.cell? ⟨w.heap.size, 0, none⟩ = some (.int .i64 op) := by rw [hw0]; simp
  have e1 : w0.cell? ⟨w.heap.size, 1, none⟩ = some (.int .i64 (i : Int)) := by rw [hw0]; simp
  have e2 : w0.cell? ⟨w.heap.size, 2, none⟩ = some (.int .i64 bb) := by rw [hw0]; simp
  have e3 : w0.cell? ⟨w.heap.size, 3, none⟩ = some (.int .u16 (size : Int)) := by rw [hw0]; simp
  have e4 : w0.cell? ⟨w.heap.size, 4, none⟩ = some (.int .i64 n) := by rw [hw0]; simp
  have e5 : w0.cell? ⟨w.heap.size, 5, none⟩ = some (.int .u8 (sign.toNat : Int)) := by rw [hw0]; simp
  have e6 : w0.cell? ⟨w.heap.size, 6, none⟩ = some (.int .i32 char) := by rw [hw0]; simp
  have e7 : w0.cell? ⟨w.heap.size, 7, none⟩ = some (.string ⟨text.toArray⟩) := by rw [hw0]; simp
  have e8 : w0.cell? ⟨w.heap.size, 8, none⟩ = some (.slice ad cuts.length cap) := by rw [hw0]; simp
  have y1 : w0.cell? ⟨yb, 1, none⟩ = some (.slice (some ⟨rb, 0, none⟩) ds.length cp') := (hF0.cell (World.block_lt_of_cell? _ _ y0) (fun q => q)).trans y0
  have r1 : w0.cell? ⟨rb, i, none⟩ = some (.pointer (some ⟨b, 0, none⟩)) := (hF0.cell (World.block_lt_of_cell? _ _ hrc) (fun q => q)).trans hrc
  have HT0 := Lib.hid (show ToldAt w0 (w.heap.size + 1) by rw [hw0]; exact ToldAt.new2 w _)
  have HY := Lib.hid (hY.fr0 hF0)
  have HF0 := Lib.hid hF0
  have HI := Lib.hid hi
  have HC := Lib.hid hc
  have HW0 := Lib.hid hw0
  clear hC hc hi hrt hY hF0 y0 hrc hw0
  all_goals
    go_enter Tryz.func14, Tryz.ntmps14
    go_wp2_with fail
    rw [← HW0.out]
    go_quiet ((go_at_call 24; exact Calls.quiet_of_same (among_yes i ds.length hil _)))
    go_wp2_with fail
    refine wp_region_mixed 9 (by kernel_rfl) (by kernel_rfl) (fun _ _ d _ _ h => by cases d <;> exact h) ?_
    simp only [List.take_succ_cons, List.take_zero, List.drop_succ_cons, List.drop_zero, List.filter_cons, List.filter_nil, isMv, Array.isEmpty_iff, Bool.not_false, Bool.and_true, Option.isNone_none, if_true, if_false, Bool.false_eq_true]
    repeat still_step
    refine wpStill_nil ?_
    go_wp2_with fail

    refine (HC.out _ (HF0.out.drewN _)).mono ?_
    rintro e w1 ⟨g', rfl, S1, hR⟩
    have S2 := (HY.out.fr0 ((Fr.refl (fun _ => False) w0).drewN _)).oneB HI.out S1
    have hT : ToldAt w1 (w.heap.size + 1) := S2.told (HT0.out.fr ((Fr.refl (fun _ => False) w0).drewN _) (fun q => q))
    have t0 := hT.c0; have t1 := hT.c1; have t2 := hT.c2; have t3 := hT.c3; have z0 := hT.f 0; have z1 := hT.f 1; have z2 := hT.f 2; have z3 := hT.f 3
    have HT := Lib.hid hT
    have HS := Lib.hid S2
    have HR := Lib.hid hR
    clear hT S1 S2 hR
    simp only [Td.val, Td.cells]
    go_wp2_with fail
    refine bodyPost_ret (v := Td.val ⟨tn, tt, tc, ts⟩) (by simp [results, Tryz.results14, go_sem, t0, t1, t2, t3, Td.val, Td.cells]) rfl ?_
    exact ⟨g', rfl, HS.out.skip (HF0.out.drewN _) (by omega) HT.out (just4 _ _ _ _ _ _), HR.out⟩
end
end Go.Proofs.YtkggebhkjgjijaaGreatDoor
