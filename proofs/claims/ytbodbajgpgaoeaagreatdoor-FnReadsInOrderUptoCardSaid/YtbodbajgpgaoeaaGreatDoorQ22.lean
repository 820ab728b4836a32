/- SpecQ, SpecS, SpecU. -/
import Derived.Test.YtbodbajgpgaoeaaGreatDoorQ21
namespace Go.Proofs.YtbodbajgpgaoeaaGreatDoor
open Go Go.RowKit

set_option maxHeartbeats 1600000 in
set_option maxRecDepth 100000 in
theorem t_streams : TestOk 11 (fun c => decide (c.streams)) := by
  intro c w
  obtain ⟨op, a, bb, size, n, sign, char, text, cuts, ad, cap⟩ := c
  by_cases hop : op = 14 ∨ op = 17 ∨ op = 18 ∨ op = 19 ∨ op = 20 ∨ op = 26
  · have hr : decide ((Cl.mk op a bb size n sign char text cuts ad cap).streams) = true := decide_eq_true (.inl hop)
    simp only [Cl.val, Cl.cells]
    rw [hr]
    clear hr
    rcases hop with rfl | rfl | rfl | rfl | rfl | rfl
    all_goals
      go_enter Tryz.func11, Tryz.ntmps11
      go_wp2_with fail
      go_ret
      exact ⟨rfl, fr_one w _⟩
  · have n1 : (op == 14) = false := by simp; omega
    have n2 : (op == 17) = false := by simp; omega
    have n3 : (op == 18) = false := by simp; omega
    have n4 : (op == 19) = false := by simp; omega
    have n5 : (op == 20) = false := by simp; omega
    have n6 : (op == 26) = false := by simp; omega
    have tw := fun wx => t_writes ⟨op, a, bb, size, n, sign, char, text, cuts, ad, cap⟩ wx
    have tr := fun wx => t_reads ⟨op, a, bb, size, n, sign, char, text, cuts, ad, cap⟩ wx
    have tb := fun wx => t_back ⟨op, a, bb, size, n, sign, char, text, cuts, ad, cap⟩ wx
    have hst : decide ((Cl.mk op a bb size n sign char text cuts ad cap).streams) = (decide (op < 28) && decide ((Cl.mk op a bb size n sign char text cuts ad cap).writes) || decide ((Cl.mk op a bb size n sign char text cuts ad cap).isRead) || decide ((Cl.mk op a bb size n sign char text cuts ad cap).isBack)) := by
      by_cases q1 : op < 28 <;> by_cases q2 : (Cl.mk op a bb size n sign char text cuts ad cap).writes <;> by_cases q3 : (Cl.mk op a bb size n sign char text cuts ad cap).isRead <;> by_cases q4 : (Cl.mk op a bb size n sign char text cuts ad cap).isBack <;> simp [Cl.streams, q1, q2, q3, q4] <;> omega
    simp only [Cl.val, Cl.cells] at tw tr tb ⊢
    rw [hst]
    generalize decide ((Cl.mk op a bb size n sign char text cuts ad cap).writes) = bw at *
    generalize decide ((Cl.mk op a bb size n sign char text cuts ad cap).isRead) = br at *
    generalize decide ((Cl.mk op a bb size n sign char text cuts ad cap).isBack) = bk at *
    have TW := Lib.hid tw
    have TR := Lib.hid tr
    have TB := Lib.hid tb
    clear tw tr tb hst hop
    have hb := heap_alloc_new w (.cells #[.int .i64 op, .int .i64 a, .int .i64 bb, .int .u16 (size : Int), .int .i64 n, .int .u8 (sign.toNat : Int), .int .i32 char, .string ⟨text.toArray⟩, .slice ad cuts.length cap] 36)
    have HF0 := Lib.hid (fr_one w (.cells #[.int .i64 op, .int .i64 a, .int .i64 bb, .int .u16 (size : Int), .int .i64 n, .int .u8 (sign.toNat : Int), .int .i32 char, .string ⟨text.toArray⟩, .slice ad cuts.length cap] 36))
    by_cases hlt : op < 28
    · have q1 : op < 28 := hlt
      have q2 : decide (op < 28) = true := decide_eq_true hlt
      rw [q2]
      go_enter Tryz.func11, Tryz.ntmps11
      go_wp2_with fail
      refine (TW.out _).mono ?_
      rintro e w1 ⟨rfl, F1⟩
      have hb_w1 := F1.blk hb (fun q => q)
      have d0_w1 : w1.cell? ⟨w.heap.size, 0, none⟩ = some (.int .i64 op) := by rw [cell_of_row w1 _ 0 _ _ _ hb_w1]; rfl
      have d1_w1 : w1.cell? ⟨w.heap.size, 1, none⟩ = some (.int .i64 a) := by rw [cell_of_row w1 _ 1 _ _ _ hb_w1]; rfl
      have d2_w1 : w1.cell? ⟨w.heap.size, 2, none⟩ = some (.int .i64 bb) := by rw [cell_of_row w1 _ 2 _ _ _ hb_w1]; rfl
      have d3_w1 : w1.cell? ⟨w.heap.size, 3, none⟩ = some (.int .u16 (size : Int)) := by rw [cell_of_row w1 _ 3 _ _ _ hb_w1]; rfl
      have d4_w1 : w1.cell? ⟨w.heap.size, 4, none⟩ = some (.int .i64 n) := by rw [cell_of_row w1 _ 4 _ _ _ hb_w1]; rfl
      have d5_w1 : w1.cell? ⟨w.heap.size, 5, none⟩ = some (.int .u8 (sign.toNat : Int)) := by rw [cell_of_row w1 _ 5 _ _ _ hb_w1]; rfl
      have d6_w1 : w1.cell? ⟨w.heap.size, 6, none⟩ = some (.int .i32 char) := by rw [cell_of_row w1 _ 6 _ _ _ hb_w1]; rfl
      have d7_w1 : w1.cell? ⟨w.heap.size, 7, none⟩ = some (.string ⟨text.toArray⟩) := by rw [cell_of_row w1 _ 7 _ _ _ hb_w1]; rfl
      have d8_w1 : w1.cell? ⟨w.heap.size, 8, none⟩ = some (.slice ad cuts.length cap) := by rw [cell_of_row w1 _ 8 _ _ _ hb_w1]; rfl
      have HF1 := Lib.hid F1
      clear F1
      cases bw with
      | true =>
        go_wp2_with fail
        go_ret
        exact ⟨by simp, HF0.out.trans HF1.out⟩
      | false =>
        go_wp2_with fail
        refine (TR.out _).mono ?_
        rintro e w2 ⟨rfl, F2⟩
        have hb_w2 := F2.blk hb_w1 (fun q => q)
        have d0_w2 : w2.cell? ⟨w.heap.size, 0, none⟩ = some (.int .i64 op) := by rw [cell_of_row w2 _ 0 _ _ _ hb_w2]; rfl
        have d1_w2 : w2.cell? ⟨w.heap.size, 1, none⟩ = some (.int .i64 a) := by rw [cell_of_row w2 _ 1 _ _ _ hb_w2]; rfl
        have d2_w2 : w2.cell? ⟨w.heap.size, 2, none⟩ = some (.int .i64 bb) := by rw [cell_of_row w2 _ 2 _ _ _ hb_w2]; rfl
        have d3_w2 : w2.cell? ⟨w.heap.size, 3, none⟩ = some (.int .u16 (size : Int)) := by rw [cell_of_row w2 _ 3 _ _ _ hb_w2]; rfl
        have d4_w2 : w2.cell? ⟨w.heap.size, 4, none⟩ = some (.int .i64 n) := by rw [cell_of_row w2 _ 4 _ _ _ hb_w2]; rfl
        have d5_w2 : w2.cell? ⟨w.heap.size, 5, none⟩ = some (.int .u8 (sign.toNat : Int)) := by rw [cell_of_row w2 _ 5 _ _ _ hb_w2]; rfl
        have d6_w2 : w2.cell? ⟨w.heap.size, 6, none⟩ = some (.int .i32 char) := by rw [cell_of_row w2 _ 6 _ _ _ hb_w2]; rfl
        have d7_w2 : w2.cell? ⟨w.heap.size, 7, none⟩ = some (.string ⟨text.toArray⟩) := by rw [cell_of_row w2 _ 7 _ _ _ hb_w2]; rfl
        have d8_w2 : w2.cell? ⟨w.heap.size, 8, none⟩ = some (.slice ad cuts.length cap) := by rw [cell_of_row w2 _ 8 _ _ _ hb_w2]; rfl
        have HF2 := Lib.hid F2
        clear F2
        cases br with
        | true =>
          go_wp2_with fail
          go_ret
          exact ⟨by simp, (HF0.out.trans HF1.out).trans HF2.out⟩
        | false =>
          go_wp2_with fail
          refine (TB.out _).mono ?_
          rintro e w3 ⟨rfl, F3⟩
          have hb_w3 := F3.blk hb_w2 (fun q => q)
          have d0_w3 : w3.cell? ⟨w.heap.size, 0, none⟩ = some (.int .i64 op) := by rw [cell_of_row w3 _ 0 _ _ _ hb_w3]; rfl
          have d1_w3 : w3.cell? ⟨w.heap.size, 1, none⟩ = some (.int .i64 a) := by rw [cell_of_row w3 _ 1 _ _ _ hb_w3]; rfl
          have d2_w3 : w3.cell? ⟨w.heap.size, 2, none⟩ = some (.int .i64 bb) := by rw [cell_of_row w3 _ 2 _ _ _ hb_w3]; rfl
          have d3_w3 : w3.cell? ⟨w.heap.size, 3, none⟩ = some (.int .u16 (size : Int)) := by rw [cell_of_row w3 _ 3 _ _ _ hb_w3]; rfl
          have d4_w3 : w3.cell? ⟨w.heap.size, 4, none⟩ = some (.int .i64 n) := by rw [cell_of_row w3 _ 4 _ _ _ hb_w3]; rfl
          have d5_w3 : w3.cell? ⟨w.heap.size, 5, none⟩ = some (.int .u8 (sign.toNat : Int)) := by rw [cell_of_row w3 _ 5 _ _ _ hb_w3]; rfl
          have d6_w3 : w3.cell? ⟨w.heap.size, 6, none⟩ = some (.int .i32 char) := by rw [cell_of_row w3 _ 6 _ _ _ hb_w3]; rfl
          have d7_w3 : w3.cell? ⟨w.heap.size, 7, none⟩ = some (.string ⟨text.toArray⟩) := by rw [cell_of_row w3 _ 7 _ _ _ hb_w3]; rfl
          have d8_w3 : w3.cell? ⟨w.heap.size, 8, none⟩ = some (.slice ad cuts.length cap) := by rw [cell_of_row w3 _ 8 _ _ _ hb_w3]; rfl
          have HF3 := Lib.hid F3
          clear F3
          go_wp2_with fail
          go_ret
          exact ⟨by simp, ((HF0.out.trans HF1.out).trans HF2.out).trans HF3.out⟩
    · have q1 : ¬ op < 28 := hlt
      have q2 : decide (op < 28) = false := decide_eq_false hlt
      rw [q2]
      go_enter Tryz.func11, Tryz.ntmps11
      go_wp2_with fail
      refine (TR.out _).mono ?_
      rintro e w2 ⟨rfl, F2⟩
      have hb_w2 := F2.blk hb (fun q => q)
      have d0_w2 : w2.cell? ⟨w.heap.size, 0, none⟩ = some (.int .i64 op) := by rw [cell_of_row w2 _ 0 _ _ _ hb_w2]; rfl
      have d1_w2 : w2.cell? ⟨w.heap.size, 1, none⟩ = some (.int .i64 a) := by rw [cell_of_row w2 _ 1 _ _ _ hb_w2]; rfl
      have d2_w2 : w2.cell? ⟨w.heap.size, 2, none⟩ = some (.int .i64 bb) := by rw [cell_of_row w2 _ 2 _ _ _ hb_w2]; rfl
      have d3_w2 : w2.cell? ⟨w.heap.size, 3, none⟩ = some (.int .u16 (size : Int)) := by rw [cell_of_row w2 _ 3 _ _ _ hb_w2]; rfl
      have d4_w2 : w2.cell? ⟨w.heap.size, 4, none⟩ = some (.int .i64 n) := by rw [cell_of_row w2 _ 4 _ _ _ hb_w2]; rfl
      have d5_w2 : w2.cell? ⟨w.heap.size, 5, none⟩ = some (.int .u8 (sign.toNat : Int)) := by rw [cell_of_row w2 _ 5 _ _ _ hb_w2]; rfl
      have d6_w2 : w2.cell? ⟨w.heap.size, 6, none⟩ = some (.int .i32 char) := by rw [cell_of_row w2 _ 6 _ _ _ hb_w2]; rfl
      have d7_w2 : w2.cell? ⟨w.heap.size, 7, none⟩ = some (.string ⟨text.toArray⟩) := by rw [cell_of_row w2 _ 7 _ _ _ hb_w2]; rfl
      have d8_w2 : w2.cell? ⟨w.heap.size, 8, none⟩ = some (.slice ad cuts.length cap) := by rw [cell_of_row w2 _ 8 _ _ _ hb_w2]; rfl
      have HF2 := Lib.hid F2
      clear F2
      cases br with
      | true =>
        go_wp2_with fail
        go_ret
        exact ⟨by simp, (HF0.out).trans HF2.out⟩
      | false =>
        go_wp2_with fail
        refine (TB.out _).mono ?_
        rintro e w3 ⟨rfl, F3⟩
        have hb_w3 := F3.blk hb_w2 (fun q => q)
        have d0_w3 : w3.cell? ⟨w.heap.size, 0, none⟩ = some (.int .i64 op) := by rw [cell_of_row w3 _ 0 _ _ _ hb_w3]; rfl
        have d1_w3 : w3.cell? ⟨w.heap.size, 1, none⟩ = some (.int .i64 a) := by rw [cell_of_row w3 _ 1 _ _ _ hb_w3]; rfl
        have d2_w3 : w3.cell? ⟨w.heap.size, 2, none⟩ = some (.int .i64 bb) := by rw [cell_of_row w3 _ 2 _ _ _ hb_w3]; rfl
        have d3_w3 : w3.cell? ⟨w.heap.size, 3, none⟩ = some (.int .u16 (size : Int)) := by rw [cell_of_row w3 _ 3 _ _ _ hb_w3]; rfl
        have d4_w3 : w3.cell? ⟨w.heap.size, 4, none⟩ = some (.int .i64 n) := by rw [cell_of_row w3 _ 4 _ _ _ hb_w3]; rfl
        have d5_w3 : w3.cell? ⟨w.heap.size, 5, none⟩ = some (.int .u8 (sign.toNat : Int)) := by rw [cell_of_row w3 _ 5 _ _ _ hb_w3]; rfl
        have d6_w3 : w3.cell? ⟨w.heap.size, 6, none⟩ = some (.int .i32 char) := by rw [cell_of_row w3 _ 6 _ _ _ hb_w3]; rfl
        have d7_w3 : w3.cell? ⟨w.heap.size, 7, none⟩ = some (.string ⟨text.toArray⟩) := by rw [cell_of_row w3 _ 7 _ _ _ hb_w3]; rfl
        have d8_w3 : w3.cell? ⟨w.heap.size, 8, none⟩ = some (.slice ad cuts.length cap) := by rw [cell_of_row w3 _ 8 _ _ _ hb_w3]; rfl
        have HF3 := Lib.hid F3
        clear F3
        go_wp2_with fail
        go_ret
        exact ⟨by simp, ((HF0.out).trans HF2.out).trans HF3.out⟩
set_option maxHeartbeats 1600000 in
set_option maxRecDepth 100000 in
theorem t_earlier : TestOk 29 (fun c => decide (c.op < 28 ∧ c.writes ∨ c.isRead)) := by
  intro c w
  obtain ⟨op, a, bb, size, n, sign, char, text, cuts, ad, cap⟩ := c
  · have tw := fun wx => t_writes ⟨op, a, bb, size, n, sign, char, text, cuts, ad, cap⟩ wx
    have tr := fun wx => t_reads ⟨op, a, bb, size, n, sign, char, text, cuts, ad, cap⟩ wx
    have hst : decide ((Cl.mk op a bb size n sign char text cuts ad cap).op < 28 ∧ (Cl.mk op a bb size n sign char text cuts ad cap).writes ∨ (Cl.mk op a bb size n sign char text cuts ad cap).isRead) = (decide (op < 28) && decide ((Cl.mk op a bb size n sign char text cuts ad cap).writes) || decide ((Cl.mk op a bb size n sign char text cuts ad cap).isRead)) := by
      by_cases q1 : op < 28 <;> by_cases q2 : (Cl.mk op a bb size n sign char text cuts ad cap).writes <;> by_cases q3 : (Cl.mk op a bb size n sign char text cuts ad cap).isRead <;> simp [q1, q2, q3]
    simp only [Cl.val, Cl.cells] at tw tr ⊢
    rw [hst]
    generalize decide ((Cl.mk op a bb size n sign char text cuts ad cap).writes) = bw at *
    generalize decide ((Cl.mk op a bb size n sign char text cuts ad cap).isRead) = br at *
    have TW := Lib.hid tw
    have TR := Lib.hid tr
    clear tw tr hst
    have hb := heap_alloc_new w (.cells #[.int .i64 op, .int .i64 a, .int .i64 bb, .int .u16 (size : Int), .int .i64 n, .int .u8 (sign.toNat : Int), .int .i32 char, .string ⟨text.toArray⟩, .slice ad cuts.length cap] 36)
    have HF0 := Lib.hid (fr_one w (.cells #[.int .i64 op, .int .i64 a, .int .i64 bb, .int .u16 (size : Int), .int .i64 n, .int .u8 (sign.toNat : Int), .int .i32 char, .string ⟨text.toArray⟩, .slice ad cuts.length cap] 36))
    by_cases hlt : op < 28
    · have q1 : op < 28 := hlt
      have q2 : decide (op < 28) = true := decide_eq_true hlt
      rw [q2]
      go_enter Tryz.func29, Tryz.ntmps29
      go_wp2_with fail
      refine (TW.out _).mono ?_
      rintro e w1 ⟨rfl, F1⟩
      have hb_w1 := F1.blk hb (fun q => q)
      have d0_w1 : w1.cell? ⟨w.heap.size, 0, none⟩ = some (.int .i64 op) := by rw [cell_of_row w1 _ 0 _ _ _ hb_w1]; rfl
      have d1_w1 : w1.cell? ⟨w.heap.size, 1, none⟩ = some (.int .i64 a) := by rw [cell_of_row w1 _ 1 _ _ _ hb_w1]; rfl
      have d2_w1 : w1.cell? ⟨w.heap.size, 2, none⟩ = some (.int .i64 bb) := by rw [cell_of_row w1 _ 2 _ _ _ hb_w1]; rfl
      have d3_w1 : w1.cell? ⟨w.heap.size, 3, none⟩ = some (.int .u16 (size : Int)) := by rw [cell_of_row w1 _ 3 _ _ _ hb_w1]; rfl
      have d4_w1 : w1.cell? ⟨w.heap.size, 4, none⟩ = some (.int .i64 n) := by rw [cell_of_row w1 _ 4 _ _ _ hb_w1]; rfl
      have d5_w1 : w1.cell? ⟨w.heap.size, 5, none⟩ = some (.int .u8 (sign.toNat : Int)) := by rw [cell_of_row w1 _ 5 _ _ _ hb_w1]; rfl
      have d6_w1 : w1.cell? ⟨w.heap.size, 6, none⟩ = some (.int .i32 char) := by rw [cell_of_row w1 _ 6 _ _ _ hb_w1]; rfl
      have d7_w1 : w1.cell? ⟨w.heap.size, 7, none⟩ = some (.string ⟨text.toArray⟩) := by rw [cell_of_row w1 _ 7 _ _ _ hb_w1]; rfl
      have d8_w1 : w1.cell? ⟨w.heap.size, 8, none⟩ = some (.slice ad cuts.length cap) := by rw [cell_of_row w1 _ 8 _ _ _ hb_w1]; rfl
      have HF1 := Lib.hid F1
      clear F1
      cases bw with
      | true =>
        go_wp2_with fail
        go_ret
        exact ⟨by simp, HF0.out.trans HF1.out⟩
      | false =>
        go_wp2_with fail
        refine (TR.out _).mono ?_
        rintro e w2 ⟨rfl, F2⟩
        have hb_w2 := F2.blk hb_w1 (fun q => q)
        have d0_w2 : w2.cell? ⟨w.heap.size, 0, none⟩ = some (.int .i64 op) := by rw [cell_of_row w2 _ 0 _ _ _ hb_w2]; rfl
        have d1_w2 : w2.cell? ⟨w.heap.size, 1, none⟩ = some (.int .i64 a) := by rw [cell_of_row w2 _ 1 _ _ _ hb_w2]; rfl
        have d2_w2 : w2.cell? ⟨w.heap.size, 2, none⟩ = some (.int .i64 bb) := by rw [cell_of_row w2 _ 2 _ _ _ hb_w2]; rfl
        have d3_w2 : w2.cell? ⟨w.heap.size, 3, none⟩ = some (.int .u16 (size : Int)) := by rw [cell_of_row w2 _ 3 _ _ _ hb_w2]; rfl
        have d4_w2 : w2.cell? ⟨w.heap.size, 4, none⟩ = some (.int .i64 n) := by rw [cell_of_row w2 _ 4 _ _ _ hb_w2]; rfl
        have d5_w2 : w2.cell? ⟨w.heap.size, 5, none⟩ = some (.int .u8 (sign.toNat : Int)) := by rw [cell_of_row w2 _ 5 _ _ _ hb_w2]; rfl
        have d6_w2 : w2.cell? ⟨w.heap.size, 6, none⟩ = some (.int .i32 char) := by rw [cell_of_row w2 _ 6 _ _ _ hb_w2]; rfl
        have d7_w2 : w2.cell? ⟨w.heap.size, 7, none⟩ = some (.string ⟨text.toArray⟩) := by rw [cell_of_row w2 _ 7 _ _ _ hb_w2]; rfl
        have d8_w2 : w2.cell? ⟨w.heap.size, 8, none⟩ = some (.slice ad cuts.length cap) := by rw [cell_of_row w2 _ 8 _ _ _ hb_w2]; rfl
        have HF2 := Lib.hid F2
        clear F2
        go_wp2_with fail
        go_ret
        exact ⟨by simp, (HF0.out.trans HF1.out).trans HF2.out⟩
    · have q1 : ¬ op < 28 := hlt
      have q2 : decide (op < 28) = false := decide_eq_false hlt
      rw [q2]
      go_enter Tryz.func29, Tryz.ntmps29
      go_wp2_with fail
      refine (TR.out _).mono ?_
      rintro e w2 ⟨rfl, F2⟩
      have hb_w2 := F2.blk hb (fun q => q)
      have d0_w2 : w2.cell? ⟨w.heap.size, 0, none⟩ = some (.int .i64 op) := by rw [cell_of_row w2 _ 0 _ _ _ hb_w2]; rfl
      have d1_w2 : w2.cell? ⟨w.heap.size, 1, none⟩ = some (.int .i64 a) := by rw [cell_of_row w2 _ 1 _ _ _ hb_w2]; rfl
      have d2_w2 : w2.cell? ⟨w.heap.size, 2, none⟩ = some (.int .i64 bb) := by rw [cell_of_row w2 _ 2 _ _ _ hb_w2]; rfl
      have d3_w2 : w2.cell? ⟨w.heap.size, 3, none⟩ = some (.int .u16 (size : Int)) := by rw [cell_of_row w2 _ 3 _ _ _ hb_w2]; rfl
      have d4_w2 : w2.cell? ⟨w.heap.size, 4, none⟩ = some (.int .i64 n) := by rw [cell_of_row w2 _ 4 _ _ _ hb_w2]; rfl
      have d5_w2 : w2.cell? ⟨w.heap.size, 5, none⟩ = some (.int .u8 (sign.toNat : Int)) := by rw [cell_of_row w2 _ 5 _ _ _ hb_w2]; rfl
      have d6_w2 : w2.cell? ⟨w.heap.size, 6, none⟩ = some (.int .i32 char) := by rw [cell_of_row w2 _ 6 _ _ _ hb_w2]; rfl
      have d7_w2 : w2.cell? ⟨w.heap.size, 7, none⟩ = some (.string ⟨text.toArray⟩) := by rw [cell_of_row w2 _ 7 _ _ _ hb_w2]; rfl
      have d8_w2 : w2.cell? ⟨w.heap.size, 8, none⟩ = some (.slice ad cuts.length cap) := by rw [cell_of_row w2 _ 8 _ _ _ hb_w2]; rfl
      have HF2 := Lib.hid F2
      clear F2
      go_wp2_with fail
      go_ret
      exact ⟨by simp, (HF0.out).trans HF2.out⟩
def TextPost (w : World) (c : Cl) (e : Ending) (w' : World) : Prop := e = .returned (.string ⟨(textF c).toArray⟩) ∧ Fr (fun _ => False) w w'
set_option maxHeartbeats 1600000 in
set_option maxRecDepth 100000 in
theorem textOf_any (c : Cl) (w : World) : Calls Tryz.prog 14 #[c.val] w (TextPost w c) := by
  obtain ⟨op, a, bb, size, n, sign, char, text, cuts, ad, cap⟩ := c
  unfold TextPost
  by_cases h3 : op = 3 ∨ op = 30
  · have e : textF ⟨op, a, bb, size, n, sign, char, text, cuts, ad, cap⟩ = [sign] := by unfold textF; rw [if_pos h3]
    rw [e]
    clear e
    simp only [Cl.val, Cl.cells]
    rcases h3 with rfl | rfl
    · have hcv := conv_sign (w.alloc (.cells #[.int .i64 3, .int .i64 a, .int .i64 bb, .int .u16 (size : Int), .int .i64 n, .int .u8 (sign.toNat : Int), .int .i32 char, .string ⟨text.toArray⟩, .slice ad cuts.length cap] 36)) sign
      simp only [World.size_alloc] at hcv
      go_enter Tryz.func14, Tryz.ntmps14
      go_wp2_with fail
      go_ret
      exact ⟨rfl, (fr_one w _).alloc _⟩
    · have hcv := conv_sign (w.alloc (.cells #[.int .i64 30, .int .i64 a, .int .i64 bb, .int .u16 (size : Int), .int .i64 n, .int .u8 (sign.toNat : Int), .int .i32 char, .string ⟨text.toArray⟩, .slice ad cuts.length cap] 36)) sign
      simp only [World.size_alloc] at hcv
      go_enter Tryz.func14, Tryz.ntmps14
      go_wp2_with fail
      go_ret
      exact ⟨rfl, (fr_one w _).alloc _⟩
  by_cases h4 : op = 4 ∨ op = 31
  · have e : textF ⟨op, a, bb, size, n, sign, char, text, cuts, ad, cap⟩ = enc char := by unfold textF; rw [if_neg h3, if_pos h4]
    rw [e]
    clear e
    simp only [Cl.val, Cl.cells]
    have n1 : (op == 3) = false := by simp; omega
    have n2 : (op == 30) = false := by simp; omega
    clear h3
    have HEN := Lib.hid (encode_any char)
    rcases h4 with rfl | rfl
    · go_enter Tryz.func14, Tryz.ntmps14
      go_wp2_with fail
      refine (HEN.out _).mono ?_
      rintro e w1 ⟨rfl, F1⟩
      have HF1 := Lib.hid F1
      clear F1
      go_wp2_with fail
      go_ret
      exact ⟨rfl, (fr_one w _).trans HF1.out⟩
    · go_enter Tryz.func14, Tryz.ntmps14
      go_wp2_with fail
      refine (HEN.out _).mono ?_
      rintro e w1 ⟨rfl, F1⟩
      have HF1 := Lib.hid F1
      clear F1
      go_wp2_with fail
      go_ret
      exact ⟨rfl, (fr_one w _).trans HF1.out⟩
  · have e : textF ⟨op, a, bb, size, n, sign, char, text, cuts, ad, cap⟩ = text := by unfold textF; rw [if_neg h3, if_neg h4]
    rw [e]
    clear e
    simp only [Cl.val, Cl.cells]
    have n1 : (op == 3) = false := by simp; omega
    have n2 : (op == 30) = false := by simp; omega
    have n3 : (op == 4) = false := by simp; omega
    have n4 : (op == 31) = false := by simp; omega
    clear h3 h4
    go_enter Tryz.func14, Tryz.ntmps14
    go_wp2_with fail
    go_ret
    exact ⟨rfl, fr_one w _⟩
instance (c : Cl) : Decidable c.valid := by unfold Cl.valid; infer_instance
set_option maxHeartbeats 1600000 in
set_option maxRecDepth 100000 in
theorem t_valid : TestOk 18 (fun c => decide (c.valid)) := by
  intro c w
  have ht := fun wx => textOf_any c wx
  obtain ⟨op, a, bb, size, n, sign, char, text, cuts, ad, cap⟩ := c
  by_cases h4 : op = 4 ∨ op = 31
  · have e : textF ⟨op, a, bb, size, n, sign, char, text, cuts, ad, cap⟩ = enc char := by unfold textF; rw [if_neg (show ¬ (op = 3 ∨ op = 30) by omega), if_pos (show op = 4 ∨ op = 31 from h4)]
    unfold TextPost at ht
    rw [e] at ht
    have hv : decide ((Cl.mk op a bb size n sign char text cuts ad cap).valid) = !(enc char).isEmpty := by
      unfold Cl.valid
      simp only [h4]
      cases enc char <;> simp
    simp only [Cl.val, Cl.cells] at ht ⊢
    rw [hv]
    generalize enc char = el at *
    have HT := Lib.hid ht
    clear ht e hv
    rcases h4 with rfl | rfl
    · go_enter Tryz.func18, Tryz.ntmps18
      go_wp2_with fail
      refine (HT.out _).mono ?_
      rintro e w1 ⟨rfl, F1⟩
      have HF1 := Lib.hid F1
      clear F1
      go_wp2_with fail
      go_ret
      exact ⟨rfl, (fr_one w _).trans HF1.out⟩
    · go_enter Tryz.func18, Tryz.ntmps18
      go_wp2_with fail
      refine (HT.out _).mono ?_
      rintro e w1 ⟨rfl, F1⟩
      have HF1 := Lib.hid F1
      clear F1
      go_wp2_with fail
      go_ret
      exact ⟨rfl, (fr_one w _).trans HF1.out⟩
  · have hv : decide ((Cl.mk op a bb size n sign char text cuts ad cap).valid) = true := decide_eq_true (fun q => absurd q h4)
    simp only [Cl.val, Cl.cells]
    rw [hv]
    have n3 : (op != 4) = true := by simp; omega
    have n4 : (op != 31) = true := by simp; omega
    clear h4 hv ht
    go_enter Tryz.func18, Tryz.ntmps18
    go_wp2_with fail
    go_ret
    exact ⟨rfl, fr_one w _⟩
set_option maxHeartbeats 1600000 in
set_option maxRecDepth 100000 in
theorem long_1 (g : Nat) (A : Option Addr) (n c : Nat) (w : World) (h : w.cell? ⟨g, 0, none⟩ = some (.slice A n c)) (hn : n ≤ 4294967296) :
    Calls Tryz.prog 9 #[.slice (some ⟨g, 0, none⟩) 1 1] w fun e w' => e = .returned (.bool (decide (4096 < n))) ∧ w' = w := by
  have hz : decide (4096 < n) = decide ((4096 : Int) < (n : Int)) := by by_cases q : 4096 < n <;> simp [q] <;> omega
  rw [hz]
  clear hz
  have hw1 : IntKind.i64.wrap (n : Int) = (n : Int) := IntWalk.i64_in _ (by omega)
  go_enter Tryz.func9, Tryz.ntmps9
  go_wp2_with fail
  go_loop [3, 8] (fun v3 v8 => (v8 = .int .i64 0 ∧ v3 = .int .i64 0) ∨ (v8 = .int .i64 1 ∧ v3 = .int .i64 (n : Int))) (fun _ v8 => 1 - (intOf v8).toNat)
  case atStart => exact .inl ⟨rfl, rfl⟩
  case round =>
    rcases hrel with ⟨rfl, rfl⟩ | ⟨rfl, rfl⟩
    · go_wp2_with fail
      go_round
      case rel => exact .inr ⟨rfl, rfl⟩
      case measure => simp [intOf]
    · go_wp2_with fail
      go_ret
      exact ⟨rfl, rfl⟩
set_option maxHeartbeats 1600000 in
set_option maxRecDepth 100000 in
theorem long_2 (g : Nat) (A : Option Addr) (n c : Nat) (B : Option Addr) (m d : Nat) (w : World) (h : w.cell? ⟨g, 0, none⟩ = some (.slice A n c)) (h2 : w.cell? ⟨g, 1, none⟩ = some (.slice B m d)) (hn : n ≤ 4294967296) (hm : m ≤ 4294967296) :
    Calls Tryz.prog 9 #[.slice (some ⟨g, 0, none⟩) 2 2] w fun e w' => e = .returned (.bool (decide (4096 < n + m))) ∧ w' = w := by
  have hz : decide (4096 < n + m) = decide ((4096 : Int) < (n : Int) + (m : Int)) := by by_cases q : 4096 < n + m <;> simp [q] <;> omega
  rw [hz]
  clear hz
  have hw1 : IntKind.i64.wrap (n : Int) = (n : Int) := IntWalk.i64_in _ (by omega)
  have hw2 : IntKind.i64.wrap ((n : Int) + (m : Int)) = (n : Int) + (m : Int) := IntWalk.i64_in _ (by omega)
  go_enter Tryz.func9, Tryz.ntmps9
  go_wp2_with fail
  go_loop [3, 8] (fun v3 v8 => (v8 = .int .i64 0 ∧ v3 = .int .i64 0) ∨ (v8 = .int .i64 1 ∧ v3 = .int .i64 (n : Int)) ∨ (v8 = .int .i64 2 ∧ v3 = .int .i64 ((n : Int) + (m : Int)))) (fun _ v8 => 2 - (intOf v8).toNat)
  case atStart => exact .inl ⟨rfl, rfl⟩
  case round =>
    rcases hrel with ⟨rfl, rfl⟩ | ⟨rfl, rfl⟩ | ⟨rfl, rfl⟩
    · go_wp2_with fail
      go_round
      case rel => exact .inr (.inl ⟨rfl, rfl⟩)
      case measure => simp [intOf]
    · go_wp2_with fail
      go_round
      case rel => exact .inr (.inr ⟨rfl, rfl⟩)
      case measure => simp [intOf]
    · go_wp2_with fail
      go_ret
      exact ⟨rfl, rfl⟩
end Go.Proofs.YtbodbajgpgaoeaaGreatDoor

namespace Go.Proofs.YtbodbajgpgaoeaaGreatDoor
open Go Go.RowKit

/-- Where Calm stands, in a script of one buffer. -/
def InvB (y : Yd) (l : List Cl) : Prop := ∃ b, y = yd1 b ∧ b.good ∧ (∀ c ∈ l, c.first ∧ c.size ≤ 65535) ∧ b.text.length + wsum l + 16 ≤ 1099511627776
theorem yd1_step (b : SB) (c : Cl) (hc : c.first) (hg : b.good) : ∃ b', ((yd1 b).do c).1 = yd1 b' ∧ b'.good ∧ b'.text.length ≤ b.text.length + c.text.length + 4 := by
  obtain ⟨ha, hop⟩ := hc
  by_cases h1 : c.op < 1
  · exact ⟨b, by rw [yd1_do0 b c h1], hg, by omega⟩
  by_cases h2 : c.op < 23
  · exact ⟨(b.do c).1, by rw [yd1_do b c ha (by omega) h2], good_do hg c, (b.do_len c hg.l2).1⟩
  by_cases h26 : c.op = 26
  · rw [yd1_drain b c ha h26]
    split
    · exact ⟨b, rfl, hg, by omega⟩
    · exact ⟨b.other [], rfl, good_other _ _, by simp [SB.other]⟩
  · rw [yd1_fill b c ha (by omega)]
    exact ⟨_, rfl, good_other _ _, by simp [SB.other]⟩
theorem stepB : StepOk InvB := by
  intro y c l h
  obtain ⟨b, rfl, hg, hc, hl⟩ := h
  have hcc := hc c (by simp)
  rw [wsum_cons] at hl
  obtain ⟨b', e, hg', hl'⟩ := yd1_step b c hcc.1 hg
  have hrest : ∀ d ∈ l, d.first ∧ d.size ≤ 65535 := fun d hd => hc d (by simp [hd])
  refine ⟨⟨b, rfl, hg, hrest, by omega⟩, ⟨b', e, hg', hrest, by omega⟩, fun q => by simp [yd1] at q, fun _ => by rw [e]; rfl, ?_⟩
  intro A1 n1 c1 A2 n2 c2 wx hY
  have h1 := hY.l1
  have h2 := hY.l2
  simp only [yd1, List.length_cons, List.length_nil] at h1 h2
  subst h1 h2
  exact sp_Do b c A1 c1 A2 c2 wx hY hcc.1 hg (by omega) hcc.2
/-- The buffer that a law begins with. -/
def b0 (s : St) : SB := ⟨s.text, if s.way = 2 then 4 else 0, [], false⟩
theorem begin_b0 (s : St) : Yd.begin [s] 0 = yd1 (b0 s) := rfl
theorem b0_good (s : St) : (b0 s).good := ⟨fun q => by simp only [b0] at q; split at q <;> omega, by simp [b0]⟩
/-- What is known of the calls that a law is given. -/
structure CallsOk (w : World) (cs : List Cl) : Prop where
  ok : ∀ c ∈ cs, ClOk w c
  sz : wsum cs ≤ 549755813888
  few : cs.length ≤ 1073741824
theorem CallsOk.fr {w w' : World} {cs : List Cl} (h : CallsOk w cs) (hf : Fr (fun _ => False) w w') : CallsOk w' cs := ⟨fun c hc => (h.ok c hc).fr hf, h.sz, h.few⟩
theorem wsum_keep (keep : Cl → Bool) : ∀ cs : List Cl, wsum (keepF keep cs) ≤ wsum cs
  | [] => Nat.le_refl _
  | c :: cs => by
    have h := wsum_keep keep cs
    have e : c.at0.text = c.text := rfl
    simp only [keepF, List.map_cons, List.filter_cons] at h ⊢
    split
    · rw [wsum_cons, wsum_cons, e]
      omega
    · rw [wsum_cons]
      omega
theorem keep_mem {keep : Cl → Bool} {cs : List Cl} {c : Cl} (h : c ∈ keepF keep cs) : ∃ d ∈ cs, c = d.at0 ∧ keep c = true := by
  obtain ⟨h1, h2⟩ := List.mem_filter.1 h
  obtain ⟨d, hd, rfl⟩ := List.mem_map.1 h1
  exact ⟨d, hd, rfl, h2⟩
/-- A test that keeps calls of one buffer that the laws play. -/
def KeepFirst (keep : Cl → Bool) : Prop := ∀ c : Cl, c.a = 0 → keep c = true → c.first
theorem keep_inv {keep : Cl → Bool} (hk : KeepFirst keep) {w : World} {cs : List Cl} (h : CallsOk w cs) (s : St) (hs : s.text.length ≤ 549755813000) : InvB (Yd.begin [s] 0) (keepF keep cs) := by
  refine ⟨b0 s, rfl, b0_good s, fun c hc => ?_, ?_⟩
  · obtain ⟨d, hd, rfl, hkk⟩ := keep_mem hc
    exact ⟨hk _ rfl hkk, (h.ok d hd).size⟩
  · have := wsum_keep keep cs
    have := h.sz
    show s.text.length + _ + 16 ≤ _
    omega
/-- A script of one buffer that may be played. -/
structure Play1 (w : World) (s : St) (l : List Cl) : Prop where
  mild : Mild (yd1 (b0 s)) l
  first : ∀ c ∈ l, c.first
  ok : ∀ c ∈ l, ClOk w c
  sz : s.text.length + wsum l + 66000 ≤ 1099511627776
  few : l.length ≤ 4294967296
theorem Play1.fr {w w' : World} {s : St} {l : List Cl} (h : Play1 w s l) (hf : Fr (fun _ => False) w w') : Play1 w' s l := ⟨h.mild, h.first, fun c hc => (h.ok c hc).fr hf, h.sz, h.few⟩
theorem calm_play {keep : Cl → Bool} (hk : KeepFirst keep) {w : World} {cs : List Cl} (h : CallsOk w cs) (s : St) (hs : s.text.length ≤ 549755700000) : Play1 w s (calmF (Yd.begin [s] 0) (keepF keep cs)) ∧ wsum (calmF (Yd.begin [s] 0) (keepF keep cs)) ≤ wsum cs ∧ (calmF (Yd.begin [s] 0) (keepF keep cs)).length ≤ cs.length := by
  have h1 := calm_mild (keepF keep cs) (Yd.begin [s] 0)
  have h2 := wsum_calm (keepF keep cs) (Yd.begin [s] 0)
  have h3 := wsum_keep keep cs
  have h4 := calm_len (keepF keep cs) (Yd.begin [s] 0)
  have h5 : (keepF keep cs).length ≤ cs.length := by have := keep_len keep cs cs.length; rwa [List.take_length] at this
  have h6 := h.sz
  have h7 := h.few
  refine ⟨⟨h1, fun c hc => ?_, fun c hc => ?_, by omega, by omega⟩, by omega, by omega⟩
  · obtain ⟨d, hd, rfl, hkk⟩ := keep_mem (calm_mem _ _ c hc)
    exact hk _ rfl hkk
  · obtain ⟨d, hd, rfl, hkk⟩ := keep_mem (calm_mem _ _ c hc)
    have := h.ok d hd
    exact ⟨this.size, this.cuts, this.few, this.text⟩
theorem first_plays {c : Cl} (h : c.first) : c.plays := by
  have := h.2
  unfold Cl.plays
  omega
theorem first_there {c : Cl} (h : c.first) (b : SB) : c.there (yd1 b) := by
  have := h.2
  unfold Cl.there
  rw [if_neg (by omega), h.1]
  exact ⟨⟨by omega, by simp [yd1]⟩, fun q => by omega⟩
/-- What Run returns of a script of one buffer. -/
def Run1Post (w : World) (s : St) (l : List Cl) (e : Ending) (w' : World) : Prop :=
  ∃ A1 c1 A2 c2 A3 n3 c3 fin, e = .returned (.tuple #[.slice A1 l.length c1, .slice A2 1 c2, .slice A3 n3 c3]) ∧ (runF (yd1 (b0 s)) l).2.texts = [fin] ∧ (runF (yd1 (b0 s)) l).1.length = l.length ∧ Reads Td.cells 4 w' A1 (runF (yd1 (b0 s)) l).1 ∧ Reads strC 1 w' A2 [fin] ∧ Fr (fun _ => False) w w' ∧ l.length ≤ c1 ∧ (∀ r o, A1 = some ⟨r, o, none⟩ → w.heap.size ≤ r) ∧ (∀ r o, A2 = some ⟨r, o, none⟩ → w.heap.size ≤ r)
theorem run1_any (s : St) (l : List Cl) (A A' : Option Addr) (c c' : Nat) (ea eu : Addr) (w : World) (hR : Reads St.cells 3 w A [s]) (hs : s.text.length ≤ 1099511627776 ∧ s.space ≤ 65535) (hC : Reads Cl.cells 9 w A' l) (hP : Play1 w s l) (hG : Gl w.heap.size ea eu w) :
    Calls Tryz.prog 12 #[.slice A 1 c, .int .u8 0, .slice A' l.length c'] w (Run1Post w s l) := by
  have hrun := run_any [s] 0 A c l A' c' ea eu w hR (fun x hx => by simp at hx; subst hx; exact hs) (by simp) (by omega) hC ⟨hP.ok, fun x hx => first_plays (hP.first x hx), fun x hx => first_there (hP.first x hx) _⟩ hP.mild (fun i x hx => by
    rw [begin_b0] at hx
    cases i with
    | zero =>
      simp [yd1] at hx
      subst hx
      simp [b0]
    | succ i => simp [yd1] at hx) hP.few (by
      have e : (Yd.begin [s] 0).tot = s.text.length := by simp [begin_b0, Yd.tot, Yd.texts, tsum, yd1, b0]
      rw [e]
      exact hP.sz) hG
  refine Calls.mono hrun ?_
  rintro e w' ⟨v1, v2, v3, rfl, h1, h2, h3, hf⟩
  obtain ⟨b', e'⟩ := run_one l (b0 s) (fun x hx => (hP.first x hx).one)
  rw [begin_b0] at h1 h2 h3
  rw [e'] at h2 h3
  have hlen := Mild.len l _ hP.mild
  obtain ⟨A1, c1, rfl⟩ := h1.value
  obtain ⟨A2, c2, rfl⟩ := h2.value
  obtain ⟨A3, c3, rfl⟩ := h3.value
  have h2' : Own 9 1 w' w.heap.size (.slice A2 1 c2) 1 (strs [b'.text]) := h2
  rw [← hlen] at h1
  have hcap : l.length ≤ c1 ∧ ∀ r o, A1 = some ⟨r, o, none⟩ → w.heap.size ≤ r := by
    obtain ⟨A', c', e, hle, _, hb⟩ := Own.reads (cells := Td.cells) Td.cells_len (by decide) h1
    injection e with e1 e2 e3
    subst e1
    exact ⟨by omega, fun r o q => (hb r o q).2⟩
  have hnew : ∀ r o, A2 = some ⟨r, o, none⟩ → w.heap.size ≤ r := by
    have h2s := h2'
    rw [strs_flat] at h2s
    obtain ⟨A', c', e, _, _, hb⟩ := Own.reads (cells := strC) (fun _ => rfl) (by decide) h2s
    injection e with e1 e2 e3
    subst e1
    exact fun r o q => (hb r o q).2
  refine ⟨A1, c1, A2, c2, A3, _, c3, b'.text, rfl, by rw [e']; rfl, hlen, Own.readsAt Td.cells_len (by decide) h1, Own.readsStrs h2', hf, hcap.1, hcap.2, hnew⟩
end Go.Proofs.YtbodbajgpgaoeaaGreatDoor

namespace Go.Proofs.YtbodbajgpgaoeaaGreatDoor
open Go Go.RowKit

theorem bsC_ok (w : World) : ClOk w bsC := ⟨by decide, ⟨(by intro x h; cases h), (by intro h; cases h)⟩, by decide, by decide⟩
theorem bcC_ok (w : World) : ClOk w bcC := ⟨by decide, ⟨(by intro x h; cases h), (by intro h; cases h)⟩, by decide, by decide⟩
theorem bsC_first : bsC.first := ⟨rfl, .inl (by decide)⟩
theorem bcC_first : bcC.first := ⟨rfl, .inl (by decide)⟩
theorem read_first {c : Cl} (ha : c.a = 0) (h : c.isRead) : c.first := ⟨ha, .inl (by unfold Cl.isRead at h; omega)⟩
theorem write_first {c : Cl} (ha : c.a = 0) (h : c.isWrite) : c.first := ⟨ha, .inl (by unfold Cl.isWrite at h; omega)⟩
theorem Play1.append {w : World} {s : St} {l m : List Cl} (h : Play1 w s l) (hm : Mild (runF (yd1 (b0 s)) l).2 m) (hf : ∀ c ∈ m, c.first) (ho : ∀ c ∈ m, ClOk w c) (hs : s.text.length + wsum l + wsum m + 66000 ≤ 1099511627776) (hn : l.length + m.length ≤ 4294967296) : Play1 w s (l ++ m) := by
  refine ⟨Mild.append l m _ h.mild hm, fun c hc => ?_, fun c hc => ?_, ?_, ?_⟩
  · rcases List.mem_append.mp hc with k | k
    · exact h.first c k
    · exact hf c k
  · rcases List.mem_append.mp hc with k | k
    · exact h.ok c k
    · exact ho c k
  · rw [wsum_append]; omega
  · rw [List.length_append]; exact hn
/-- The script of FnUnreadWritten: a read, a write, and the two calls that cannot be taken back. -/
theorem written_play {w : World} {s : St} {l : List Cl} {c d : Cl} (h : Play1 w s l) (ha : c.a = 0) (hc : c.isRead) (hda : d.a = 0) (hd : d.isWrite) (hv : d.valid) (hco : ClOk w c) (hdo : ClOk w d)
    (hs : s.text.length + wsum l + c.text.length + d.text.length + 67000 ≤ 1099511627776) (hn : l.length + 4 ≤ 4294967296) :
    Play1 w s (l ++ [c, d]) ∧ Play1 w s ((l ++ [c, d]) ++ [bsC, bcC]) ∧ runF (yd1 (b0 s)) ((l ++ [c, d]) ++ [bsC, bcC]) = ((runF (yd1 (b0 s)) (l ++ [c, d])).1 ++ [Td.said' 2, Td.said' 2], (runF (yd1 (b0 s)) (l ++ [c, d])).2) := by
  obtain ⟨b', e'⟩ := run_one l (b0 s) (fun x hx => (h.first x hx).one)
  obtain ⟨b2, m1, e2, m2, e3⟩ := written_law (b := b') ha hc hda hd hv
  have e4 : (runF (yd1 (b0 s)) (l ++ [c, d])).2 = yd1 b2 := by
    rw [runF_append l _ _ h.mild, e']
    exact e2
  have p1 : Play1 w s (l ++ [c, d]) := h.append (by rw [e']; exact m1) (by
      intro x hx
      simp only [List.mem_cons, List.not_mem_nil, or_false] at hx
      rcases hx with rfl | rfl
      · exact read_first ha hc
      · exact write_first hda hd) (by
      intro x hx
      simp only [List.mem_cons, List.not_mem_nil, or_false] at hx
      rcases hx with rfl | rfl
      · exact hco
      · exact hdo) (by simp only [wsum, List.map_cons, List.map_nil, List.sum_cons, List.sum_nil] at *; omega) (by simp only [List.length_cons, List.length_nil]; omega)
  have p2 : Play1 w s ((l ++ [c, d]) ++ [bsC, bcC]) := p1.append (by rw [e4]; exact m2) (by
      intro x hx
      simp only [List.mem_cons, List.not_mem_nil, or_false] at hx
      rcases hx with rfl | rfl
      · exact bsC_first
      · exact bcC_first) (by
      intro x hx
      simp only [List.mem_cons, List.not_mem_nil, or_false] at hx
      rcases hx with rfl | rfl
      · exact bsC_ok w
      · exact bcC_ok w) (by rw [wsum_append]; simp only [wsum, bsC, bcC, List.map_cons, List.map_nil, List.sum_cons, List.sum_nil, List.length_nil] at *; omega) (by simp only [List.length_append, List.length_cons, List.length_nil]; omega)
  refine ⟨p1, p2, ?_⟩
  rw [runF_append _ _ _ p1.mild, e4, e3]
theorem Reads.left {α : Type} {cells : α → List Value} {size : Nat} {w : World} {A : Option Addr} {xs ys : List α} (h : Reads cells size w A (xs ++ ys)) : Reads cells size w A xs :=
  ⟨fun j x hx => h.at' j x (by rw [List.getElem?_append_left (List.getElem?_eq_some_iff.1 hx).1]; exact hx)⟩
theorem Reads.right {α : Type} {cells : α → List Value} {size r o : Nat} {w : World} {xs ys : List α} (h : Reads cells size w (some ⟨r, o, none⟩) (xs ++ ys)) : Reads cells size w (some ⟨r, o + xs.length * size, none⟩) ys := by
  refine ⟨fun j x hx => ?_⟩
  obtain ⟨r', o', e, hc⟩ := h.at' (xs.length + j) x (by rw [List.getElem?_append_right (by omega), Nat.add_sub_cancel_left]; exact hx)
  injection e with e
  injection e with e1 e2
  subst e1 e2
  refine ⟨r, _, rfl, fun k v hv => ?_⟩
  have := hc k v hv
  rw [Nat.add_mul, ← Nat.add_assoc] at this
  exact this
theorem info_toldU : (Tryz.prog.info? 39).map (fun i => (i.zero, i.size, i.bytes)) = some (some (.agg #[.int .i64 0, .string ⟨#[]⟩, .int .i32 0, .int .i64 0]), 4, 40) := by kernel_rfl
theorem slice_told_to (A : Option Addr) (n c h : Nat) (hh : h ≤ c) (w : World) : (Instr.slice 29 (.slice A n c) none (some (.int .i64 (h : Int))) none).run Tryz.prog w = .ok (.slice A h c) w := by
  obtain ⟨i0, hi, hz0, hz1, hz2⟩ := info_parts info_toldU
  have h1 : (0 : Int) ≤ (h : Int) := by omega
  have h2 : (h : Int) ≤ (c : Int) := by omega
  cases A <;> simp [Instr.slice, run_underlying Tryz.underlying29, Instr.sliceBounds, run_sliceBound, sizeOf, typeInfo, hi, h1, h2, Addr.add]
theorem cl_one (c : Cl) : ∀ u ∈ c.cells, u.oneCell' = true := by simp [Cl.cells, Value.oneCell']
section
variable {α : Type} {cells : α → List Value} {P : Program} {w : World} {ops : Array Oper} {rest : List Oper} {o : Oper} {a : Act} {Q : Exit → Act → World → Prop} {T E : TypeId} {size bytes : Nat}
theorem wpList_copy (ok : ElemOk P T E size bytes) (hs : ∀ x, (cells x).length = size) (h1 : ∀ x, ∀ u ∈ cells x, u.oneCell' = true) (hgd : o.guard = none) (s x : Operand) (ho : o.op = .call { callee := .builtin .append, args := #[s, x], argTypes := #[T, T] })
    (base : Nat) (v : Value) (n : Nat) (xs : List Value) (A : Option Addr) (c : Nat) (ys : List α) (hv : a.eval s = v) (hx : a.eval x = .slice A ys.length c) (hown : Own E size w base v n xs) (hr : Reads cells size w A ys) (hA : A = none → ys = [] ∧ c = 0) (hn : n + ys.length ≤ 8589934592) (hbase : base ≤ w.heap.size)
    (h : ∀ v' w', Own E size w' base v' (n + ys.length) (xs ++ ys.flatMap cells) → Fr (fun x => v.ownBlock = some x) w w' → (v'.ownBlock = v.ownBlock ∨ v'.ownBlock = some w.heap.size) → wpList P ops Q rest (a.put o.dst v') w') :
    wpList P ops Q (o :: rest) a w := by
  obtain ⟨v', w', hrun, k1, k2, k3⟩ := run_copy ok hs h1 o.type hown hr hA hn hbase
  exact wpList_plain hgd fun _ hK => wp_append_of_run s x T T ho hv hx hrun (hK _ _ (h v' w' k1 k2 k3))
end
theorem three_blocks (w : World) (o0 o1 o2 : Obj) : (((w.alloc o0).alloc o1).alloc o2).heap[w.heap.size]? = some o0 ∧ (((w.alloc o0).alloc o1).alloc o2).heap[w.heap.size + 1]? = some o1 ∧ (((w.alloc o0).alloc o1).alloc o2).heap[w.heap.size + 1 + 1]? = some o2 := by
  have h2 := heap_alloc_new ((w.alloc o0).alloc o1) o2
  have h1 := ((Fr.refl (fun _ => False) _).alloc o2).blk (heap_alloc_new (w.alloc o0) o1) (fun q => q)
  have h0 := (((Fr.refl (fun _ => False) _).alloc o1).alloc o2).blk (heap_alloc_new w o0) (fun q => q)
  simp only [World.size_alloc] at h0 h1 h2
  exact ⟨h0, h1, h2⟩
theorem two_blocks (w : World) (o0 o1 : Obj) : ((w.alloc o0).alloc o1).heap[w.heap.size]? = some o0 ∧ ((w.alloc o0).alloc o1).heap[w.heap.size + 1]? = some o1 := by
  have h1 := heap_alloc_new (w.alloc o0) o1
  have h0 := ((Fr.refl (fun _ => False) _).alloc o1).blk (heap_alloc_new w o0) (fun q => q)
  simp only [World.size_alloc] at h0 h1
  exact ⟨h0, h1⟩
theorem slice_str (l : List UInt8) (a b : Nat) (hab : a ≤ b) (hb : b ≤ l.length) (w : World) : (Instr.slice 9 (.string ⟨l.toArray⟩) (some (.int .i64 (a : Int))) (some (.int .i64 (b : Int))) none).run Tryz.prog w = .ok (.string ⟨((l.take b).drop a).toArray⟩) w := by
  have h1 : (a : Int) ≤ (b : Int) := by omega
  have h2 : (b : Int) ≤ (l.length : Int) := by omega
  have hsz : (ByteArray.mk l.toArray).size = l.length := by show l.toArray.size = _; simp
  simp [Instr.slice, run_underlying Tryz.underlying9, Instr.sliceBounds, run_sliceBound, sizeOf, typeInfo, h1, h2, ext_mid, hsz]
theorem slice_str_to (l : List UInt8) (b : Nat) (hb : b ≤ l.length) (w : World) : (Instr.slice 9 (.string ⟨l.toArray⟩) none (some (.int .i64 (b : Int))) none).run Tryz.prog w = .ok (.string ⟨(l.take b).toArray⟩) w := by
  have h2 : (b : Int) ≤ (l.length : Int) := by omega
  have hsz : (ByteArray.mk l.toArray).size = l.length := by show l.toArray.size = _; simp
  simp [Instr.slice, run_underlying Tryz.underlying9, Instr.sliceBounds, run_sliceBound, sizeOf, typeInfo, h2, ext_mid, hsz]
theorem slice_str_from (l : List UInt8) (a : Nat) (ha : a ≤ l.length) (w : World) : (Instr.slice 9 (.string ⟨l.toArray⟩) (some (.int .i64 (a : Int))) none none).run Tryz.prog w = .ok (.string ⟨(l.drop a).toArray⟩) w := by
  have h2 : (a : Int) ≤ (l.length : Int) := by omega
  have hsz : (ByteArray.mk l.toArray).size = l.length := by show l.toArray.size = _; simp
  simp [Instr.slice, run_underlying Tryz.underlying9, Instr.sliceBounds, run_sliceBound, sizeOf, typeInfo, h2, ext_drop, hsz]
end Go.Proofs.YtbodbajgpgaoeaaGreatDoor
