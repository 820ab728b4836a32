/- SpecH. -/
import Derived.Test.YtbodbajgpgaoeaaGreatDoorQ18
namespace Go.Proofs.YtbodbajgpgaoeaaGreatDoor
open Go Go.RowKit

/-- What flow returns: the yard as it was, but its buffer written anew. -/
def FlPost (w : World) (g c1 : Nat) (A2 : Option Addr) (c2 : Nat) (b : SB) (t : Td) (ok : Bool) (e : Ending) (w' : World) : Prop :=
  e = .returned (.tuple #[.agg #[.slice (some ⟨g, 0, none⟩) 1 c1, .slice A2 0 c2], t.val, .bool ok]) ∧ w'.cell? ⟨g, 0, none⟩ = some (.string ⟨b.text.toArray⟩) ∧ w'.cell? ⟨g, 1, none⟩ = some (.int .i64 b.recent) ∧ w'.cell? ⟨g, 2, none⟩ = some (.string ⟨b.last.toArray⟩) ∧ w'.cell? ⟨g, 3, none⟩ = some (.bool b.begun) ∧ Fr (Just g) w w'
section
variable (A1 : Option Addr) (c1 : Nat) (A2 : Option Addr) (c2 : Nat) (op bb : Int) (size : Nat) (n : Int) (sign : UInt8) (char : Int) (ctext : List UInt8) (cuts : List Nat) (ad : Option Addr) (cap : Nat)
set_option maxHeartbeats 3200000 in
set_option maxRecDepth 100000 in
theorem spf_26x (g : Nat) (text : List UInt8) (recent : Int) (last : List UInt8) (begun : Bool) (w : World) (x0 : w.cell? ⟨g, 0, none⟩ = some (.string ⟨text.toArray⟩)) (x1 : w.cell? ⟨g, 1, none⟩ = some (.int .i64 recent)) (x2 : w.cell? ⟨g, 2, none⟩ = some (.string ⟨last.toArray⟩)) (x3 : w.cell? ⟨g, 3, none⟩ = some (.bool begun)) (xz : ∀ i, w.frozen? ⟨g, i, none⟩ = false) (hs : size ≤ 65535) (hq : size < text.length) :
    Calls Tryz.prog 44 #[.agg #[.slice (some ⟨g, 0, none⟩) 1 c1, .slice A2 0 c2], .agg #[.int .i64 26, .int .i64 0, .int .i64 bb, .int .u16 (size : Int), .int .i64 n, .int .u8 (sign.toNat : Int), .int .i32 char, .string ⟨ctext.toArray⟩, .slice ad cuts.length cap]] w (FlPost w g c1 A2 c2 ⟨text, recent, last, begun⟩ ⟨0, [], 0, 0⟩ false) := by
  have hgw := World.block_lt_of_cell? _ _ x0
  dsimp only at hgw
  obtain ⟨w0, hw0⟩ : ∃ w0, w0 = ((((w.alloc (.cells #[.slice (some ⟨g, 0, none⟩) 1 c1, .slice A2 0 c2] 59)).alloc (.cells #[.int .i64 26, .int .i64 0, .int .i64 bb, .int .u16 (size : Int), .int .i64 n, .int .u8 (sign.toNat : Int), .int .i32 char, .string ⟨ctext.toArray⟩, .slice ad cuts.length cap] 36)).alloc (.cells #[.slice none 0 0, .slice none 0 0] 59)).alloc (.cells #[.int .i64 0, .string ⟨#[]⟩, .int .i32 0, .int .i64 0] 39)) := ⟨_, rfl⟩
  obtain ⟨k0, k1, k2, k3⟩ := four_blocks w (.cells #[.slice (some ⟨g, 0, none⟩) 1 c1, .slice A2 0 c2] 59) (.cells #[.int .i64 26, .int .i64 0, .int .i64 bb, .int .u16 (size : Int), .int .i64 n, .int .u8 (sign.toNat : Int), .int .i32 char, .string ⟨ctext.toArray⟩, .slice ad cuts.length cap] 36) (.cells #[.slice none 0 0, .slice none 0 0] 59) (.cells #[.int .i64 0, .string ⟨#[]⟩, .int .i32 0, .int .i64 0] 39)
  rw [← hw0] at k0 k1 k2 k3
  have hF0 : Fr (fun _ => False) w w0 := by rw [hw0]; exact (((((Fr.refl (fun _ => False) w).alloc _).alloc _).alloc _).alloc _)
  have HF0 := Lib.hid hF0
  have HW0 := Lib.hid hw0
  have hsw : IntKind.i64.wrap (size : Int) = (size : Int) := IntWalk.i64_in _ (by omega)
  have hql : (size : Int) < (text.length : Int) := by omega
  clear hq
  have y0 : w0.cell? ⟨w.heap.size, 0, none⟩ = some (.slice (some ⟨g, 0, none⟩) 1 c1) := by rw [cell_of_row _ _ _ _ _ _ k0]; rfl
  have y1 : w0.cell? ⟨w.heap.size, 1, none⟩ = some (.slice A2 0 c2) := by rw [cell_of_row _ _ _ _ _ _ k0]; rfl
  have e0 : w0.cell? ⟨w.heap.size + 1, 0, none⟩ = some (.int .i64 26) := by rw [cell_of_row _ _ _ _ _ _ k1]; rfl
  have e1 : w0.cell? ⟨w.heap.size + 1, 1, none⟩ = some (.int .i64 0) := by rw [cell_of_row _ _ _ _ _ _ k1]; rfl
  have e2 : w0.cell? ⟨w.heap.size + 1, 2, none⟩ = some (.int .i64 bb) := by rw [cell_of_row _ _ _ _ _ _ k1]; rfl
  have e3 : w0.cell? ⟨w.heap.size + 1, 3, none⟩ = some (.int .u16 (size : Int)) := by rw [cell_of_row _ _ _ _ _ _ k1]; rfl
  have e4 : w0.cell? ⟨w.heap.size + 1, 4, none⟩ = some (.int .i64 n) := by rw [cell_of_row _ _ _ _ _ _ k1]; rfl
  have e5 : w0.cell? ⟨w.heap.size + 1, 5, none⟩ = some (.int .u8 (sign.toNat : Int)) := by rw [cell_of_row _ _ _ _ _ _ k1]; rfl
  have e6 : w0.cell? ⟨w.heap.size + 1, 6, none⟩ = some (.int .i32 char) := by rw [cell_of_row _ _ _ _ _ _ k1]; rfl
  have e7 : w0.cell? ⟨w.heap.size + 1, 7, none⟩ = some (.string ⟨ctext.toArray⟩) := by rw [cell_of_row _ _ _ _ _ _ k1]; rfl
  have e8 : w0.cell? ⟨w.heap.size + 1, 8, none⟩ = some (.slice ad cuts.length cap) := by rw [cell_of_row _ _ _ _ _ _ k1]; rfl
  have u0 : w0.cell? ⟨w.heap.size + 1 + 1, 0, none⟩ = some (.slice none 0 0) := by rw [cell_of_row _ _ _ _ _ _ k2]; rfl
  have u1 : w0.cell? ⟨w.heap.size + 1 + 1, 1, none⟩ = some (.slice none 0 0) := by rw [cell_of_row _ _ _ _ _ _ k2]; rfl
  have t0 : w0.cell? ⟨w.heap.size + 1 + 1 + 1, 0, none⟩ = some (.int .i64 0) := by rw [cell_of_row _ _ _ _ _ _ k3]; rfl
  have t1 : w0.cell? ⟨w.heap.size + 1 + 1 + 1, 1, none⟩ = some (.string ⟨#[]⟩) := by rw [cell_of_row _ _ _ _ _ _ k3]; rfl
  have t2 : w0.cell? ⟨w.heap.size + 1 + 1 + 1, 2, none⟩ = some (.int .i32 0) := by rw [cell_of_row _ _ _ _ _ _ k3]; rfl
  have t3 : w0.cell? ⟨w.heap.size + 1 + 1 + 1, 3, none⟩ = some (.int .i64 0) := by rw [cell_of_row _ _ _ _ _ _ k3]; rfl
  have uz0 := frozen_row k2 0
  have uz1 := frozen_row k2 1
  have tz0 := frozen_row k3 0
  have tz1 := frozen_row k3 1
  have tz2 := frozen_row k3 2
  have tz3 := frozen_row k3 3
  have g0 := (hF0.cell (World.block_lt_of_cell? _ _ x0) (fun q => q)).trans x0
  have gz0 := (hF0.frz (World.block_lt_of_cell? _ _ x0) (fun q => q)).trans (xz 0)
  have g1 := (hF0.cell (World.block_lt_of_cell? _ _ x1) (fun q => q)).trans x1
  have gz1 := (hF0.frz (World.block_lt_of_cell? _ _ x1) (fun q => q)).trans (xz 1)
  have g2 := (hF0.cell (World.block_lt_of_cell? _ _ x2) (fun q => q)).trans x2
  have gz2 := (hF0.frz (World.block_lt_of_cell? _ _ x2) (fun q => q)).trans (xz 2)
  have g3 := (hF0.cell (World.block_lt_of_cell? _ _ x3) (fun q => q)).trans x3
  have gz3 := (hF0.frz (World.block_lt_of_cell? _ _ x3) (fun q => q)).trans (xz 3)
  have hlt := lt_of_blk k3
  have hg1 : ¬ (g = w.heap.size) := by omega
  have hg2 : ¬ (g = w.heap.size + 1) := by omega
  have hg3 : ¬ (g = w.heap.size + 1 + 1) := by omega
  have hg4 : ¬ (g = w.heap.size + 1 + 1 + 1) := by omega
  have gl0 : ((((w.alloc (.cells #[.slice (some ⟨g, 0, none⟩) 1 c1, .slice A2 0 c2] 59)).alloc (.cells #[.int .i64 26, .int .i64 0, .int .i64 bb, .int .u16 (size : Int), .int .i64 n, .int .u8 (sign.toNat : Int), .int .i32 char, .string ⟨ctext.toArray⟩, .slice ad cuts.length cap] 36)).alloc (.cells #[.slice none 0 0, .slice none 0 0] 59)).alloc (.cells #[.int .i64 0, .string ⟨#[]⟩, .int .i32 0, .int .i64 0] 39)).cell? ⟨g, 0, none⟩ = some (.string ⟨text.toArray⟩) := by rw [← HW0.out]; exact g0
  have gzl0 : ((((w.alloc (.cells #[.slice (some ⟨g, 0, none⟩) 1 c1, .slice A2 0 c2] 59)).alloc (.cells #[.int .i64 26, .int .i64 0, .int .i64 bb, .int .u16 (size : Int), .int .i64 n, .int .u8 (sign.toNat : Int), .int .i32 char, .string ⟨ctext.toArray⟩, .slice ad cuts.length cap] 36)).alloc (.cells #[.slice none 0 0, .slice none 0 0] 59)).alloc (.cells #[.int .i64 0, .string ⟨#[]⟩, .int .i32 0, .int .i64 0] 39)).frozen? ⟨g, 0, none⟩ = false := by rw [← HW0.out]; exact gz0
  have gl1 : ((((w.alloc (.cells #[.slice (some ⟨g, 0, none⟩) 1 c1, .slice A2 0 c2] 59)).alloc (.cells #[.int .i64 26, .int .i64 0, .int .i64 bb, .int .u16 (size : Int), .int .i64 n, .int .u8 (sign.toNat : Int), .int .i32 char, .string ⟨ctext.toArray⟩, .slice ad cuts.length cap] 36)).alloc (.cells #[.slice none 0 0, .slice none 0 0] 59)).alloc (.cells #[.int .i64 0, .string ⟨#[]⟩, .int .i32 0, .int .i64 0] 39)).cell? ⟨g, 1, none⟩ = some (.int .i64 recent) := by rw [← HW0.out]; exact g1
  have gzl1 : ((((w.alloc (.cells #[.slice (some ⟨g, 0, none⟩) 1 c1, .slice A2 0 c2] 59)).alloc (.cells #[.int .i64 26, .int .i64 0, .int .i64 bb, .int .u16 (size : Int), .int .i64 n, .int .u8 (sign.toNat : Int), .int .i32 char, .string ⟨ctext.toArray⟩, .slice ad cuts.length cap] 36)).alloc (.cells #[.slice none 0 0, .slice none 0 0] 59)).alloc (.cells #[.int .i64 0, .string ⟨#[]⟩, .int .i32 0, .int .i64 0] 39)).frozen? ⟨g, 1, none⟩ = false := by rw [← HW0.out]; exact gz1
  have gl2 : ((((w.alloc (.cells #[.slice (some ⟨g, 0, none⟩) 1 c1, .slice A2 0 c2] 59)).alloc (.cells #[.int .i64 26, .int .i64 0, .int .i64 bb, .int .u16 (size : Int), .int .i64 n, .int .u8 (sign.toNat : Int), .int .i32 char, .string ⟨ctext.toArray⟩, .slice ad cuts.length cap] 36)).alloc (.cells #[.slice none 0 0, .slice none 0 0] 59)).alloc (.cells #[.int .i64 0, .string ⟨#[]⟩, .int .i32 0, .int .i64 0] 39)).cell? ⟨g, 2, none⟩ = some (.string ⟨last.toArray⟩) := by rw [← HW0.out]; exact g2
  have gzl2 : ((((w.alloc (.cells #[.slice (some ⟨g, 0, none⟩) 1 c1, .slice A2 0 c2] 59)).alloc (.cells #[.int .i64 26, .int .i64 0, .int .i64 bb, .int .u16 (size : Int), .int .i64 n, .int .u8 (sign.toNat : Int), .int .i32 char, .string ⟨ctext.toArray⟩, .slice ad cuts.length cap] 36)).alloc (.cells #[.slice none 0 0, .slice none 0 0] 59)).alloc (.cells #[.int .i64 0, .string ⟨#[]⟩, .int .i32 0, .int .i64 0] 39)).frozen? ⟨g, 2, none⟩ = false := by rw [← HW0.out]; exact gz2
  have gl3 : ((((w.alloc (.cells #[.slice (some ⟨g, 0, none⟩) 1 c1, .slice A2 0 c2] 59)).alloc (.cells #[.int .i64 26, .int .i64 0, .int .i64 bb, .int .u16 (size : Int), .int .i64 n, .int .u8 (sign.toNat : Int), .int .i32 char, .string ⟨ctext.toArray⟩, .slice ad cuts.length cap] 36)).alloc (.cells #[.slice none 0 0, .slice none 0 0] 59)).alloc (.cells #[.int .i64 0, .string ⟨#[]⟩, .int .i32 0, .int .i64 0] 39)).cell? ⟨g, 3, none⟩ = some (.bool begun) := by rw [← HW0.out]; exact g3
  have gzl3 : ((((w.alloc (.cells #[.slice (some ⟨g, 0, none⟩) 1 c1, .slice A2 0 c2] 59)).alloc (.cells #[.int .i64 26, .int .i64 0, .int .i64 bb, .int .u16 (size : Int), .int .i64 n, .int .u8 (sign.toNat : Int), .int .i32 char, .string ⟨ctext.toArray⟩, .slice ad cuts.length cap] 36)).alloc (.cells #[.slice none 0 0, .slice none 0 0] 59)).alloc (.cells #[.int .i64 0, .string ⟨#[]⟩, .int .i32 0, .int .i64 0] 39)).frozen? ⟨g, 3, none⟩ = false := by rw [← HW0.out]; exact gz3
  clear hw0 hF0 k0 k1 k2 k3 xz
  go_enter Tryz.func44, Tryz.ntmps44
  go_wp2_with fail
  obtain ⟨_, _, h2, h3⟩ := four_blocks w (.cells #[.slice (some ⟨g, 0, none⟩) 1 c1, .slice A2 0 c2] 59) (.cells #[.int .i64 26, .int .i64 0, .int .i64 bb, .int .u16 (size : Int), .int .i64 n, .int .u8 (sign.toNat : Int), .int .i32 char, .string ⟨ctext.toArray⟩, .slice ad cuts.length cap] 36) (.cells #[.slice (some ⟨g, 0, none⟩) 1 c1, .slice A2 0 c2] 59) (.cells #[.int .i64 0, .string ⟨#[]⟩, .int .i32 0, .int .i64 0] 39)
  have HF8 := Lib.hid (show Fr (Just g) w ((((w.alloc (.cells #[.slice (some ⟨g, 0, none⟩) 1 c1, .slice A2 0 c2] 59)).alloc (.cells #[.int .i64 26, .int .i64 0, .int .i64 bb, .int .u16 (size : Int), .int .i64 n, .int .u8 (sign.toNat : Int), .int .i32 char, .string ⟨ctext.toArray⟩, .slice ad cuts.length cap] 36)).alloc (.cells #[.slice (some ⟨g, 0, none⟩) 1 c1, .slice A2 0 c2] 59)).alloc (.cells #[.int .i64 0, .string ⟨#[]⟩, .int .i32 0, .int .i64 0] 39)) from ((((Fr.refl (Just g) w).alloc _).alloc _).alloc _).alloc _)
  have HG := Lib.hid (show ∀ (k : Nat) (v : Value), w.cell? ⟨g, k, none⟩ = some v → ((((w.alloc (.cells #[.slice (some ⟨g, 0, none⟩) 1 c1, .slice A2 0 c2] 59)).alloc (.cells #[.int .i64 26, .int .i64 0, .int .i64 bb, .int .u16 (size : Int), .int .i64 n, .int .u8 (sign.toNat : Int), .int .i32 char, .string ⟨ctext.toArray⟩, .slice ad cuts.length cap] 36)).alloc (.cells #[.slice (some ⟨g, 0, none⟩) 1 c1, .slice A2 0 c2] 59)).alloc (.cells #[.int .i64 0, .string ⟨#[]⟩, .int .i32 0, .int .i64 0] 39)).cell? ⟨g, k, none⟩ = some v from fun k v h => alloc_cell (alloc_cell (alloc_cell (alloc_cell h))))
  generalize ((((w.alloc (.cells #[.slice (some ⟨g, 0, none⟩) 1 c1, .slice A2 0 c2] 59)).alloc (.cells #[.int .i64 26, .int .i64 0, .int .i64 bb, .int .u16 (size : Int), .int .i64 n, .int .u8 (sign.toNat : Int), .int .i32 char, .string ⟨ctext.toArray⟩, .slice ad cuts.length cap] 36)).alloc (.cells #[.slice (some ⟨g, 0, none⟩) 1 c1, .slice A2 0 c2] 59)).alloc (.cells #[.int .i64 0, .string ⟨#[]⟩, .int .i32 0, .int .i64 0] 39)) = w8 at *
  have q0 : w8.cell? ⟨w.heap.size + 1 + 1, 0, none⟩ = some (.slice (some ⟨g, 0, none⟩) 1 c1) := by rw [cell_of_row _ _ _ _ _ _ h2]; rfl
  have q1 : w8.cell? ⟨w.heap.size + 1 + 1, 1, none⟩ = some (.slice A2 0 c2) := by rw [cell_of_row _ _ _ _ _ _ h2]; rfl
  have q2 : w8.cell? ⟨w.heap.size + 1 + 1 + 1, 0, none⟩ = some (.int .i64 0) := by rw [cell_of_row _ _ _ _ _ _ h3]; rfl
  have q3 : w8.cell? ⟨w.heap.size + 1 + 1 + 1, 1, none⟩ = some (.string ⟨#[]⟩) := by rw [cell_of_row _ _ _ _ _ _ h3]; rfl
  have q4 : w8.cell? ⟨w.heap.size + 1 + 1 + 1, 2, none⟩ = some (.int .i32 0) := by rw [cell_of_row _ _ _ _ _ _ h3]; rfl
  have q5 : w8.cell? ⟨w.heap.size + 1 + 1 + 1, 3, none⟩ = some (.int .i64 0) := by rw [cell_of_row _ _ _ _ _ _ h3]; rfl
  refine bodyPost_ret (v := .tuple #[.agg #[.slice (some ⟨g, 0, none⟩) 1 c1, .slice A2 0 c2], Td.val ⟨0, [], 0, 0⟩, .bool false]) (by simp [results, Tryz.results44, go_sem, Td.val, Td.cells, q0, q1, q2, q3, q4, q5]) rfl ?_
  exact ⟨rfl, HG.out 0 _ x0, HG.out 1 _ x1, HG.out 2 _ x2, HG.out 3 _ x3, HF8.out⟩
set_option maxHeartbeats 3200000 in
set_option maxRecDepth 100000 in
theorem spf_26 (g : Nat) (text : List UInt8) (recent : Int) (last : List UInt8) (begun : Bool) (w : World) (x0 : w.cell? ⟨g, 0, none⟩ = some (.string ⟨text.toArray⟩)) (x1 : w.cell? ⟨g, 1, none⟩ = some (.int .i64 recent)) (x2 : w.cell? ⟨g, 2, none⟩ = some (.string ⟨last.toArray⟩)) (x3 : w.cell? ⟨g, 3, none⟩ = some (.bool begun)) (xz : ∀ i, w.frozen? ⟨g, i, none⟩ = false) (hs : size ≤ 65535) (hq : ¬ size < text.length) :
    Calls Tryz.prog 44 #[.agg #[.slice (some ⟨g, 0, none⟩) 1 c1, .slice A2 0 c2], .agg #[.int .i64 26, .int .i64 0, .int .i64 bb, .int .u16 (size : Int), .int .i64 n, .int .u8 (sign.toNat : Int), .int .i32 char, .string ⟨ctext.toArray⟩, .slice ad cuts.length cap]] w (FlPost w g c1 A2 c2 (SB.other ⟨text, recent, last, begun⟩ []) ⟨text.length, text, 0, 0⟩ true) := by
  have hgw := World.block_lt_of_cell? _ _ x0
  dsimp only at hgw
  obtain ⟨w0, hw0⟩ : ∃ w0, w0 = ((((w.alloc (.cells #[.slice (some ⟨g, 0, none⟩) 1 c1, .slice A2 0 c2] 59)).alloc (.cells #[.int .i64 26, .int .i64 0, .int .i64 bb, .int .u16 (size : Int), .int .i64 n, .int .u8 (sign.toNat : Int), .int .i32 char, .string ⟨ctext.toArray⟩, .slice ad cuts.length cap] 36)).alloc (.cells #[.slice none 0 0, .slice none 0 0] 59)).alloc (.cells #[.int .i64 0, .string ⟨#[]⟩, .int .i32 0, .int .i64 0] 39)) := ⟨_, rfl⟩
  obtain ⟨k0, k1, k2, k3⟩ := four_blocks w (.cells #[.slice (some ⟨g, 0, none⟩) 1 c1, .slice A2 0 c2] 59) (.cells #[.int .i64 26, .int .i64 0, .int .i64 bb, .int .u16 (size : Int), .int .i64 n, .int .u8 (sign.toNat : Int), .int .i32 char, .string ⟨ctext.toArray⟩, .slice ad cuts.length cap] 36) (.cells #[.slice none 0 0, .slice none 0 0] 59) (.cells #[.int .i64 0, .string ⟨#[]⟩, .int .i32 0, .int .i64 0] 39)
  rw [← hw0] at k0 k1 k2 k3
  have hF0 : Fr (fun _ => False) w w0 := by rw [hw0]; exact (((((Fr.refl (fun _ => False) w).alloc _).alloc _).alloc _).alloc _)
  have HF0 := Lib.hid hF0
  have HW0 := Lib.hid hw0
  have hsw : IntKind.i64.wrap (size : Int) = (size : Int) := IntWalk.i64_in _ (by omega)
  have hql : ¬ (size : Int) < (text.length : Int) := by omega
  have hc : ∀ wx, Calls Tryz.prog 57 #[SB.val ⟨text, recent, last, begun⟩, .string ⟨([]).toArray⟩] wx fun e w' => e = .returned (SB.val (SB.other ⟨text, recent, last, begun⟩ ([]))) ∧ Fr (fun _ => False) wx w' := fun wx => sp_other text recent last begun ([]) wx
  obtain ⟨rt, rr, rl, rb, hres⟩ : ∃ rt rr rl rb, SB.other ⟨text, recent, last, begun⟩ ([]) = SB.mk rt rr rl rb := ⟨_, _, _, _, rfl⟩
  rw [hres] at hc ⊢
  simp only [SB.val, SB.cells] at hc
  have HC := Lib.hid hc
  clear hc hres
  clear hq
  have y0 : w0.cell? ⟨w.heap.size, 0, none⟩ = some (.slice (some ⟨g, 0, none⟩) 1 c1) := by rw [cell_of_row _ _ _ _ _ _ k0]; rfl
  have y1 : w0.cell? ⟨w.heap.size, 1, none⟩ = some (.slice A2 0 c2) := by rw [cell_of_row _ _ _ _ _ _ k0]; rfl
  have e0 : w0.cell? ⟨w.heap.size + 1, 0, none⟩ = some (.int .i64 26) := by rw [cell_of_row _ _ _ _ _ _ k1]; rfl
  have e1 : w0.cell? ⟨w.heap.size + 1, 1, none⟩ = some (.int .i64 0) := by rw [cell_of_row _ _ _ _ _ _ k1]; rfl
  have e2 : w0.cell? ⟨w.heap.size + 1, 2, none⟩ = some (.int .i64 bb) := by rw [cell_of_row _ _ _ _ _ _ k1]; rfl
  have e3 : w0.cell? ⟨w.heap.size + 1, 3, none⟩ = some (.int .u16 (size : Int)) := by rw [cell_of_row _ _ _ _ _ _ k1]; rfl
  have e4 : w0.cell? ⟨w.heap.size + 1, 4, none⟩ = some (.int .i64 n) := by rw [cell_of_row _ _ _ _ _ _ k1]; rfl
  have e5 : w0.cell? ⟨w.heap.size + 1, 5, none⟩ = some (.int .u8 (sign.toNat : Int)) := by rw [cell_of_row _ _ _ _ _ _ k1]; rfl
  have e6 : w0.cell? ⟨w.heap.size + 1, 6, none⟩ = some (.int .i32 char) := by rw [cell_of_row _ _ _ _ _ _ k1]; rfl
  have e7 : w0.cell? ⟨w.heap.size + 1, 7, none⟩ = some (.string ⟨ctext.toArray⟩) := by rw [cell_of_row _ _ _ _ _ _ k1]; rfl
  have e8 : w0.cell? ⟨w.heap.size + 1, 8, none⟩ = some (.slice ad cuts.length cap) := by rw [cell_of_row _ _ _ _ _ _ k1]; rfl
  have u0 : w0.cell? ⟨w.heap.size + 1 + 1, 0, none⟩ = some (.slice none 0 0) := by rw [cell_of_row _ _ _ _ _ _ k2]; rfl
  have u1 : w0.cell? ⟨w.heap.size + 1 + 1, 1, none⟩ = some (.slice none 0 0) := by rw [cell_of_row _ _ _ _ _ _ k2]; rfl
  have t0 : w0.cell? ⟨w.heap.size + 1 + 1 + 1, 0, none⟩ = some (.int .i64 0) := by rw [cell_of_row _ _ _ _ _ _ k3]; rfl
  have t1 : w0.cell? ⟨w.heap.size + 1 + 1 + 1, 1, none⟩ = some (.string ⟨#[]⟩) := by rw [cell_of_row _ _ _ _ _ _ k3]; rfl
  have t2 : w0.cell? ⟨w.heap.size + 1 + 1 + 1, 2, none⟩ = some (.int .i32 0) := by rw [cell_of_row _ _ _ _ _ _ k3]; rfl
  have t3 : w0.cell? ⟨w.heap.size + 1 + 1 + 1, 3, none⟩ = some (.int .i64 0) := by rw [cell_of_row _ _ _ _ _ _ k3]; rfl
  have uz0 := frozen_row k2 0
  have uz1 := frozen_row k2 1
  have tz0 := frozen_row k3 0
  have tz1 := frozen_row k3 1
  have tz2 := frozen_row k3 2
  have tz3 := frozen_row k3 3
  have g0 := (hF0.cell (World.block_lt_of_cell? _ _ x0) (fun q => q)).trans x0
  have gz0 := (hF0.frz (World.block_lt_of_cell? _ _ x0) (fun q => q)).trans (xz 0)
  have g1 := (hF0.cell (World.block_lt_of_cell? _ _ x1) (fun q => q)).trans x1
  have gz1 := (hF0.frz (World.block_lt_of_cell? _ _ x1) (fun q => q)).trans (xz 1)
  have g2 := (hF0.cell (World.block_lt_of_cell? _ _ x2) (fun q => q)).trans x2
  have gz2 := (hF0.frz (World.block_lt_of_cell? _ _ x2) (fun q => q)).trans (xz 2)
  have g3 := (hF0.cell (World.block_lt_of_cell? _ _ x3) (fun q => q)).trans x3
  have gz3 := (hF0.frz (World.block_lt_of_cell? _ _ x3) (fun q => q)).trans (xz 3)
  have hlt := lt_of_blk k3
  have hg1 : ¬ (g = w.heap.size) := by omega
  have hg2 : ¬ (g = w.heap.size + 1) := by omega
  have hg3 : ¬ (g = w.heap.size + 1 + 1) := by omega
  have hg4 : ¬ (g = w.heap.size + 1 + 1 + 1) := by omega
  have gl0 : ((((w.alloc (.cells #[.slice (some ⟨g, 0, none⟩) 1 c1, .slice A2 0 c2] 59)).alloc (.cells #[.int .i64 26, .int .i64 0, .int .i64 bb, .int .u16 (size : Int), .int .i64 n, .int .u8 (sign.toNat : Int), .int .i32 char, .string ⟨ctext.toArray⟩, .slice ad cuts.length cap] 36)).alloc (.cells #[.slice none 0 0, .slice none 0 0] 59)).alloc (.cells #[.int .i64 0, .string ⟨#[]⟩, .int .i32 0, .int .i64 0] 39)).cell? ⟨g, 0, none⟩ = some (.string ⟨text.toArray⟩) := by rw [← HW0.out]; exact g0
  have gzl0 : ((((w.alloc (.cells #[.slice (some ⟨g, 0, none⟩) 1 c1, .slice A2 0 c2] 59)).alloc (.cells #[.int .i64 26, .int .i64 0, .int .i64 bb, .int .u16 (size : Int), .int .i64 n, .int .u8 (sign.toNat : Int), .int .i32 char, .string ⟨ctext.toArray⟩, .slice ad cuts.length cap] 36)).alloc (.cells #[.slice none 0 0, .slice none 0 0] 59)).alloc (.cells #[.int .i64 0, .string ⟨#[]⟩, .int .i32 0, .int .i64 0] 39)).frozen? ⟨g, 0, none⟩ = false := by rw [← HW0.out]; exact gz0
  have gl1 : ((((w.alloc (.cells #[.slice (some ⟨g, 0, none⟩) 1 c1, .slice A2 0 c2] 59)).alloc (.cells #[.int .i64 26, .int .i64 0, .int .i64 bb, .int .u16 (size : Int), .int .i64 n, .int .u8 (sign.toNat : Int), .int .i32 char, .string ⟨ctext.toArray⟩, .slice ad cuts.length cap] 36)).alloc (.cells #[.slice none 0 0, .slice none 0 0] 59)).alloc (.cells #[.int .i64 0, .string ⟨#[]⟩, .int .i32 0, .int .i64 0] 39)).cell? ⟨g, 1, none⟩ = some (.int .i64 recent) := by rw [← HW0.out]; exact g1
  have gzl1 : ((((w.alloc (.cells #[.slice (some ⟨g, 0, none⟩) 1 c1, .slice A2 0 c2] 59)).alloc (.cells #[.int .i64 26, .int .i64 0, .int .i64 bb, .int .u16 (size : Int), .int .i64 n, .int .u8 (sign.toNat : Int), .int .i32 char, .string ⟨ctext.toArray⟩, .slice ad cuts.length cap] 36)).alloc (.cells #[.slice none 0 0, .slice none 0 0] 59)).alloc (.cells #[.int .i64 0, .string ⟨#[]⟩, .int .i32 0, .int .i64 0] 39)).frozen? ⟨g, 1, none⟩ = false := by rw [← HW0.out]; exact gz1
  have gl2 : ((((w.alloc (.cells #[.slice (some ⟨g, 0, none⟩) 1 c1, .slice A2 0 c2] 59)).alloc (.cells #[.int .i64 26, .int .i64 0, .int .i64 bb, .int .u16 (size : Int), .int .i64 n, .int .u8 (sign.toNat : Int), .int .i32 char, .string ⟨ctext.toArray⟩, .slice ad cuts.length cap] 36)).alloc (.cells #[.slice none 0 0, .slice none 0 0] 59)).alloc (.cells #[.int .i64 0, .string ⟨#[]⟩, .int .i32 0, .int .i64 0] 39)).cell? ⟨g, 2, none⟩ = some (.string ⟨last.toArray⟩) := by rw [← HW0.out]; exact g2
  have gzl2 : ((((w.alloc (.cells #[.slice (some ⟨g, 0, none⟩) 1 c1, .slice A2 0 c2] 59)).alloc (.cells #[.int .i64 26, .int .i64 0, .int .i64 bb, .int .u16 (size : Int), .int .i64 n, .int .u8 (sign.toNat : Int), .int .i32 char, .string ⟨ctext.toArray⟩, .slice ad cuts.length cap] 36)).alloc (.cells #[.slice none 0 0, .slice none 0 0] 59)).alloc (.cells #[.int .i64 0, .string ⟨#[]⟩, .int .i32 0, .int .i64 0] 39)).frozen? ⟨g, 2, none⟩ = false := by rw [← HW0.out]; exact gz2
  have gl3 : ((((w.alloc (.cells #[.slice (some ⟨g, 0, none⟩) 1 c1, .slice A2 0 c2] 59)).alloc (.cells #[.int .i64 26, .int .i64 0, .int .i64 bb, .int .u16 (size : Int), .int .i64 n, .int .u8 (sign.toNat : Int), .int .i32 char, .string ⟨ctext.toArray⟩, .slice ad cuts.length cap] 36)).alloc (.cells #[.slice none 0 0, .slice none 0 0] 59)).alloc (.cells #[.int .i64 0, .string ⟨#[]⟩, .int .i32 0, .int .i64 0] 39)).cell? ⟨g, 3, none⟩ = some (.bool begun) := by rw [← HW0.out]; exact g3
  have gzl3 : ((((w.alloc (.cells #[.slice (some ⟨g, 0, none⟩) 1 c1, .slice A2 0 c2] 59)).alloc (.cells #[.int .i64 26, .int .i64 0, .int .i64 bb, .int .u16 (size : Int), .int .i64 n, .int .u8 (sign.toNat : Int), .int .i32 char, .string ⟨ctext.toArray⟩, .slice ad cuts.length cap] 36)).alloc (.cells #[.slice none 0 0, .slice none 0 0] 59)).alloc (.cells #[.int .i64 0, .string ⟨#[]⟩, .int .i32 0, .int .i64 0] 39)).frozen? ⟨g, 3, none⟩ = false := by rw [← HW0.out]; exact gz3
  clear hw0 hF0 k0 k1 k2 k3 xz
  go_enter Tryz.func44, Tryz.ntmps44
  go_wp2_with fail
  rw [← HW0.out]
  refine (HC.out _).mono ?_
  rintro e w1 ⟨rfl, F1⟩
  have HF1 := Lib.hid F1
  clear F1
  have y0x : w1.cell? ⟨w.heap.size, 0, none⟩ = some (.slice (some ⟨g, 0, none⟩) 1 c1) := (HF1.out.cell (World.block_lt_of_cell? _ _ y0) (fun q => q)).trans y0
  have y1x : w1.cell? ⟨w.heap.size, 1, none⟩ = some (.slice A2 0 c2) := (HF1.out.cell (World.block_lt_of_cell? _ _ y1) (fun q => q)).trans y1
  have e0x : w1.cell? ⟨w.heap.size + 1, 0, none⟩ = some (.int .i64 26) := (HF1.out.cell (World.block_lt_of_cell? _ _ e0) (fun q => q)).trans e0
  have e1x : w1.cell? ⟨w.heap.size + 1, 1, none⟩ = some (.int .i64 0) := (HF1.out.cell (World.block_lt_of_cell? _ _ e1) (fun q => q)).trans e1
  have e2x : w1.cell? ⟨w.heap.size + 1, 2, none⟩ = some (.int .i64 bb) := (HF1.out.cell (World.block_lt_of_cell? _ _ e2) (fun q => q)).trans e2
  have e3x : w1.cell? ⟨w.heap.size + 1, 3, none⟩ = some (.int .u16 (size : Int)) := (HF1.out.cell (World.block_lt_of_cell? _ _ e3) (fun q => q)).trans e3
  have e4x : w1.cell? ⟨w.heap.size + 1, 4, none⟩ = some (.int .i64 n) := (HF1.out.cell (World.block_lt_of_cell? _ _ e4) (fun q => q)).trans e4
  have e5x : w1.cell? ⟨w.heap.size + 1, 5, none⟩ = some (.int .u8 (sign.toNat : Int)) := (HF1.out.cell (World.block_lt_of_cell? _ _ e5) (fun q => q)).trans e5
  have e6x : w1.cell? ⟨w.heap.size + 1, 6, none⟩ = some (.int .i32 char) := (HF1.out.cell (World.block_lt_of_cell? _ _ e6) (fun q => q)).trans e6
  have e7x : w1.cell? ⟨w.heap.size + 1, 7, none⟩ = some (.string ⟨ctext.toArray⟩) := (HF1.out.cell (World.block_lt_of_cell? _ _ e7) (fun q => q)).trans e7
  have e8x : w1.cell? ⟨w.heap.size + 1, 8, none⟩ = some (.slice ad cuts.length cap) := (HF1.out.cell (World.block_lt_of_cell? _ _ e8) (fun q => q)).trans e8
  have u0x : w1.cell? ⟨w.heap.size + 1 + 1, 0, none⟩ = some (.slice none 0 0) := (HF1.out.cell (World.block_lt_of_cell? _ _ u0) (fun q => q)).trans u0
  have u1x : w1.cell? ⟨w.heap.size + 1 + 1, 1, none⟩ = some (.slice none 0 0) := (HF1.out.cell (World.block_lt_of_cell? _ _ u1) (fun q => q)).trans u1
  have t0x : w1.cell? ⟨w.heap.size + 1 + 1 + 1, 0, none⟩ = some (.int .i64 0) := (HF1.out.cell (World.block_lt_of_cell? _ _ t0) (fun q => q)).trans t0
  have t1x : w1.cell? ⟨w.heap.size + 1 + 1 + 1, 1, none⟩ = some (.string ⟨#[]⟩) := (HF1.out.cell (World.block_lt_of_cell? _ _ t1) (fun q => q)).trans t1
  have t2x : w1.cell? ⟨w.heap.size + 1 + 1 + 1, 2, none⟩ = some (.int .i32 0) := (HF1.out.cell (World.block_lt_of_cell? _ _ t2) (fun q => q)).trans t2
  have t3x : w1.cell? ⟨w.heap.size + 1 + 1 + 1, 3, none⟩ = some (.int .i64 0) := (HF1.out.cell (World.block_lt_of_cell? _ _ t3) (fun q => q)).trans t3
  have g0x : w1.cell? ⟨g, 0, none⟩ = some (.string ⟨text.toArray⟩) := (HF1.out.cell (World.block_lt_of_cell? _ _ g0) (fun q => q)).trans g0
  have g1x : w1.cell? ⟨g, 1, none⟩ = some (.int .i64 recent) := (HF1.out.cell (World.block_lt_of_cell? _ _ g1) (fun q => q)).trans g1
  have g2x : w1.cell? ⟨g, 2, none⟩ = some (.string ⟨last.toArray⟩) := (HF1.out.cell (World.block_lt_of_cell? _ _ g2) (fun q => q)).trans g2
  have g3x : w1.cell? ⟨g, 3, none⟩ = some (.bool begun) := (HF1.out.cell (World.block_lt_of_cell? _ _ g3) (fun q => q)).trans g3
  have uz0x : w1.frozen? ⟨w.heap.size + 1 + 1, 0, none⟩ = false := (HF1.out.frz (World.block_lt_of_cell? _ _ u0) (fun q => q)).trans uz0
  have uz1x : w1.frozen? ⟨w.heap.size + 1 + 1, 1, none⟩ = false := (HF1.out.frz (World.block_lt_of_cell? _ _ u1) (fun q => q)).trans uz1
  have tz0x : w1.frozen? ⟨w.heap.size + 1 + 1 + 1, 0, none⟩ = false := (HF1.out.frz (World.block_lt_of_cell? _ _ t0) (fun q => q)).trans tz0
  have tz1x : w1.frozen? ⟨w.heap.size + 1 + 1 + 1, 1, none⟩ = false := (HF1.out.frz (World.block_lt_of_cell? _ _ t1) (fun q => q)).trans tz1
  have tz2x : w1.frozen? ⟨w.heap.size + 1 + 1 + 1, 2, none⟩ = false := (HF1.out.frz (World.block_lt_of_cell? _ _ t2) (fun q => q)).trans tz2
  have tz3x : w1.frozen? ⟨w.heap.size + 1 + 1 + 1, 3, none⟩ = false := (HF1.out.frz (World.block_lt_of_cell? _ _ t3) (fun q => q)).trans tz3
  have gz0x : w1.frozen? ⟨g, 0, none⟩ = false := (HF1.out.frz (World.block_lt_of_cell? _ _ g0) (fun q => q)).trans gz0
  have gz1x : w1.frozen? ⟨g, 1, none⟩ = false := (HF1.out.frz (World.block_lt_of_cell? _ _ g1) (fun q => q)).trans gz1
  have gz2x : w1.frozen? ⟨g, 2, none⟩ = false := (HF1.out.frz (World.block_lt_of_cell? _ _ g2) (fun q => q)).trans gz2
  have gz3x : w1.frozen? ⟨g, 3, none⟩ = false := (HF1.out.frz (World.block_lt_of_cell? _ _ g3) (fun q => q)).trans gz3
  clear y0 y1 e0 e1 e2 e3 e4 e5 e6 e7 e8 u0 u1 t0 t1 t2 t3 g0 g1 g2 g3 uz0 uz1 tz0 tz1 tz2 tz3 gz0 gz1 gz2 gz3
  go_wp2_with fail
  obtain ⟨w5, hw5⟩ : ∃ w5, w5 = ((((w1.setCell ⟨g, 0, none⟩ (.string ⟨rt.toArray⟩)).setCell ⟨g, 1, none⟩ (.int .i64 rr)).setCell ⟨g, 2, none⟩ (.string ⟨rl.toArray⟩)).setCell ⟨g, 3, none⟩ (.bool rb)) := ⟨_, rfl⟩
  obtain ⟨r0, r1, r2, r3⟩ := near4 g0x g1x g2x g3x (.string ⟨rt.toArray⟩) (.int .i64 rr) (.string ⟨rl.toArray⟩) (.bool rb)
  rw [← hw5] at r0 r1 r2 r3 ⊢
  have hF5 : Fr (Just g) w1 w5 := by rw [hw5]; exact just4 _ _ _ _ _ _
  clear hw5
  have HFW := Lib.hid (show Fr (Just g) w w5 from ((HF0.out.trans HF1.out).mono (fun _ _ q => q.elim)).trans hF5)
  have u05 : w5.cell? ⟨w.heap.size + 1 + 1, 0, none⟩ = some (.slice none 0 0) := (hF5.cell (World.block_lt_of_cell? _ _ u0x) (fun q => by have q : w.heap.size + 1 + 1 = g := q; omega)).trans u0x
  have u15 : w5.cell? ⟨w.heap.size + 1 + 1, 1, none⟩ = some (.slice none 0 0) := (hF5.cell (World.block_lt_of_cell? _ _ u1x) (fun q => by have q : w.heap.size + 1 + 1 = g := q; omega)).trans u1x
  have t05 : w5.cell? ⟨w.heap.size + 1 + 1 + 1, 0, none⟩ = some (.int .i64 0) := (hF5.cell (World.block_lt_of_cell? _ _ t0x) (fun q => by have q : w.heap.size + 1 + 1 + 1 = g := q; omega)).trans t0x
  have t15 : w5.cell? ⟨w.heap.size + 1 + 1 + 1, 1, none⟩ = some (.string ⟨#[]⟩) := (hF5.cell (World.block_lt_of_cell? _ _ t1x) (fun q => by have q : w.heap.size + 1 + 1 + 1 = g := q; omega)).trans t1x
  have t25 : w5.cell? ⟨w.heap.size + 1 + 1 + 1, 2, none⟩ = some (.int .i32 0) := (hF5.cell (World.block_lt_of_cell? _ _ t2x) (fun q => by have q : w.heap.size + 1 + 1 + 1 = g := q; omega)).trans t2x
  have t35 : w5.cell? ⟨w.heap.size + 1 + 1 + 1, 3, none⟩ = some (.int .i64 0) := (hF5.cell (World.block_lt_of_cell? _ _ t3x) (fun q => by have q : w.heap.size + 1 + 1 + 1 = g := q; omega)).trans t3x
  obtain ⟨w8, hw8⟩ : ∃ w8, w8 = ((((((w5.setCell ⟨w.heap.size + 1 + 1, 0, none⟩ (.slice (some ⟨g, 0, none⟩) 1 c1)).setCell ⟨w.heap.size + 1 + 1, 1, none⟩ (.slice A2 0 c2)).setCell ⟨w.heap.size + 1 + 1 + 1, 0, none⟩ (.int .i64 (text.length : Int))).setCell ⟨w.heap.size + 1 + 1 + 1, 1, none⟩ (.string ⟨text.toArray⟩)).setCell ⟨w.heap.size + 1 + 1 + 1, 2, none⟩ (.int .i32 0)).setCell ⟨w.heap.size + 1 + 1 + 1, 3, none⟩ (.int .i64 0)) := ⟨_, rfl⟩
  have HF8 := Lib.hid (show Fr (Just g) w w8 by rw [hw8]; (repeat (with_reducible first | exact HF0.out.mono (fun _ _ q => q.elim) | exact HFW.out | refine Fr.setCell ?_ (fun q => by dsimp only at q ⊢; omega) _ | refine Fr.drew ?_ | refine Fr.alloc ?_ _)))
  obtain ⟨p0, p1, p2, p3, p4, p5⟩ := stores24 (w := w5) (x := w.heap.size + 1 + 1) (y := w.heap.size + 1 + 1 + 1) (by omega) u05 u15 t05 t15 t25 t35 (.slice (some ⟨g, 0, none⟩) 1 c1) (.slice A2 0 c2) (.int .i64 (text.length : Int)) (.string ⟨text.toArray⟩) (.int .i32 0) (.int .i64 0)
  have q0 : w8.cell? ⟨w.heap.size + 1 + 1, 0, none⟩ = some (.slice (some ⟨g, 0, none⟩) 1 c1) := by rw [hw8]; exact p0
  have q1 : w8.cell? ⟨w.heap.size + 1 + 1, 1, none⟩ = some (.slice A2 0 c2) := by rw [hw8]; exact p1
  have q2 : w8.cell? ⟨w.heap.size + 1 + 1 + 1, 0, none⟩ = some (.int .i64 (text.length : Int)) := by rw [hw8]; exact p2
  have q3 : w8.cell? ⟨w.heap.size + 1 + 1 + 1, 1, none⟩ = some (.string ⟨text.toArray⟩) := by rw [hw8]; exact p3
  have q4 : w8.cell? ⟨w.heap.size + 1 + 1 + 1, 2, none⟩ = some (.int .i32 0) := by rw [hw8]; exact p4
  have q5 : w8.cell? ⟨w.heap.size + 1 + 1 + 1, 3, none⟩ = some (.int .i64 0) := by rw [hw8]; exact p5
  have gg : ∀ (k : Nat) (v : Value), w5.cell? ⟨g, k, none⟩ = some v → w8.cell? ⟨g, k, none⟩ = some v := fun k v h => by rw [hw8]; exact far4 (far2 h hg3) hg4
  have HGG := Lib.hid (show w8.cell? ⟨g, 0, none⟩ = _ ∧ w8.cell? ⟨g, 1, none⟩ = _ ∧ w8.cell? ⟨g, 2, none⟩ = _ ∧ w8.cell? ⟨g, 3, none⟩ = _ from ⟨gg 0 _ r0, gg 1 _ r1, gg 2 _ r2, gg 3 _ r3⟩)
  clear gg
  rw [← hw8]
  refine bodyPost_ret (v := .tuple #[.agg #[.slice (some ⟨g, 0, none⟩) 1 c1, .slice A2 0 c2], Td.val ⟨text.length, text, 0, 0⟩, .bool true]) (by simp [results, Tryz.results44, go_sem, Td.val, Td.cells, q0, q1, q2, q3, q4, q5]) rfl ?_
  exact ⟨rfl, HGG.out.1, HGG.out.2.1, HGG.out.2.2.1, HGG.out.2.2.2, HF8.out⟩
set_option maxHeartbeats 3200000 in
set_option maxRecDepth 100000 in
theorem spf_27 (g : Nat) (text : List UInt8) (recent : Int) (last : List UInt8) (begun : Bool) (w : World) (x0 : w.cell? ⟨g, 0, none⟩ = some (.string ⟨text.toArray⟩)) (x1 : w.cell? ⟨g, 1, none⟩ = some (.int .i64 recent)) (x2 : w.cell? ⟨g, 2, none⟩ = some (.string ⟨last.toArray⟩)) (x3 : w.cell? ⟨g, 3, none⟩ = some (.bool begun)) (xz : ∀ i, w.frozen? ⟨g, i, none⟩ = false) (hl : text.length + ctext.length ≤ 1099511627776) :
    Calls Tryz.prog 44 #[.agg #[.slice (some ⟨g, 0, none⟩) 1 c1, .slice A2 0 c2], .agg #[.int .i64 27, .int .i64 0, .int .i64 bb, .int .u16 (size : Int), .int .i64 0, .int .u8 (sign.toNat : Int), .int .i32 char, .string ⟨ctext.toArray⟩, .slice ad cuts.length cap]] w (FlPost w g c1 A2 c2 (SB.other ⟨text, recent, last, begun⟩ (text ++ ctext)) ⟨ctext.length, [], 0, 0⟩ true) := by
  have hgw := World.block_lt_of_cell? _ _ x0
  dsimp only at hgw
  obtain ⟨w0, hw0⟩ : ∃ w0, w0 = ((((w.alloc (.cells #[.slice (some ⟨g, 0, none⟩) 1 c1, .slice A2 0 c2] 59)).alloc (.cells #[.int .i64 27, .int .i64 0, .int .i64 bb, .int .u16 (size : Int), .int .i64 0, .int .u8 (sign.toNat : Int), .int .i32 char, .string ⟨ctext.toArray⟩, .slice ad cuts.length cap] 36)).alloc (.cells #[.slice none 0 0, .slice none 0 0] 59)).alloc (.cells #[.int .i64 0, .string ⟨#[]⟩, .int .i32 0, .int .i64 0] 39)) := ⟨_, rfl⟩
  obtain ⟨k0, k1, k2, k3⟩ := four_blocks w (.cells #[.slice (some ⟨g, 0, none⟩) 1 c1, .slice A2 0 c2] 59) (.cells #[.int .i64 27, .int .i64 0, .int .i64 bb, .int .u16 (size : Int), .int .i64 0, .int .u8 (sign.toNat : Int), .int .i32 char, .string ⟨ctext.toArray⟩, .slice ad cuts.length cap] 36) (.cells #[.slice none 0 0, .slice none 0 0] 59) (.cells #[.int .i64 0, .string ⟨#[]⟩, .int .i32 0, .int .i64 0] 39)
  rw [← hw0] at k0 k1 k2 k3
  have hF0 : Fr (fun _ => False) w w0 := by rw [hw0]; exact (((((Fr.refl (fun _ => False) w).alloc _).alloc _).alloc _).alloc _)
  have HF0 := Lib.hid hF0
  have HW0 := Lib.hid hw0
  have hap := bytes_appL text ctext
  have hlim : ¬ (9223372036854775807 < text.length + ctext.length) := by omega
  have hc : ∀ wx, Calls Tryz.prog 57 #[SB.val ⟨text, recent, last, begun⟩, .string ⟨(text ++ ctext).toArray⟩] wx fun e w' => e = .returned (SB.val (SB.other ⟨text, recent, last, begun⟩ (text ++ ctext))) ∧ Fr (fun _ => False) wx w' := fun wx => sp_other text recent last begun (text ++ ctext) wx
  obtain ⟨rt, rr, rl, rb, hres⟩ : ∃ rt rr rl rb, SB.other ⟨text, recent, last, begun⟩ (text ++ ctext) = SB.mk rt rr rl rb := ⟨_, _, _, _, rfl⟩
  rw [hres] at hc ⊢
  simp only [SB.val, SB.cells] at hc
  have HC := Lib.hid hc
  clear hc hres
  have y0 : w0.cell? ⟨w.heap.size, 0, none⟩ = some (.slice (some ⟨g, 0, none⟩) 1 c1) := by rw [cell_of_row _ _ _ _ _ _ k0]; rfl
  have y1 : w0.cell? ⟨w.heap.size, 1, none⟩ = some (.slice A2 0 c2) := by rw [cell_of_row _ _ _ _ _ _ k0]; rfl
  have e0 : w0.cell? ⟨w.heap.size + 1, 0, none⟩ = some (.int .i64 27) := by rw [cell_of_row _ _ _ _ _ _ k1]; rfl
  have e1 : w0.cell? ⟨w.heap.size + 1, 1, none⟩ = some (.int .i64 0) := by rw [cell_of_row _ _ _ _ _ _ k1]; rfl
  have e2 : w0.cell? ⟨w.heap.size + 1, 2, none⟩ = some (.int .i64 bb) := by rw [cell_of_row _ _ _ _ _ _ k1]; rfl
  have e3 : w0.cell? ⟨w.heap.size + 1, 3, none⟩ = some (.int .u16 (size : Int)) := by rw [cell_of_row _ _ _ _ _ _ k1]; rfl
  have e4 : w0.cell? ⟨w.heap.size + 1, 4, none⟩ = some (.int .i64 0) := by rw [cell_of_row _ _ _ _ _ _ k1]; rfl
  have e5 : w0.cell? ⟨w.heap.size + 1, 5, none⟩ = some (.int .u8 (sign.toNat : Int)) := by rw [cell_of_row _ _ _ _ _ _ k1]; rfl
  have e6 : w0.cell? ⟨w.heap.size + 1, 6, none⟩ = some (.int .i32 char) := by rw [cell_of_row _ _ _ _ _ _ k1]; rfl
  have e7 : w0.cell? ⟨w.heap.size + 1, 7, none⟩ = some (.string ⟨ctext.toArray⟩) := by rw [cell_of_row _ _ _ _ _ _ k1]; rfl
  have e8 : w0.cell? ⟨w.heap.size + 1, 8, none⟩ = some (.slice ad cuts.length cap) := by rw [cell_of_row _ _ _ _ _ _ k1]; rfl
  have u0 : w0.cell? ⟨w.heap.size + 1 + 1, 0, none⟩ = some (.slice none 0 0) := by rw [cell_of_row _ _ _ _ _ _ k2]; rfl
  have u1 : w0.cell? ⟨w.heap.size + 1 + 1, 1, none⟩ = some (.slice none 0 0) := by rw [cell_of_row _ _ _ _ _ _ k2]; rfl
  have t0 : w0.cell? ⟨w.heap.size + 1 + 1 + 1, 0, none⟩ = some (.int .i64 0) := by rw [cell_of_row _ _ _ _ _ _ k3]; rfl
  have t1 : w0.cell? ⟨w.heap.size + 1 + 1 + 1, 1, none⟩ = some (.string ⟨#[]⟩) := by rw [cell_of_row _ _ _ _ _ _ k3]; rfl
  have t2 : w0.cell? ⟨w.heap.size + 1 + 1 + 1, 2, none⟩ = some (.int .i32 0) := by rw [cell_of_row _ _ _ _ _ _ k3]; rfl
  have t3 : w0.cell? ⟨w.heap.size + 1 + 1 + 1, 3, none⟩ = some (.int .i64 0) := by rw [cell_of_row _ _ _ _ _ _ k3]; rfl
  have uz0 := frozen_row k2 0
  have uz1 := frozen_row k2 1
  have tz0 := frozen_row k3 0
  have tz1 := frozen_row k3 1
  have tz2 := frozen_row k3 2
  have tz3 := frozen_row k3 3
  have g0 := (hF0.cell (World.block_lt_of_cell? _ _ x0) (fun q => q)).trans x0
  have gz0 := (hF0.frz (World.block_lt_of_cell? _ _ x0) (fun q => q)).trans (xz 0)
  have g1 := (hF0.cell (World.block_lt_of_cell? _ _ x1) (fun q => q)).trans x1
  have gz1 := (hF0.frz (World.block_lt_of_cell? _ _ x1) (fun q => q)).trans (xz 1)
  have g2 := (hF0.cell (World.block_lt_of_cell? _ _ x2) (fun q => q)).trans x2
  have gz2 := (hF0.frz (World.block_lt_of_cell? _ _ x2) (fun q => q)).trans (xz 2)
  have g3 := (hF0.cell (World.block_lt_of_cell? _ _ x3) (fun q => q)).trans x3
  have gz3 := (hF0.frz (World.block_lt_of_cell? _ _ x3) (fun q => q)).trans (xz 3)
  have hlt := lt_of_blk k3
  have hg1 : ¬ (g = w.heap.size) := by omega
  have hg2 : ¬ (g = w.heap.size + 1) := by omega
  have hg3 : ¬ (g = w.heap.size + 1 + 1) := by omega
  have hg4 : ¬ (g = w.heap.size + 1 + 1 + 1) := by omega
  have gl0 : ((((w.alloc (.cells #[.slice (some ⟨g, 0, none⟩) 1 c1, .slice A2 0 c2] 59)).alloc (.cells #[.int .i64 27, .int .i64 0, .int .i64 bb, .int .u16 (size : Int), .int .i64 0, .int .u8 (sign.toNat : Int), .int .i32 char, .string ⟨ctext.toArray⟩, .slice ad cuts.length cap] 36)).alloc (.cells #[.slice none 0 0, .slice none 0 0] 59)).alloc (.cells #[.int .i64 0, .string ⟨#[]⟩, .int .i32 0, .int .i64 0] 39)).cell? ⟨g, 0, none⟩ = some (.string ⟨text.toArray⟩) := by rw [← HW0.out]; exact g0
  have gzl0 : ((((w.alloc (.cells #[.slice (some ⟨g, 0, none⟩) 1 c1, .slice A2 0 c2] 59)).alloc (.cells #[.int .i64 27, .int .i64 0, .int .i64 bb, .int .u16 (size : Int), .int .i64 0, .int .u8 (sign.toNat : Int), .int .i32 char, .string ⟨ctext.toArray⟩, .slice ad cuts.length cap] 36)).alloc (.cells #[.slice none 0 0, .slice none 0 0] 59)).alloc (.cells #[.int .i64 0, .string ⟨#[]⟩, .int .i32 0, .int .i64 0] 39)).frozen? ⟨g, 0, none⟩ = false := by rw [← HW0.out]; exact gz0
  have gl1 : ((((w.alloc (.cells #[.slice (some ⟨g, 0, none⟩) 1 c1, .slice A2 0 c2] 59)).alloc (.cells #[.int .i64 27, .int .i64 0, .int .i64 bb, .int .u16 (size : Int), .int .i64 0, .int .u8 (sign.toNat : Int), .int .i32 char, .string ⟨ctext.toArray⟩, .slice ad cuts.length cap] 36)).alloc (.cells #[.slice none 0 0, .slice none 0 0] 59)).alloc (.cells #[.int .i64 0, .string ⟨#[]⟩, .int .i32 0, .int .i64 0] 39)).cell? ⟨g, 1, none⟩ = some (.int .i64 recent) := by rw [← HW0.out]; exact g1
  have gzl1 : ((((w.alloc (.cells #[.slice (some ⟨g, 0, none⟩) 1 c1, .slice A2 0 c2] 59)).alloc (.cells #[.int .i64 27, .int .i64 0, .int .i64 bb, .int .u16 (size : Int), .int .i64 0, .int .u8 (sign.toNat : Int), .int .i32 char, .string ⟨ctext.toArray⟩, .slice ad cuts.length cap] 36)).alloc (.cells #[.slice none 0 0, .slice none 0 0] 59)).alloc (.cells #[.int .i64 0, .string ⟨#[]⟩, .int .i32 0, .int .i64 0] 39)).frozen? ⟨g, 1, none⟩ = false := by rw [← HW0.out]; exact gz1
  have gl2 : ((((w.alloc (.cells #[.slice (some ⟨g, 0, none⟩) 1 c1, .slice A2 0 c2] 59)).alloc (.cells #[.int .i64 27, .int .i64 0, .int .i64 bb, .int .u16 (size : Int), .int .i64 0, .int .u8 (sign.toNat : Int), .int .i32 char, .string ⟨ctext.toArray⟩, .slice ad cuts.length cap] 36)).alloc (.cells #[.slice none 0 0, .slice none 0 0] 59)).alloc (.cells #[.int .i64 0, .string ⟨#[]⟩, .int .i32 0, .int .i64 0] 39)).cell? ⟨g, 2, none⟩ = some (.string ⟨last.toArray⟩) := by rw [← HW0.out]; exact g2
  have gzl2 : ((((w.alloc (.cells #[.slice (some ⟨g, 0, none⟩) 1 c1, .slice A2 0 c2] 59)).alloc (.cells #[.int .i64 27, .int .i64 0, .int .i64 bb, .int .u16 (size : Int), .int .i64 0, .int .u8 (sign.toNat : Int), .int .i32 char, .string ⟨ctext.toArray⟩, .slice ad cuts.length cap] 36)).alloc (.cells #[.slice none 0 0, .slice none 0 0] 59)).alloc (.cells #[.int .i64 0, .string ⟨#[]⟩, .int .i32 0, .int .i64 0] 39)).frozen? ⟨g, 2, none⟩ = false := by rw [← HW0.out]; exact gz2
  have gl3 : ((((w.alloc (.cells #[.slice (some ⟨g, 0, none⟩) 1 c1, .slice A2 0 c2] 59)).alloc (.cells #[.int .i64 27, .int .i64 0, .int .i64 bb, .int .u16 (size : Int), .int .i64 0, .int .u8 (sign.toNat : Int), .int .i32 char, .string ⟨ctext.toArray⟩, .slice ad cuts.length cap] 36)).alloc (.cells #[.slice none 0 0, .slice none 0 0] 59)).alloc (.cells #[.int .i64 0, .string ⟨#[]⟩, .int .i32 0, .int .i64 0] 39)).cell? ⟨g, 3, none⟩ = some (.bool begun) := by rw [← HW0.out]; exact g3
  have gzl3 : ((((w.alloc (.cells #[.slice (some ⟨g, 0, none⟩) 1 c1, .slice A2 0 c2] 59)).alloc (.cells #[.int .i64 27, .int .i64 0, .int .i64 bb, .int .u16 (size : Int), .int .i64 0, .int .u8 (sign.toNat : Int), .int .i32 char, .string ⟨ctext.toArray⟩, .slice ad cuts.length cap] 36)).alloc (.cells #[.slice none 0 0, .slice none 0 0] 59)).alloc (.cells #[.int .i64 0, .string ⟨#[]⟩, .int .i32 0, .int .i64 0] 39)).frozen? ⟨g, 3, none⟩ = false := by rw [← HW0.out]; exact gz3
  clear hw0 hF0 k0 k1 k2 k3 xz
  go_enter Tryz.func44, Tryz.ntmps44
  go_wp2_with fail
  rw [← HW0.out]
  go_region_law (go_simp; go_at_call 57; refine (HC.out _).mono ?_; rintro e w1 ⟨rfl, F1⟩; have HF1 := Lib.hid (((Fr.refl (fun _ => False) w0).drew).trans F1); clear F1; have y0x : w1.cell? ⟨w.heap.size, 0, none⟩ = some (.slice (some ⟨g, 0, none⟩) 1 c1) := (HF1.out.cell (World.block_lt_of_cell? _ _ y0) (fun q => q)).trans y0; have y1x : w1.cell? ⟨w.heap.size, 1, none⟩ = some (.slice A2 0 c2) := (HF1.out.cell (World.block_lt_of_cell? _ _ y1) (fun q => q)).trans y1; have e0x : w1.cell? ⟨w.heap.size + 1, 0, none⟩ = some (.int .i64 27) := (HF1.out.cell (World.block_lt_of_cell? _ _ e0) (fun q => q)).trans e0; have e1x : w1.cell? ⟨w.heap.size + 1, 1, none⟩ = some (.int .i64 0) := (HF1.out.cell (World.block_lt_of_cell? _ _ e1) (fun q => q)).trans e1; have e2x : w1.cell? ⟨w.heap.size + 1, 2, none⟩ = some (.int .i64 bb) := (HF1.out.cell (World.block_lt_of_cell? _ _ e2) (fun q => q)).trans e2; have e3x : w1.cell? ⟨w.heap.size + 1, 3, none⟩ = some (.int .u16 (size : Int)) := (HF1.out.cell (World.block_lt_of_cell? _ _ e3) (fun q => q)).trans e3; have e4x : w1.cell? ⟨w.heap.size + 1, 4, none⟩ = some (.int .i64 0) := (HF1.out.cell (World.block_lt_of_cell? _ _ e4) (fun q => q)).trans e4; have e5x : w1.cell? ⟨w.heap.size + 1, 5, none⟩ = some (.int .u8 (sign.toNat : Int)) := (HF1.out.cell (World.block_lt_of_cell? _ _ e5) (fun q => q)).trans e5; have e6x : w1.cell? ⟨w.heap.size + 1, 6, none⟩ = some (.int .i32 char) := (HF1.out.cell (World.block_lt_of_cell? _ _ e6) (fun q => q)).trans e6; have e7x : w1.cell? ⟨w.heap.size + 1, 7, none⟩ = some (.string ⟨ctext.toArray⟩) := (HF1.out.cell (World.block_lt_of_cell? _ _ e7) (fun q => q)).trans e7; have e8x : w1.cell? ⟨w.heap.size + 1, 8, none⟩ = some (.slice ad cuts.length cap) := (HF1.out.cell (World.block_lt_of_cell? _ _ e8) (fun q => q)).trans e8; have u0x : w1.cell? ⟨w.heap.size + 1 + 1, 0, none⟩ = some (.slice none 0 0) := (HF1.out.cell (World.block_lt_of_cell? _ _ u0) (fun q => q)).trans u0; have u1x : w1.cell? ⟨w.heap.size + 1 + 1, 1, none⟩ = some (.slice none 0 0) := (HF1.out.cell (World.block_lt_of_cell? _ _ u1) (fun q => q)).trans u1; have t0x : w1.cell? ⟨w.heap.size + 1 + 1 + 1, 0, none⟩ = some (.int .i64 0) := (HF1.out.cell (World.block_lt_of_cell? _ _ t0) (fun q => q)).trans t0; have t1x : w1.cell? ⟨w.heap.size + 1 + 1 + 1, 1, none⟩ = some (.string ⟨#[]⟩) := (HF1.out.cell (World.block_lt_of_cell? _ _ t1) (fun q => q)).trans t1; have t2x : w1.cell? ⟨w.heap.size + 1 + 1 + 1, 2, none⟩ = some (.int .i32 0) := (HF1.out.cell (World.block_lt_of_cell? _ _ t2) (fun q => q)).trans t2; have t3x : w1.cell? ⟨w.heap.size + 1 + 1 + 1, 3, none⟩ = some (.int .i64 0) := (HF1.out.cell (World.block_lt_of_cell? _ _ t3) (fun q => q)).trans t3; have g0x : w1.cell? ⟨g, 0, none⟩ = some (.string ⟨text.toArray⟩) := (HF1.out.cell (World.block_lt_of_cell? _ _ g0) (fun q => q)).trans g0; have g1x : w1.cell? ⟨g, 1, none⟩ = some (.int .i64 recent) := (HF1.out.cell (World.block_lt_of_cell? _ _ g1) (fun q => q)).trans g1; have g2x : w1.cell? ⟨g, 2, none⟩ = some (.string ⟨last.toArray⟩) := (HF1.out.cell (World.block_lt_of_cell? _ _ g2) (fun q => q)).trans g2; have g3x : w1.cell? ⟨g, 3, none⟩ = some (.bool begun) := (HF1.out.cell (World.block_lt_of_cell? _ _ g3) (fun q => q)).trans g3; have uz0x : w1.frozen? ⟨w.heap.size + 1 + 1, 0, none⟩ = false := (HF1.out.frz (World.block_lt_of_cell? _ _ u0) (fun q => q)).trans uz0; have uz1x : w1.frozen? ⟨w.heap.size + 1 + 1, 1, none⟩ = false := (HF1.out.frz (World.block_lt_of_cell? _ _ u1) (fun q => q)).trans uz1; have tz0x : w1.frozen? ⟨w.heap.size + 1 + 1 + 1, 0, none⟩ = false := (HF1.out.frz (World.block_lt_of_cell? _ _ t0) (fun q => q)).trans tz0; have tz1x : w1.frozen? ⟨w.heap.size + 1 + 1 + 1, 1, none⟩ = false := (HF1.out.frz (World.block_lt_of_cell? _ _ t1) (fun q => q)).trans tz1; have tz2x : w1.frozen? ⟨w.heap.size + 1 + 1 + 1, 2, none⟩ = false := (HF1.out.frz (World.block_lt_of_cell? _ _ t2) (fun q => q)).trans tz2; have tz3x : w1.frozen? ⟨w.heap.size + 1 + 1 + 1, 3, none⟩ = false := (HF1.out.frz (World.block_lt_of_cell? _ _ t3) (fun q => q)).trans tz3; have gz0x : w1.frozen? ⟨g, 0, none⟩ = false := (HF1.out.frz (World.block_lt_of_cell? _ _ g0) (fun q => q)).trans gz0; have gz1x : w1.frozen? ⟨g, 1, none⟩ = false := (HF1.out.frz (World.block_lt_of_cell? _ _ g1) (fun q => q)).trans gz1; have gz2x : w1.frozen? ⟨g, 2, none⟩ = false := (HF1.out.frz (World.block_lt_of_cell? _ _ g2) (fun q => q)).trans gz2; have gz3x : w1.frozen? ⟨g, 3, none⟩ = false := (HF1.out.frz (World.block_lt_of_cell? _ _ g3) (fun q => q)).trans gz3)
  all_goals
    clear y0 y1 e0 e1 e2 e3 e4 e5 e6 e7 e8 u0 u1 t0 t1 t2 t3 g0 g1 g2 g3 uz0 uz1 tz0 tz1 tz2 tz3 gz0 gz1 gz2 gz3
    obtain ⟨w5, hw5⟩ : ∃ w5, w5 = ((((w1.setCell ⟨g, 0, none⟩ (.string ⟨rt.toArray⟩)).setCell ⟨g, 1, none⟩ (.int .i64 rr)).setCell ⟨g, 2, none⟩ (.string ⟨rl.toArray⟩)).setCell ⟨g, 3, none⟩ (.bool rb)) := ⟨_, rfl⟩
    obtain ⟨r0, r1, r2, r3⟩ := near4 g0x g1x g2x g3x (.string ⟨rt.toArray⟩) (.int .i64 rr) (.string ⟨rl.toArray⟩) (.bool rb)
    rw [← hw5] at r0 r1 r2 r3 ⊢
    have hF5 : Fr (Just g) w1 w5 := by rw [hw5]; exact just4 _ _ _ _ _ _
    clear hw5
    have HFW5 := Lib.hid (show Fr (Just g) w w5 from ((HF0.out.trans HF1.out).mono (fun _ _ q => q.elim)).trans hF5)
    have y0v : w5.cell? ⟨w.heap.size, 0, none⟩ = some (.slice (some ⟨g, 0, none⟩) 1 c1) := (hF5.cell (World.block_lt_of_cell? _ _ y0x) (fun q => by have q : w.heap.size = g := q; omega)).trans y0x
    have y1v : w5.cell? ⟨w.heap.size, 1, none⟩ = some (.slice A2 0 c2) := (hF5.cell (World.block_lt_of_cell? _ _ y1x) (fun q => by have q : w.heap.size = g := q; omega)).trans y1x
    have e4v : w5.cell? ⟨w.heap.size + 1, 4, none⟩ = some (.int .i64 0) := (hF5.cell (World.block_lt_of_cell? _ _ e4x) (fun q => by have q : w.heap.size + 1 = g := q; omega)).trans e4x
    have e7v : w5.cell? ⟨w.heap.size + 1, 7, none⟩ = some (.string ⟨ctext.toArray⟩) := (hF5.cell (World.block_lt_of_cell? _ _ e7x) (fun q => by have q : w.heap.size + 1 = g := q; omega)).trans e7x
    have u0v : w5.cell? ⟨w.heap.size + 1 + 1, 0, none⟩ = some (.slice none 0 0) := (hF5.cell (World.block_lt_of_cell? _ _ u0x) (fun q => by have q : w.heap.size + 1 + 1 = g := q; omega)).trans u0x
    have u1v : w5.cell? ⟨w.heap.size + 1 + 1, 1, none⟩ = some (.slice none 0 0) := (hF5.cell (World.block_lt_of_cell? _ _ u1x) (fun q => by have q : w.heap.size + 1 + 1 = g := q; omega)).trans u1x
    have t0v : w5.cell? ⟨w.heap.size + 1 + 1 + 1, 0, none⟩ = some (.int .i64 0) := (hF5.cell (World.block_lt_of_cell? _ _ t0x) (fun q => by have q : w.heap.size + 1 + 1 + 1 = g := q; omega)).trans t0x
    have t1v : w5.cell? ⟨w.heap.size + 1 + 1 + 1, 1, none⟩ = some (.string ⟨#[]⟩) := (hF5.cell (World.block_lt_of_cell? _ _ t1x) (fun q => by have q : w.heap.size + 1 + 1 + 1 = g := q; omega)).trans t1x
    have t2v : w5.cell? ⟨w.heap.size + 1 + 1 + 1, 2, none⟩ = some (.int .i32 0) := (hF5.cell (World.block_lt_of_cell? _ _ t2x) (fun q => by have q : w.heap.size + 1 + 1 + 1 = g := q; omega)).trans t2x
    have t3v : w5.cell? ⟨w.heap.size + 1 + 1 + 1, 3, none⟩ = some (.int .i64 0) := (hF5.cell (World.block_lt_of_cell? _ _ t3x) (fun q => by have q : w.heap.size + 1 + 1 + 1 = g := q; omega)).trans t3x
    have uz0v : w5.frozen? ⟨w.heap.size + 1 + 1, 0, none⟩ = false := (hF5.frz (World.block_lt_of_cell? _ _ u0x) (fun q => by have q : w.heap.size + 1 + 1 = g := q; omega)).trans uz0x
    have uz1v : w5.frozen? ⟨w.heap.size + 1 + 1, 1, none⟩ = false := (hF5.frz (World.block_lt_of_cell? _ _ u1x) (fun q => by have q : w.heap.size + 1 + 1 = g := q; omega)).trans uz1x
    have tz0v : w5.frozen? ⟨w.heap.size + 1 + 1 + 1, 0, none⟩ = false := (hF5.frz (World.block_lt_of_cell? _ _ t0x) (fun q => by have q : w.heap.size + 1 + 1 + 1 = g := q; omega)).trans tz0x
    have tz1v : w5.frozen? ⟨w.heap.size + 1 + 1 + 1, 1, none⟩ = false := (hF5.frz (World.block_lt_of_cell? _ _ t1x) (fun q => by have q : w.heap.size + 1 + 1 + 1 = g := q; omega)).trans tz1x
    have tz2v : w5.frozen? ⟨w.heap.size + 1 + 1 + 1, 2, none⟩ = false := (hF5.frz (World.block_lt_of_cell? _ _ t2x) (fun q => by have q : w.heap.size + 1 + 1 + 1 = g := q; omega)).trans tz2x
    have tz3v : w5.frozen? ⟨w.heap.size + 1 + 1 + 1, 3, none⟩ = false := (hF5.frz (World.block_lt_of_cell? _ _ t3x) (fun q => by have q : w.heap.size + 1 + 1 + 1 = g := q; omega)).trans tz3x
    have hw5l := World.block_lt_of_cell? _ _ t0v
    dsimp only at hw5l
    have e4l : ∀ o : Obj, (w5.alloc o).cell? ⟨w.heap.size + 1, 4, none⟩ = some (.int .i64 0) := fun o => alloc_cell e4v
    clear hF5 y0x y1x e0x e1x e2x e3x e4x e5x e6x e7x e8x u0x u1x t0x t1x t2x t3x g0x g1x g2x g3x uz0x uz1x tz0x tz1x tz2x tz3x gz0x gz1x gz2x gz3x
    go_wp2_with fail
    obtain ⟨w6, hw6⟩ : ∃ w6, w6 = (w5.alloc (.cells #[.int .i64 (ctext.length : Int), .string ⟨#[]⟩, .int .i32 0, .int .i64 0] 39)) := ⟨_, rfl⟩
    rw [← hw6]
    have y06 : w6.cell? ⟨w.heap.size, 0, none⟩ = some (.slice (some ⟨g, 0, none⟩) 1 c1) := by rw [hw6]; exact alloc_cell y0v
    have y16 : w6.cell? ⟨w.heap.size, 1, none⟩ = some (.slice A2 0 c2) := by rw [hw6]; exact alloc_cell y1v
    have e46 : w6.cell? ⟨w.heap.size + 1, 4, none⟩ = some (.int .i64 0) := by rw [hw6]; exact alloc_cell e4v
    have e76 : w6.cell? ⟨w.heap.size + 1, 7, none⟩ = some (.string ⟨ctext.toArray⟩) := by rw [hw6]; exact alloc_cell e7v
    have u06 : w6.cell? ⟨w.heap.size + 1 + 1, 0, none⟩ = some (.slice none 0 0) := by rw [hw6]; exact alloc_cell u0v
    have u16 : w6.cell? ⟨w.heap.size + 1 + 1, 1, none⟩ = some (.slice none 0 0) := by rw [hw6]; exact alloc_cell u1v
    have t06 : w6.cell? ⟨w.heap.size + 1 + 1 + 1, 0, none⟩ = some (.int .i64 0) := by rw [hw6]; exact alloc_cell t0v
    have t16 : w6.cell? ⟨w.heap.size + 1 + 1 + 1, 1, none⟩ = some (.string ⟨#[]⟩) := by rw [hw6]; exact alloc_cell t1v
    have t26 : w6.cell? ⟨w.heap.size + 1 + 1 + 1, 2, none⟩ = some (.int .i32 0) := by rw [hw6]; exact alloc_cell t2v
    have t36 : w6.cell? ⟨w.heap.size + 1 + 1 + 1, 3, none⟩ = some (.int .i64 0) := by rw [hw6]; exact alloc_cell t3v
    have r06 : w6.cell? ⟨g, 0, none⟩ = some (.string ⟨rt.toArray⟩) := by rw [hw6]; exact alloc_cell r0
    have r16 : w6.cell? ⟨g, 1, none⟩ = some (.int .i64 rr) := by rw [hw6]; exact alloc_cell r1
    have r26 : w6.cell? ⟨g, 2, none⟩ = some (.string ⟨rl.toArray⟩) := by rw [hw6]; exact alloc_cell r2
    have r36 : w6.cell? ⟨g, 3, none⟩ = some (.bool rb) := by rw [hw6]; exact alloc_cell r3
    have uz06 : w6.frozen? ⟨w.heap.size + 1 + 1, 0, none⟩ = false := by rw [hw6]; exact (((Fr.refl (fun _ => False) w5).alloc _).frz (World.block_lt_of_cell? _ _ u0v) (fun q => q)).trans uz0v
    have uz16 : w6.frozen? ⟨w.heap.size + 1 + 1, 1, none⟩ = false := by rw [hw6]; exact (((Fr.refl (fun _ => False) w5).alloc _).frz (World.block_lt_of_cell? _ _ u1v) (fun q => q)).trans uz1v
    have tz06 : w6.frozen? ⟨w.heap.size + 1 + 1 + 1, 0, none⟩ = false := by rw [hw6]; exact (((Fr.refl (fun _ => False) w5).alloc _).frz (World.block_lt_of_cell? _ _ t0v) (fun q => q)).trans tz0v
    have tz16 : w6.frozen? ⟨w.heap.size + 1 + 1 + 1, 1, none⟩ = false := by rw [hw6]; exact (((Fr.refl (fun _ => False) w5).alloc _).frz (World.block_lt_of_cell? _ _ t1v) (fun q => q)).trans tz1v
    have tz26 : w6.frozen? ⟨w.heap.size + 1 + 1 + 1, 2, none⟩ = false := by rw [hw6]; exact (((Fr.refl (fun _ => False) w5).alloc _).frz (World.block_lt_of_cell? _ _ t2v) (fun q => q)).trans tz2v
    have tz36 : w6.frozen? ⟨w.heap.size + 1 + 1 + 1, 3, none⟩ = false := by rw [hw6]; exact (((Fr.refl (fun _ => False) w5).alloc _).frz (World.block_lt_of_cell? _ _ t3v) (fun q => q)).trans tz3v
    obtain ⟨s0, s1, s2, s3, _⟩ := row4 (heap_alloc_new w5 (.cells #[.int .i64 (ctext.length : Int), .string ⟨#[]⟩, .int .i32 0, .int .i64 0] 39))
    rw [← hw6] at s0 s1 s2 s3
    have HFW := Lib.hid (show Fr (Just g) w w6 by rw [hw6]; exact HFW5.out.alloc _)
    clear hw6 y0v y1v e4v e7v u0v u1v t0v t1v t2v t3v uz0v uz1v tz0v tz1v tz2v tz3v r0 r1 r2 r3
    go_region_held3 (fun w' => w'.cell? ⟨w.heap.size, 0, none⟩ = some (.slice (some ⟨g, 0, none⟩) 1 c1) ∧ w'.cell? ⟨w.heap.size, 1, none⟩ = some (.slice A2 0 c2) ∧ w'.cell? ⟨w5.heap.size, 0, none⟩ = some (.int .i64 (ctext.length : Int)) ∧ w'.cell? ⟨w5.heap.size, 1, none⟩ = some (.string ⟨#[]⟩) ∧ w'.cell? ⟨w5.heap.size, 2, none⟩ = some (.int .i32 0) ∧ w'.cell? ⟨w5.heap.size, 3, none⟩ = some (.int .i64 0)) (((repeat' apply And.intro) <;> (try simp only [World.cell?_drew]) <;> first | with_reducible assumption | with_reducible exact alloc_cell (by with_reducible assumption) | with_reducible exact alloc_cell (alloc_cell (by with_reducible assumption)) | with_reducible exact far2 (by with_reducible assumption) (by dsimp only; omega) | with_reducible exact far4 (far2 (by with_reducible assumption) (by dsimp only; omega)) (by dsimp only; omega) | with_reducible exact far4 (by with_reducible assumption) (by dsimp only; omega) | with_reducible exact far4 (far4 (by with_reducible assumption) (by dsimp only; omega)) (by dsimp only; omega) | with_reducible exact far4 (alloc_cell (by with_reducible assumption)) (by dsimp only; omega) | with_reducible exact alloc_cell (far4 (by with_reducible assumption) (by dsimp only; omega)) | with_reducible exact far4 (far4 (alloc_cell (by with_reducible assumption)) (by dsimp only; omega)) (by dsimp only; omega) | with_reducible exact far4 (alloc_cell (alloc_cell (by with_reducible assumption))) (by dsimp only; omega) | with_reducible exact far4 (alloc_cell (far4 (by with_reducible assumption) (by dsimp only; omega))) (by dsimp only; omega))) (fail)
    go_wp2_with fail
    obtain ⟨w8, hw8⟩ : ∃ w8, w8 = ((((((w6.setCell ⟨w.heap.size + 1 + 1, 0, none⟩ (.slice (some ⟨g, 0, none⟩) 1 c1)).setCell ⟨w.heap.size + 1 + 1, 1, none⟩ (.slice A2 0 c2)).setCell ⟨w.heap.size + 1 + 1 + 1, 0, none⟩ (.int .i64 (ctext.length : Int))).setCell ⟨w.heap.size + 1 + 1 + 1, 1, none⟩ (.string ⟨#[]⟩)).setCell ⟨w.heap.size + 1 + 1 + 1, 2, none⟩ (.int .i32 0)).setCell ⟨w.heap.size + 1 + 1 + 1, 3, none⟩ (.int .i64 0)).drew := ⟨_, rfl⟩
    have HF8 := Lib.hid (show Fr (Just g) w w8 by rw [hw8]; (repeat (with_reducible first | exact HF0.out.mono (fun _ _ q => q.elim) | exact HFW.out | refine Fr.setCell ?_ (fun q => by dsimp only at q ⊢; omega) _ | refine Fr.drew ?_ | refine Fr.alloc ?_ _)))
    obtain ⟨p0, p1, p2, p3, p4, p5⟩ := stores24 (w := w6) (x := w.heap.size + 1 + 1) (y := w.heap.size + 1 + 1 + 1) (by omega) u06 u16 t06 t16 t26 t36 (.slice (some ⟨g, 0, none⟩) 1 c1) (.slice A2 0 c2) (.int .i64 (ctext.length : Int)) (.string ⟨#[]⟩) (.int .i32 0) (.int .i64 0)
    have q0 : w8.cell? ⟨w.heap.size + 1 + 1, 0, none⟩ = some (.slice (some ⟨g, 0, none⟩) 1 c1) := by rw [hw8, World.cell?_drew]; exact p0
    have q1 : w8.cell? ⟨w.heap.size + 1 + 1, 1, none⟩ = some (.slice A2 0 c2) := by rw [hw8, World.cell?_drew]; exact p1
    have q2 : w8.cell? ⟨w.heap.size + 1 + 1 + 1, 0, none⟩ = some (.int .i64 (ctext.length : Int)) := by rw [hw8, World.cell?_drew]; exact p2
    have q3 : w8.cell? ⟨w.heap.size + 1 + 1 + 1, 1, none⟩ = some (.string ⟨#[]⟩) := by rw [hw8, World.cell?_drew]; exact p3
    have q4 : w8.cell? ⟨w.heap.size + 1 + 1 + 1, 2, none⟩ = some (.int .i32 0) := by rw [hw8, World.cell?_drew]; exact p4
    have q5 : w8.cell? ⟨w.heap.size + 1 + 1 + 1, 3, none⟩ = some (.int .i64 0) := by rw [hw8, World.cell?_drew]; exact p5
    have gg : ∀ (k : Nat) (v : Value), w6.cell? ⟨g, k, none⟩ = some v → w8.cell? ⟨g, k, none⟩ = some v := fun k v h => by rw [hw8, World.cell?_drew]; exact far4 (far2 h hg3) hg4
    have HGG := Lib.hid (show w8.cell? ⟨g, 0, none⟩ = _ ∧ w8.cell? ⟨g, 1, none⟩ = _ ∧ w8.cell? ⟨g, 2, none⟩ = _ ∧ w8.cell? ⟨g, 3, none⟩ = _ from ⟨gg 0 _ r06, gg 1 _ r16, gg 2 _ r26, gg 3 _ r36⟩)
    clear gg
    rw [← hw8]
    refine bodyPost_ret (v := .tuple #[.agg #[.slice (some ⟨g, 0, none⟩) 1 c1, .slice A2 0 c2], Td.val ⟨ctext.length, [], 0, 0⟩, .bool true]) (by simp [results, Tryz.results44, go_sem, Td.val, Td.cells, q0, q1, q2, q3, q4, q5]) rfl ?_
    exact ⟨rfl, HGG.out.1, HGG.out.2.1, HGG.out.2.2.1, HGG.out.2.2.2, HF8.out⟩
set_option maxHeartbeats 3200000 in
set_option maxRecDepth 100000 in
theorem spg_flow (w : World) (text : List UInt8) (recent : Int) (last : List UInt8) (begun : Bool) (h1 : ¬ op < 1) (h2 : ¬ 36 ≤ op) (h3 : ¬ 28 ≤ op) (h4 : 23 ≤ op) (hY : YV w A1 1 c1 A2 0 c2 (yd1 ⟨text, recent, last, begun⟩))
    (R : SB) (T : Td) (O : Bool) (hc0 : ∀ (g d1 : Nat) (B2 : Option Addr) (d2 : Nat) (wx : World), wx.cell? ⟨g, 0, none⟩ = some (.string ⟨text.toArray⟩) → wx.cell? ⟨g, 1, none⟩ = some (.int .i64 recent) → wx.cell? ⟨g, 2, none⟩ = some (.string ⟨last.toArray⟩) → wx.cell? ⟨g, 3, none⟩ = some (.bool begun) → (∀ i, wx.frozen? ⟨g, i, none⟩ = false) → Calls Tryz.prog 44 #[.agg #[.slice (some ⟨g, 0, none⟩) 1 d1, .slice B2 0 d2], .agg #[.int .i64 op, .int .i64 0, .int .i64 bb, .int .u16 (size : Int), .int .i64 n, .int .u8 (sign.toNat : Int), .int .i32 char, .string ⟨ctext.toArray⟩, .slice ad cuts.length cap]] wx (FlPost wx g d1 B2 d2 R T O)) :
    Calls Tryz.prog 30 #[.agg #[.slice A1 1 c1, .slice A2 0 c2], .agg #[.int .i64 op, .int .i64 0, .int .i64 bb, .int .u16 (size : Int), .int .i64 n, .int .u8 (sign.toNat : Int), .int .i32 char, .string ⟨ctext.toArray⟩, .slice ad cuts.length cap]] w (YPost w A1 A2 (yd1 R, T, O)) := by
  obtain ⟨w0, hw0⟩ : ∃ w0, w0 = (((((w.alloc (.cells #[.slice A1 1 c1, .slice A2 0 c2] 59)).alloc (.cells #[.int .i64 op, .int .i64 0, .int .i64 bb, .int .u16 (size : Int), .int .i64 n, .int .u8 (sign.toNat : Int), .int .i32 char, .string ⟨ctext.toArray⟩, .slice ad cuts.length cap] 36)).alloc (.cells #[.slice none 0 0, .slice none 0 0] 59)).alloc (.cells #[.int .i64 0, .string ⟨#[]⟩, .int .i32 0, .int .i64 0] 39)).alloc (.cells #[.int .i64 0, .string ⟨#[]⟩, .int .i32 0, .int .i64 4] 39)) := ⟨_, rfl⟩
  have hX : BoxD A1 c1 A2 c2 op bb size n sign char ctext cuts ad cap w w0 := by rw [hw0]; exact boxD_new ..
  have HX := Lib.hid hX
  have HW0 := Lib.hid hw0
  obtain ⟨rt, rr, rl, rb⟩ := R
  obtain ⟨tn, tt, tc, ts⟩ := T
  have hc : ∀ (g d1 : Nat) (B2 : Option Addr) (d2 : Nat) (wx : World), wx.cell? ⟨g, 0, none⟩ = some (.string ⟨text.toArray⟩) → wx.cell? ⟨g, 1, none⟩ = some (.int .i64 recent) → wx.cell? ⟨g, 2, none⟩ = some (.string ⟨last.toArray⟩) → wx.cell? ⟨g, 3, none⟩ = some (.bool begun) → (∀ i, wx.frozen? ⟨g, i, none⟩ = false) → Calls Tryz.prog 44 #[.agg #[.slice (some ⟨g, 0, none⟩) 1 d1, .slice B2 0 d2], .agg #[.int .i64 op, .int .i64 0, .int .i64 bb, .int .u16 (size : Int), .int .i64 n, .int .u8 (sign.toNat : Int), .int .i32 char, .string ⟨ctext.toArray⟩, .slice ad cuts.length cap]] wx (FlPost wx g d1 B2 d2 ⟨rt, rr, rl, rb⟩ ⟨tn, tt, tc, ts⟩ O) := hc0
  unfold FlPost at hc
  simp only [Td.val, Td.cells] at hc
  have HC := Lib.hid hc
  have HY := Lib.hid hY
  have m1 : ¬ op < 1 := h1
  have m2 : ¬ 36 ≤ op := h2
  have m3 : ¬ 28 ≤ op := h3
  have m4 : 23 ≤ op := h4
  have m1b : decide (op < 1) = false := by simpa using h1
  clear hc hc0 hY h1 h2 h3 h4
  obtain ⟨y0, y1, e0, e1, e2, e3, e4, e5, e6, e7, e8, u0, u1, t0, t1, t2, t3, n0, n1, n2, n3, yz, uz, tz, _, hlt, hsz, _, _, _, _, _⟩ := hX
  have yz0 := yz 0; have yz1 := yz 1; have uz0 := uz 0; have uz1 := uz 1; have tz0 := tz 0; have tz1 := tz 1; have tz2 := tz 2; have tz3 := tz 3
  clear hw0 yz uz tz hsz
  go_enter Tryz.func30, Tryz.ntmps30
  go_wp2_with fail
  rw [← HW0.out]
  refine (sp_copied A1 1 c1 A2 0 c2 (yd1 ⟨text, recent, last, begun⟩) _ (HY.out.fr HX.out.fr) (by simp [yd1]) (by simp [yd1])).mono ?_
  rintro e w1 ⟨v1, v2, rfl, o1, o2, F1⟩
  have o1' : Own 81 4 w1 w0.heap.size v1 1 [.string ⟨text.toArray⟩, .int .i64 recent, .string ⟨last.toArray⟩, .bool begun] := by simpa [yd1, sbs, SB.cells] using o1
  obtain ⟨g, d1, cur, rfl, hg, hgb, x0, x1, x2, x3⟩ := own_one o1'
  have o2' : Own 9 1 w1 w0.heap.size v2 0 (strs []) := o2
  obtain ⟨B2, d2, rfl⟩ := o2'.value
  have HB2 := Lib.hid (show B2 = none → d2 = 0 from fun q => (Own.zero o2' q).2)
  have HFRE := Lib.hid (show (∀ r o s, some (⟨g, 0, none⟩ : Addr) = some ⟨r, o, s⟩ → w.heap.size ≤ r ∨ A1 = some ⟨r, o, s⟩) ∧ (∀ r o s, B2 = some ⟨r, o, s⟩ → w.heap.size ≤ r ∨ A2 = some ⟨r, o, s⟩) from ⟨fun r o s q => .inl (Nat.le_trans HX.out.fr.size (by injection q with q; injection q with q; omega)), fun r o s q => .inl (Nat.le_trans HX.out.fr.size (own_fresh o2' r o s q))⟩)
  have HFW := Lib.hid F1
  have xz : ∀ i, w1.frozen? ⟨g, i, none⟩ = false := fun i => frozen_row hgb i
  have xz0 := xz 0; have xz1 := xz 1; have xz2 := xz 2; have xz3 := xz 3
  have hgl : g < w1.heap.size := lt_of_blk hgb
  have hgH : w.heap.size + 1 + 1 + 1 + 1 < g := by omega
  have HXZ := Lib.hid xz
  clear o1 o1' o2 o2' F1 hgb xz
  have y0x : w1.cell? ⟨w.heap.size, 0, none⟩ = some (.slice A1 1 c1) := (HFW.out.cell (Nat.lt_of_le_of_lt (by dsimp only; omega) HX.out.lt) (fun q => q)).trans y0
  have y1x : w1.cell? ⟨w.heap.size, 1, none⟩ = some (.slice A2 0 c2) := (HFW.out.cell (Nat.lt_of_le_of_lt (by dsimp only; omega) HX.out.lt) (fun q => q)).trans y1
  have e0x : w1.cell? ⟨w.heap.size + 1, 0, none⟩ = some (.int .i64 op) := (HFW.out.cell (Nat.lt_of_le_of_lt (by dsimp only; omega) HX.out.lt) (fun q => q)).trans e0
  have e1x : w1.cell? ⟨w.heap.size + 1, 1, none⟩ = some (.int .i64 0) := (HFW.out.cell (Nat.lt_of_le_of_lt (by dsimp only; omega) HX.out.lt) (fun q => q)).trans e1
  have e2x : w1.cell? ⟨w.heap.size + 1, 2, none⟩ = some (.int .i64 bb) := (HFW.out.cell (Nat.lt_of_le_of_lt (by dsimp only; omega) HX.out.lt) (fun q => q)).trans e2
  have e3x : w1.cell? ⟨w.heap.size + 1, 3, none⟩ = some (.int .u16 (size : Int)) := (HFW.out.cell (Nat.lt_of_le_of_lt (by dsimp only; omega) HX.out.lt) (fun q => q)).trans e3
  have e4x : w1.cell? ⟨w.heap.size + 1, 4, none⟩ = some (.int .i64 n) := (HFW.out.cell (Nat.lt_of_le_of_lt (by dsimp only; omega) HX.out.lt) (fun q => q)).trans e4
  have e5x : w1.cell? ⟨w.heap.size + 1, 5, none⟩ = some (.int .u8 (sign.toNat : Int)) := (HFW.out.cell (Nat.lt_of_le_of_lt (by dsimp only; omega) HX.out.lt) (fun q => q)).trans e5
  have e6x : w1.cell? ⟨w.heap.size + 1, 6, none⟩ = some (.int .i32 char) := (HFW.out.cell (Nat.lt_of_le_of_lt (by dsimp only; omega) HX.out.lt) (fun q => q)).trans e6
  have e7x : w1.cell? ⟨w.heap.size + 1, 7, none⟩ = some (.string ⟨ctext.toArray⟩) := (HFW.out.cell (Nat.lt_of_le_of_lt (by dsimp only; omega) HX.out.lt) (fun q => q)).trans e7
  have e8x : w1.cell? ⟨w.heap.size + 1, 8, none⟩ = some (.slice ad cuts.length cap) := (HFW.out.cell (Nat.lt_of_le_of_lt (by dsimp only; omega) HX.out.lt) (fun q => q)).trans e8
  have u0x : w1.cell? ⟨w.heap.size + 1 + 1, 0, none⟩ = some (.slice none 0 0) := (HFW.out.cell (Nat.lt_of_le_of_lt (by dsimp only; omega) HX.out.lt) (fun q => q)).trans u0
  have u1x : w1.cell? ⟨w.heap.size + 1 + 1, 1, none⟩ = some (.slice none 0 0) := (HFW.out.cell (Nat.lt_of_le_of_lt (by dsimp only; omega) HX.out.lt) (fun q => q)).trans u1
  have t0x : w1.cell? ⟨w.heap.size + 1 + 1 + 1, 0, none⟩ = some (.int .i64 0) := (HFW.out.cell (Nat.lt_of_le_of_lt (by dsimp only; omega) HX.out.lt) (fun q => q)).trans t0
  have t1x : w1.cell? ⟨w.heap.size + 1 + 1 + 1, 1, none⟩ = some (.string ⟨#[]⟩) := (HFW.out.cell (Nat.lt_of_le_of_lt (by dsimp only; omega) HX.out.lt) (fun q => q)).trans t1
  have t2x : w1.cell? ⟨w.heap.size + 1 + 1 + 1, 2, none⟩ = some (.int .i32 0) := (HFW.out.cell (Nat.lt_of_le_of_lt (by dsimp only; omega) HX.out.lt) (fun q => q)).trans t2
  have t3x : w1.cell? ⟨w.heap.size + 1 + 1 + 1, 3, none⟩ = some (.int .i64 0) := (HFW.out.cell (Nat.lt_of_le_of_lt (by dsimp only; omega) HX.out.lt) (fun q => q)).trans t3
  have yz0x : w1.frozen? ⟨w.heap.size, 0, none⟩ = false := (HFW.out.frz (Nat.lt_of_le_of_lt (by dsimp only; omega) HX.out.lt) (fun q => q)).trans yz0
  have yz1x : w1.frozen? ⟨w.heap.size, 1, none⟩ = false := (HFW.out.frz (Nat.lt_of_le_of_lt (by dsimp only; omega) HX.out.lt) (fun q => q)).trans yz1
  have uz0x : w1.frozen? ⟨w.heap.size + 1 + 1, 0, none⟩ = false := (HFW.out.frz (Nat.lt_of_le_of_lt (by dsimp only; omega) HX.out.lt) (fun q => q)).trans uz0
  have uz1x : w1.frozen? ⟨w.heap.size + 1 + 1, 1, none⟩ = false := (HFW.out.frz (Nat.lt_of_le_of_lt (by dsimp only; omega) HX.out.lt) (fun q => q)).trans uz1
  have tz0x : w1.frozen? ⟨w.heap.size + 1 + 1 + 1, 0, none⟩ = false := (HFW.out.frz (Nat.lt_of_le_of_lt (by dsimp only; omega) HX.out.lt) (fun q => q)).trans tz0
  have tz1x : w1.frozen? ⟨w.heap.size + 1 + 1 + 1, 1, none⟩ = false := (HFW.out.frz (Nat.lt_of_le_of_lt (by dsimp only; omega) HX.out.lt) (fun q => q)).trans tz1
  have tz2x : w1.frozen? ⟨w.heap.size + 1 + 1 + 1, 2, none⟩ = false := (HFW.out.frz (Nat.lt_of_le_of_lt (by dsimp only; omega) HX.out.lt) (fun q => q)).trans tz2
  have tz3x : w1.frozen? ⟨w.heap.size + 1 + 1 + 1, 3, none⟩ = false := (HFW.out.frz (Nat.lt_of_le_of_lt (by dsimp only; omega) HX.out.lt) (fun q => q)).trans tz3
  go_wp2_with fail
  refine (sp_among01 _).mono ?_
  rintro e w2 ⟨rfl, hw2⟩
  have hF2 : Fr (Just (w.heap.size)) w1 w2 := by rw [hw2]; exact just2 _ _ _ _
  obtain ⟨yy0, yy1⟩ := near2 y0x y1x (.slice (some ⟨g, 0, none⟩) 1 d1) (.slice B2 0 d2)
  rw [← hw2] at yy0 yy1
  clear hw2
  have HXZ2 := Lib.hid (show ∀ i, w2.frozen? ⟨g, i, none⟩ = false from fun i => (hF2.frz hgl (fun q => by have q : g = w.heap.size := q; omega)).trans (HXZ.out i))
  have HFW2 := Lib.hid (show Fr (fun _ => False) w w2 from ((HX.out.fr).trans HFW.out).trans' hF2 (fun x hx q => by have q : x = w.heap.size := q; omega))
  have e0w : w2.cell? ⟨w.heap.size + 1, 0, none⟩ = some (.int .i64 op) := (hF2.cell (World.block_lt_of_cell? _ _ e0x) (fun q => by have q : w.heap.size + 1 = w.heap.size := q; omega)).trans e0x
  have e1w : w2.cell? ⟨w.heap.size + 1, 1, none⟩ = some (.int .i64 0) := (hF2.cell (World.block_lt_of_cell? _ _ e1x) (fun q => by have q : w.heap.size + 1 = w.heap.size := q; omega)).trans e1x
  have e2w : w2.cell? ⟨w.heap.size + 1, 2, none⟩ = some (.int .i64 bb) := (hF2.cell (World.block_lt_of_cell? _ _ e2x) (fun q => by have q : w.heap.size + 1 = w.heap.size := q; omega)).trans e2x
  have e3w : w2.cell? ⟨w.heap.size + 1, 3, none⟩ = some (.int .u16 (size : Int)) := (hF2.cell (World.block_lt_of_cell? _ _ e3x) (fun q => by have q : w.heap.size + 1 = w.heap.size := q; omega)).trans e3x
  have e4w : w2.cell? ⟨w.heap.size + 1, 4, none⟩ = some (.int .i64 n) := (hF2.cell (World.block_lt_of_cell? _ _ e4x) (fun q => by have q : w.heap.size + 1 = w.heap.size := q; omega)).trans e4x
  have e5w : w2.cell? ⟨w.heap.size + 1, 5, none⟩ = some (.int .u8 (sign.toNat : Int)) := (hF2.cell (World.block_lt_of_cell? _ _ e5x) (fun q => by have q : w.heap.size + 1 = w.heap.size := q; omega)).trans e5x
  have e6w : w2.cell? ⟨w.heap.size + 1, 6, none⟩ = some (.int .i32 char) := (hF2.cell (World.block_lt_of_cell? _ _ e6x) (fun q => by have q : w.heap.size + 1 = w.heap.size := q; omega)).trans e6x
  have e7w : w2.cell? ⟨w.heap.size + 1, 7, none⟩ = some (.string ⟨ctext.toArray⟩) := (hF2.cell (World.block_lt_of_cell? _ _ e7x) (fun q => by have q : w.heap.size + 1 = w.heap.size := q; omega)).trans e7x
  have e8w : w2.cell? ⟨w.heap.size + 1, 8, none⟩ = some (.slice ad cuts.length cap) := (hF2.cell (World.block_lt_of_cell? _ _ e8x) (fun q => by have q : w.heap.size + 1 = w.heap.size := q; omega)).trans e8x
  have u0w : w2.cell? ⟨w.heap.size + 1 + 1, 0, none⟩ = some (.slice none 0 0) := (hF2.cell (World.block_lt_of_cell? _ _ u0x) (fun q => by have q : w.heap.size + 1 + 1 = w.heap.size := q; omega)).trans u0x
  have u1w : w2.cell? ⟨w.heap.size + 1 + 1, 1, none⟩ = some (.slice none 0 0) := (hF2.cell (World.block_lt_of_cell? _ _ u1x) (fun q => by have q : w.heap.size + 1 + 1 = w.heap.size := q; omega)).trans u1x
  have t0w : w2.cell? ⟨w.heap.size + 1 + 1 + 1, 0, none⟩ = some (.int .i64 0) := (hF2.cell (World.block_lt_of_cell? _ _ t0x) (fun q => by have q : w.heap.size + 1 + 1 + 1 = w.heap.size := q; omega)).trans t0x
  have t1w : w2.cell? ⟨w.heap.size + 1 + 1 + 1, 1, none⟩ = some (.string ⟨#[]⟩) := (hF2.cell (World.block_lt_of_cell? _ _ t1x) (fun q => by have q : w.heap.size + 1 + 1 + 1 = w.heap.size := q; omega)).trans t1x
  have t2w : w2.cell? ⟨w.heap.size + 1 + 1 + 1, 2, none⟩ = some (.int .i32 0) := (hF2.cell (World.block_lt_of_cell? _ _ t2x) (fun q => by have q : w.heap.size + 1 + 1 + 1 = w.heap.size := q; omega)).trans t2x
  have t3w : w2.cell? ⟨w.heap.size + 1 + 1 + 1, 3, none⟩ = some (.int .i64 0) := (hF2.cell (World.block_lt_of_cell? _ _ t3x) (fun q => by have q : w.heap.size + 1 + 1 + 1 = w.heap.size := q; omega)).trans t3x
  have uz0w : w2.frozen? ⟨w.heap.size + 1 + 1, 0, none⟩ = false := (hF2.frz (World.block_lt_of_cell? _ _ u0x) (fun q => by have q : w.heap.size + 1 + 1 = w.heap.size := q; omega)).trans uz0x
  have uz1w : w2.frozen? ⟨w.heap.size + 1 + 1, 1, none⟩ = false := (hF2.frz (World.block_lt_of_cell? _ _ u1x) (fun q => by have q : w.heap.size + 1 + 1 = w.heap.size := q; omega)).trans uz1x
  have tz0w : w2.frozen? ⟨w.heap.size + 1 + 1 + 1, 0, none⟩ = false := (hF2.frz (World.block_lt_of_cell? _ _ t0x) (fun q => by have q : w.heap.size + 1 + 1 + 1 = w.heap.size := q; omega)).trans tz0x
  have tz1w : w2.frozen? ⟨w.heap.size + 1 + 1 + 1, 1, none⟩ = false := (hF2.frz (World.block_lt_of_cell? _ _ t1x) (fun q => by have q : w.heap.size + 1 + 1 + 1 = w.heap.size := q; omega)).trans tz1x
  have tz2w : w2.frozen? ⟨w.heap.size + 1 + 1 + 1, 2, none⟩ = false := (hF2.frz (World.block_lt_of_cell? _ _ t2x) (fun q => by have q : w.heap.size + 1 + 1 + 1 = w.heap.size := q; omega)).trans tz2x
  have tz3w : w2.frozen? ⟨w.heap.size + 1 + 1 + 1, 3, none⟩ = false := (hF2.frz (World.block_lt_of_cell? _ _ t3x) (fun q => by have q : w.heap.size + 1 + 1 + 1 = w.heap.size := q; omega)).trans tz3x
  have x0w : w2.cell? ⟨g, 0, none⟩ = some (.string ⟨text.toArray⟩) := (hF2.cell (World.block_lt_of_cell? _ _ x0) (fun q => by have q : g = w.heap.size := q; omega)).trans x0
  have x1w : w2.cell? ⟨g, 1, none⟩ = some (.int .i64 recent) := (hF2.cell (World.block_lt_of_cell? _ _ x1) (fun q => by have q : g = w.heap.size := q; omega)).trans x1
  have x2w : w2.cell? ⟨g, 2, none⟩ = some (.string ⟨last.toArray⟩) := (hF2.cell (World.block_lt_of_cell? _ _ x2) (fun q => by have q : g = w.heap.size := q; omega)).trans x2
  have x3w : w2.cell? ⟨g, 3, none⟩ = some (.bool begun) := (hF2.cell (World.block_lt_of_cell? _ _ x3) (fun q => by have q : g = w.heap.size := q; omega)).trans x3
  have xz0w : w2.frozen? ⟨g, 0, none⟩ = false := (hF2.frz (World.block_lt_of_cell? _ _ x0) (fun q => by have q : g = w.heap.size := q; omega)).trans xz0
  have xz1w : w2.frozen? ⟨g, 1, none⟩ = false := (hF2.frz (World.block_lt_of_cell? _ _ x1) (fun q => by have q : g = w.heap.size := q; omega)).trans xz1
  have xz2w : w2.frozen? ⟨g, 2, none⟩ = false := (hF2.frz (World.block_lt_of_cell? _ _ x2) (fun q => by have q : g = w.heap.size := q; omega)).trans xz2
  have xz3w : w2.frozen? ⟨g, 3, none⟩ = false := (hF2.frz (World.block_lt_of_cell? _ _ x3) (fun q => by have q : g = w.heap.size := q; omega)).trans xz3
  have hlt2 : w1.heap.size ≤ w2.heap.size := hF2.size
  have hlt1 := HFW.out.size
  have hg2 : g < w2.heap.size := by omega
  have hH2 : w.heap.size + 1 + 1 + 1 + 1 < w2.heap.size := by omega
  clear hF2 y0x y1x e0x e1x e2x e3x e4x e5x e6x e7x e8x u0x u1x t0x t1x t2x t3x y0 y1 e0 e1 e2 e3 e4 e5 e6 e7 e8 u0 u1 t0 t1 t2 t3 n0 n1 n2 n3 x0 x1 x2 x3
  go_wp2_with fail
  refine (HC.out _ _ _ _ _ x0w x1w x2w x3w HXZ2.out).mono ?_
  rintro e w3 ⟨rfl, g0, g1, g2, g3, F3⟩

  have u0v : w3.cell? ⟨w.heap.size + 1 + 1, 0, none⟩ = some (.slice none 0 0) := (F3.cell (World.block_lt_of_cell? _ _ u0w) (fun q => by have q : w.heap.size + 1 + 1 = g := q; omega)).trans u0w
  have u1v : w3.cell? ⟨w.heap.size + 1 + 1, 1, none⟩ = some (.slice none 0 0) := (F3.cell (World.block_lt_of_cell? _ _ u1w) (fun q => by have q : w.heap.size + 1 + 1 = g := q; omega)).trans u1w
  have t0v : w3.cell? ⟨w.heap.size + 1 + 1 + 1, 0, none⟩ = some (.int .i64 0) := (F3.cell (World.block_lt_of_cell? _ _ t0w) (fun q => by have q : w.heap.size + 1 + 1 + 1 = g := q; omega)).trans t0w
  have t1v : w3.cell? ⟨w.heap.size + 1 + 1 + 1, 1, none⟩ = some (.string ⟨#[]⟩) := (F3.cell (World.block_lt_of_cell? _ _ t1w) (fun q => by have q : w.heap.size + 1 + 1 + 1 = g := q; omega)).trans t1w
  have t2v : w3.cell? ⟨w.heap.size + 1 + 1 + 1, 2, none⟩ = some (.int .i32 0) := (F3.cell (World.block_lt_of_cell? _ _ t2w) (fun q => by have q : w.heap.size + 1 + 1 + 1 = g := q; omega)).trans t2w
  have t3v : w3.cell? ⟨w.heap.size + 1 + 1 + 1, 3, none⟩ = some (.int .i64 0) := (F3.cell (World.block_lt_of_cell? _ _ t3w) (fun q => by have q : w.heap.size + 1 + 1 + 1 = g := q; omega)).trans t3w
  have uz0v : w3.frozen? ⟨w.heap.size + 1 + 1, 0, none⟩ = false := (F3.frz (World.block_lt_of_cell? _ _ u0w) (fun q => by have q : w.heap.size + 1 + 1 = g := q; omega)).trans uz0w
  have uz1v : w3.frozen? ⟨w.heap.size + 1 + 1, 1, none⟩ = false := (F3.frz (World.block_lt_of_cell? _ _ u1w) (fun q => by have q : w.heap.size + 1 + 1 = g := q; omega)).trans uz1w
  have tz0v : w3.frozen? ⟨w.heap.size + 1 + 1 + 1, 0, none⟩ = false := (F3.frz (World.block_lt_of_cell? _ _ t0w) (fun q => by have q : w.heap.size + 1 + 1 + 1 = g := q; omega)).trans tz0w
  have tz1v : w3.frozen? ⟨w.heap.size + 1 + 1 + 1, 1, none⟩ = false := (F3.frz (World.block_lt_of_cell? _ _ t1w) (fun q => by have q : w.heap.size + 1 + 1 + 1 = g := q; omega)).trans tz1w
  have tz2v : w3.frozen? ⟨w.heap.size + 1 + 1 + 1, 2, none⟩ = false := (F3.frz (World.block_lt_of_cell? _ _ t2w) (fun q => by have q : w.heap.size + 1 + 1 + 1 = g := q; omega)).trans tz2w
  have tz3v : w3.frozen? ⟨w.heap.size + 1 + 1 + 1, 3, none⟩ = false := (F3.frz (World.block_lt_of_cell? _ _ t3w) (fun q => by have q : w.heap.size + 1 + 1 + 1 = g := q; omega)).trans tz3w
  have HFW3 := Lib.hid (show Fr (fun _ => False) w w3 from HFW2.out.trans' F3 (fun x hx q => by have q : x = g := q; have h9 := HX.out.fr.size; omega))
  clear F3
  go_wp2_with fail
  obtain ⟨w8, hw8⟩ : ∃ w8, w8 = ((((((w3.setCell ⟨w.heap.size + 1 + 1, 0, none⟩ (.slice (some ⟨g, 0, none⟩) 1 d1)).setCell ⟨w.heap.size + 1 + 1, 1, none⟩ (.slice B2 0 d2)).setCell ⟨w.heap.size + 1 + 1 + 1, 0, none⟩ (.int .i64 tn)).setCell ⟨w.heap.size + 1 + 1 + 1, 1, none⟩ (.string ⟨tt.toArray⟩)).setCell ⟨w.heap.size + 1 + 1 + 1, 2, none⟩ (.int .i32 tc)).setCell ⟨w.heap.size + 1 + 1 + 1, 3, none⟩ (.int .i64 ts)) := ⟨_, rfl⟩
  have HF8 := Lib.hid (show Fr (fun _ => False) w w8 by rw [hw8]; (repeat (with_reducible first | exact HX.out.fr | refine Fr.setCell ?_ (fun q => by dsimp only at q; omega) _ | refine Fr.drew ?_ | refine Fr.alloc ?_ _ | exact HFW3.out)))
  obtain ⟨p0, p1, p2, p3, p4, p5⟩ := stores24 (w := w3) (x := w.heap.size + 1 + 1) (y := w.heap.size + 1 + 1 + 1) (by omega) u0v u1v t0v t1v t2v t3v (.slice (some ⟨g, 0, none⟩) 1 d1) (.slice B2 0 d2) (.int .i64 tn) (.string ⟨tt.toArray⟩) (.int .i32 tc) (.int .i64 ts)
  have q0 : w8.cell? ⟨w.heap.size + 1 + 1, 0, none⟩ = some (.slice (some ⟨g, 0, none⟩) 1 d1) := by rw [hw8]; exact p0
  have q1 : w8.cell? ⟨w.heap.size + 1 + 1, 1, none⟩ = some (.slice B2 0 d2) := by rw [hw8]; exact p1
  have q2 : w8.cell? ⟨w.heap.size + 1 + 1 + 1, 0, none⟩ = some (.int .i64 tn) := by rw [hw8]; exact p2
  have q3 : w8.cell? ⟨w.heap.size + 1 + 1 + 1, 1, none⟩ = some (.string ⟨tt.toArray⟩) := by rw [hw8]; exact p3
  have q4 : w8.cell? ⟨w.heap.size + 1 + 1 + 1, 2, none⟩ = some (.int .i32 tc) := by rw [hw8]; exact p4
  have q5 : w8.cell? ⟨w.heap.size + 1 + 1 + 1, 3, none⟩ = some (.int .i64 ts) := by rw [hw8]; exact p5
  have gg : ∀ (k : Nat) (v : Value), w3.cell? ⟨g, k, none⟩ = some v → w8.cell? ⟨g, k, none⟩ = some v := fun k v h => by rw [hw8]; exact far4 (far2 h (by dsimp only; omega)) (by dsimp only; omega)
  have hYV := Lib.hid (show YV w8 (some ⟨g, 0, none⟩) 1 d1 B2 0 d2 (yd1 ⟨rt, rr, rl, rb⟩) from ⟨rfl, rfl, reads_sb _ (gg 0 _ g0) (gg 1 _ g1) (gg 2 _ g2) (gg 3 _ g3), Reads.nil _ _ _ _, fun q => (by cases q), fun q => ⟨rfl, HB2.out q⟩⟩)
  clear gg
  rw [← hw8]
  refine bodyPost_ret (v := .tuple #[.agg #[.slice (some ⟨g, 0, none⟩) 1 d1, .slice B2 0 d2], Td.val ⟨tn, tt, tc, ts⟩, .bool O]) (by simp [results, Tryz.results30, go_sem, Td.val, Td.cells, q0, q1, q2, q3, q4, q5]) rfl ?_
  exact ⟨_, _, _, _, _, _, rfl, hYV.out, HF8.out, HFRE.out.1, HFRE.out.2⟩
end
end Go.Proofs.YtbodbajgpgaoeaaGreatDoor
