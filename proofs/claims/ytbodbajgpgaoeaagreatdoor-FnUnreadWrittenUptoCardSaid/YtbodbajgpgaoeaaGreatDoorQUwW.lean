/- The walk of laws.FnUnreadWritten. -/
import Derived.Test.YtbodbajgpgaoeaaGreatDoorQ22
namespace Go.Proofs.YtbodbajgpgaoeaaGreatDoor
open Go Go.RowKit

set_option maxHeartbeats 6400000 in
set_option maxRecDepth 100000 in
theorem unreadWritten_walk (text : List UInt8) (way : Int) (space : Nat) (cs : List Cl) (A : Option Addr) (c : Nat) (lop la lb : Int) (lsize : Nat) (ln : Int) (lsign : UInt8) (lchar : Int) (ltext : List UInt8) (lcuts : List Nat) (lad : Option Addr) (lcap : Nat) (vop va vb : Int) (vsize : Nat) (vn : Int) (vsign : UInt8) (vchar : Int) (vtext : List UInt8) (vcuts : List Nat) (vad : Option Addr) (vcap : Nat) (ea eu : Addr) (w : World) (hC : Reads Cl.cells 9 w A cs) (hok : CallsOk w cs)
    (hl : ClOk w ⟨lop, la, lb, lsize, ln, lsign, lchar, ltext, lcuts, lad, lcap⟩) (hv : ClOk w ⟨vop, va, vb, vsize, vn, vsign, vchar, vtext, vcuts, vad, vcap⟩) (hs : text.length ≤ 1048576) (hsp : space ≤ 65535) (hlt : ltext.length ≤ 1048576) (hvt : vtext.length ≤ 1048576) (hG : Gl w.heap.size ea eu w) :
    Calls Tryz.prog 7 #[.agg #[.string ⟨text.toArray⟩, .int .i64 way, .int .u16 (space : Int)], .slice A cs.length c, .agg #[.int .i64 lop, .int .i64 la, .int .i64 lb, .int .u16 (lsize : Int), .int .i64 ln, .int .u8 (lsign.toNat : Int), .int .i32 lchar, .string ⟨ltext.toArray⟩, .slice lad lcuts.length lcap], .agg #[.int .i64 vop, .int .i64 va, .int .i64 vb, .int .u16 (vsize : Int), .int .i64 vn, .int .u8 (vsign.toNat : Int), .int .i32 vchar, .string ⟨vtext.toArray⟩, .slice vad vcuts.length vcap]] w (LawPost w) := by
  have HC := Lib.hid hC
  have HOK := Lib.hid hok
  have HL := Lib.hid hl
  have HV := Lib.hid hv
  have HG := Lib.hid hG
  have hfew := hok.few
  clear hC hok hl hv hG
  obtain ⟨w0, hw0⟩ : ∃ w0, w0 = (((w.alloc (.cells #[.string ⟨text.toArray⟩, .int .i64 way, .int .u16 (space : Int)] 24)).alloc (.cells #[.int .i64 lop, .int .i64 la, .int .i64 lb, .int .u16 (lsize : Int), .int .i64 ln, .int .u8 (lsign.toNat : Int), .int .i32 lchar, .string ⟨ltext.toArray⟩, .slice lad lcuts.length lcap] 36)).alloc (.cells #[.int .i64 vop, .int .i64 va, .int .i64 vb, .int .u16 (vsize : Int), .int .i64 vn, .int .u8 (vsign.toNat : Int), .int .i32 vchar, .string ⟨vtext.toArray⟩, .slice vad vcuts.length vcap] 36)) := ⟨_, rfl⟩
  obtain ⟨k0, k1, k2⟩ := three_blocks w (.cells #[.string ⟨text.toArray⟩, .int .i64 way, .int .u16 (space : Int)] 24) (.cells #[.int .i64 lop, .int .i64 la, .int .i64 lb, .int .u16 (lsize : Int), .int .i64 ln, .int .u8 (lsign.toNat : Int), .int .i32 lchar, .string ⟨ltext.toArray⟩, .slice lad lcuts.length lcap] 36) (.cells #[.int .i64 vop, .int .i64 va, .int .i64 vb, .int .u16 (vsize : Int), .int .i64 vn, .int .u8 (vsign.toNat : Int), .int .i32 vchar, .string ⟨vtext.toArray⟩, .slice vad vcuts.length vcap] 36)
  rw [← hw0] at k0 k1 k2
  have hF0 : Fr (fun _ => False) w w0 := by rw [hw0]; exact ((Fr.refl (fun _ => False) w).alloc _).alloc _ |>.alloc _
  have hsz0 : w0.heap.size = w.heap.size + 1 + 1 + 1 := by rw [hw0]; simp only [World.size_alloc]
  have HSZ0 := Lib.hid hsz0
  have HF0 := Lib.hid hF0
  have HK0 := Lib.hid k0
  have HK1 := Lib.hid k1
  have HK2 := Lib.hid k2
  have HW0 := Lib.hid hw0
  have hs0 := hF0.size
  have s0 : w0.cell? ⟨w.heap.size, 0, none⟩ = some (.string ⟨text.toArray⟩) := by rw [cell_of_row w0 _ 0 _ _ _ k0]; rfl
  have s1 : w0.cell? ⟨w.heap.size, 1, none⟩ = some (.int .i64 way) := by rw [cell_of_row w0 _ 1 _ _ _ k0]; rfl
  have s2 : w0.cell? ⟨w.heap.size, 2, none⟩ = some (.int .u16 (space : Int)) := by rw [cell_of_row w0 _ 2 _ _ _ k0]; rfl
  have l0 : w0.cell? ⟨w.heap.size + 1, 0, none⟩ = some (.int .i64 lop) := by rw [cell_of_row w0 _ 0 _ _ _ k1]; rfl
  have l1 : w0.cell? ⟨w.heap.size + 1, 1, none⟩ = some (.int .i64 la) := by rw [cell_of_row w0 _ 1 _ _ _ k1]; rfl
  have l2 : w0.cell? ⟨w.heap.size + 1, 2, none⟩ = some (.int .i64 lb) := by rw [cell_of_row w0 _ 2 _ _ _ k1]; rfl
  have l3 : w0.cell? ⟨w.heap.size + 1, 3, none⟩ = some (.int .u16 (lsize : Int)) := by rw [cell_of_row w0 _ 3 _ _ _ k1]; rfl
  have l4 : w0.cell? ⟨w.heap.size + 1, 4, none⟩ = some (.int .i64 ln) := by rw [cell_of_row w0 _ 4 _ _ _ k1]; rfl
  have l5 : w0.cell? ⟨w.heap.size + 1, 5, none⟩ = some (.int .u8 (lsign.toNat : Int)) := by rw [cell_of_row w0 _ 5 _ _ _ k1]; rfl
  have l6 : w0.cell? ⟨w.heap.size + 1, 6, none⟩ = some (.int .i32 lchar) := by rw [cell_of_row w0 _ 6 _ _ _ k1]; rfl
  have l7 : w0.cell? ⟨w.heap.size + 1, 7, none⟩ = some (.string ⟨ltext.toArray⟩) := by rw [cell_of_row w0 _ 7 _ _ _ k1]; rfl
  have l8 : w0.cell? ⟨w.heap.size + 1, 8, none⟩ = some (.slice lad lcuts.length lcap) := by rw [cell_of_row w0 _ 8 _ _ _ k1]; rfl
  have v0 : w0.cell? ⟨w.heap.size + 1 + 1, 0, none⟩ = some (.int .i64 vop) := by rw [cell_of_row w0 _ 0 _ _ _ k2]; rfl
  have v1 : w0.cell? ⟨w.heap.size + 1 + 1, 1, none⟩ = some (.int .i64 va) := by rw [cell_of_row w0 _ 1 _ _ _ k2]; rfl
  have v2 : w0.cell? ⟨w.heap.size + 1 + 1, 2, none⟩ = some (.int .i64 vb) := by rw [cell_of_row w0 _ 2 _ _ _ k2]; rfl
  have v3 : w0.cell? ⟨w.heap.size + 1 + 1, 3, none⟩ = some (.int .u16 (vsize : Int)) := by rw [cell_of_row w0 _ 3 _ _ _ k2]; rfl
  have v4 : w0.cell? ⟨w.heap.size + 1 + 1, 4, none⟩ = some (.int .i64 vn) := by rw [cell_of_row w0 _ 4 _ _ _ k2]; rfl
  have v5 : w0.cell? ⟨w.heap.size + 1 + 1, 5, none⟩ = some (.int .u8 (vsign.toNat : Int)) := by rw [cell_of_row w0 _ 5 _ _ _ k2]; rfl
  have v6 : w0.cell? ⟨w.heap.size + 1 + 1, 6, none⟩ = some (.int .i32 vchar) := by rw [cell_of_row w0 _ 6 _ _ _ k2]; rfl
  have v7 : w0.cell? ⟨w.heap.size + 1 + 1, 7, none⟩ = some (.string ⟨vtext.toArray⟩) := by rw [cell_of_row w0 _ 7 _ _ _ k2]; rfl
  have v8 : w0.cell? ⟨w.heap.size + 1 + 1, 8, none⟩ = some (.slice vad vcuts.length vcap) := by rw [cell_of_row w0 _ 8 _ _ _ k2]; rfl
  clear hw0 hF0 k0 k1 k2
  have hlong : ∀ bb, bb = decide (4096 < cs.length) → Calls Tryz.prog 9 #[.slice (some ⟨w.heap.size + 1 + 1 + 1, 0, none⟩) 1 1] (w0.alloc (.cells #[.slice A cs.length c] 25)) fun e w' => e = .returned (.bool bb) ∧ w' = w0.alloc (.cells #[.slice A cs.length c] 25) := by
    intro bb hbb
    rw [hbb]
    have hcell : (w0.alloc (.cells #[.slice A cs.length c] 25)).cell? ⟨w.heap.size + 1 + 1 + 1, 0, none⟩ = some (.slice A cs.length c) := by rw [← hsz0, cell_of_row _ _ 0 _ _ _ (heap_alloc_new w0 _)]; rfl
    exact long_1 (w.heap.size + 1 + 1 + 1) A cs.length c _ hcell (by omega)
  have HLONG := Lib.hid hlong
  clear hlong hsz0
  by_cases hbig : 4096 < cs.length
  · go_enter Tryz.func7, Tryz.ntmps7
    go_wp2_with fail
    rw [← HW0.out]
    refine (HLONG.out true (by simp [hbig])).mono ?_
    rintro e w1 ⟨rfl, hw1⟩
    rw [hw1]
    clear hw1
    go_wp2_with fail
    go_ret
    exact ⟨rfl, HF0.out.alloc _⟩
  go_enter Tryz.func7, Tryz.ntmps7
  go_wp2_with fail
  rw [← HW0.out]
  refine (HLONG.out false (by simp [hbig])).mono ?_
  rintro e w1 ⟨rfl, hw1⟩
  rw [hw1]
  clear hw1
  obtain ⟨w2, hw2⟩ : ∃ w2, w2 = w0.alloc (.cells #[.slice A cs.length c] 25) := ⟨_, rfl⟩
  rw [← hw2]
  have hF2 : Fr (fun _ => False) w0 w2 := by rw [hw2]; exact fr_one w0 _
  have s0b : w2.cell? ⟨w.heap.size, 0, none⟩ = some (.string ⟨text.toArray⟩) := (hF2.cell (World.block_lt_of_cell? _ _ s0) (fun q => q)).trans s0
  have s1b : w2.cell? ⟨w.heap.size, 1, none⟩ = some (.int .i64 way) := (hF2.cell (World.block_lt_of_cell? _ _ s1) (fun q => q)).trans s1
  have s2b : w2.cell? ⟨w.heap.size, 2, none⟩ = some (.int .u16 (space : Int)) := (hF2.cell (World.block_lt_of_cell? _ _ s2) (fun q => q)).trans s2
  have l0b : w2.cell? ⟨w.heap.size + 1, 0, none⟩ = some (.int .i64 lop) := (hF2.cell (World.block_lt_of_cell? _ _ l0) (fun q => q)).trans l0
  have l1b : w2.cell? ⟨w.heap.size + 1, 1, none⟩ = some (.int .i64 la) := (hF2.cell (World.block_lt_of_cell? _ _ l1) (fun q => q)).trans l1
  have l2b : w2.cell? ⟨w.heap.size + 1, 2, none⟩ = some (.int .i64 lb) := (hF2.cell (World.block_lt_of_cell? _ _ l2) (fun q => q)).trans l2
  have l3b : w2.cell? ⟨w.heap.size + 1, 3, none⟩ = some (.int .u16 (lsize : Int)) := (hF2.cell (World.block_lt_of_cell? _ _ l3) (fun q => q)).trans l3
  have l4b : w2.cell? ⟨w.heap.size + 1, 4, none⟩ = some (.int .i64 ln) := (hF2.cell (World.block_lt_of_cell? _ _ l4) (fun q => q)).trans l4
  have l5b : w2.cell? ⟨w.heap.size + 1, 5, none⟩ = some (.int .u8 (lsign.toNat : Int)) := (hF2.cell (World.block_lt_of_cell? _ _ l5) (fun q => q)).trans l5
  have l6b : w2.cell? ⟨w.heap.size + 1, 6, none⟩ = some (.int .i32 lchar) := (hF2.cell (World.block_lt_of_cell? _ _ l6) (fun q => q)).trans l6
  have l7b : w2.cell? ⟨w.heap.size + 1, 7, none⟩ = some (.string ⟨ltext.toArray⟩) := (hF2.cell (World.block_lt_of_cell? _ _ l7) (fun q => q)).trans l7
  have l8b : w2.cell? ⟨w.heap.size + 1, 8, none⟩ = some (.slice lad lcuts.length lcap) := (hF2.cell (World.block_lt_of_cell? _ _ l8) (fun q => q)).trans l8
  have v0b : w2.cell? ⟨w.heap.size + 1 + 1, 0, none⟩ = some (.int .i64 vop) := (hF2.cell (World.block_lt_of_cell? _ _ v0) (fun q => q)).trans v0
  have v1b : w2.cell? ⟨w.heap.size + 1 + 1, 1, none⟩ = some (.int .i64 va) := (hF2.cell (World.block_lt_of_cell? _ _ v1) (fun q => q)).trans v1
  have v2b : w2.cell? ⟨w.heap.size + 1 + 1, 2, none⟩ = some (.int .i64 vb) := (hF2.cell (World.block_lt_of_cell? _ _ v2) (fun q => q)).trans v2
  have v3b : w2.cell? ⟨w.heap.size + 1 + 1, 3, none⟩ = some (.int .u16 (vsize : Int)) := (hF2.cell (World.block_lt_of_cell? _ _ v3) (fun q => q)).trans v3
  have v4b : w2.cell? ⟨w.heap.size + 1 + 1, 4, none⟩ = some (.int .i64 vn) := (hF2.cell (World.block_lt_of_cell? _ _ v4) (fun q => q)).trans v4
  have v5b : w2.cell? ⟨w.heap.size + 1 + 1, 5, none⟩ = some (.int .u8 (vsign.toNat : Int)) := (hF2.cell (World.block_lt_of_cell? _ _ v5) (fun q => q)).trans v5
  have v6b : w2.cell? ⟨w.heap.size + 1 + 1, 6, none⟩ = some (.int .i32 vchar) := (hF2.cell (World.block_lt_of_cell? _ _ v6) (fun q => q)).trans v6
  have v7b : w2.cell? ⟨w.heap.size + 1 + 1, 7, none⟩ = some (.string ⟨vtext.toArray⟩) := (hF2.cell (World.block_lt_of_cell? _ _ v7) (fun q => q)).trans v7
  have v8b : w2.cell? ⟨w.heap.size + 1 + 1, 8, none⟩ = some (.slice vad vcuts.length vcap) := (hF2.cell (World.block_lt_of_cell? _ _ v8) (fun q => q)).trans v8
  have HF2 := Lib.hid (HF0.out.trans hF2)
  have HFB := Lib.hid hF2
  have HK0b := Lib.hid (hF2.blk HK0.out (fun q => q))
  have HK1b := Lib.hid (hF2.blk HK1.out (fun q => q))
  have HK2b := Lib.hid (hF2.blk HK2.out (fun q => q))
  have s0l : ∀ o : Obj, (w2.alloc o).cell? ⟨w.heap.size, 0, none⟩ = some (.string ⟨text.toArray⟩) := fun o => alloc_cell s0b
  have s1l : ∀ o : Obj, (w2.alloc o).cell? ⟨w.heap.size, 1, none⟩ = some (.int .i64 way) := fun o => alloc_cell s1b
  have s2l : ∀ o : Obj, (w2.alloc o).cell? ⟨w.heap.size, 2, none⟩ = some (.int .u16 (space : Int)) := fun o => alloc_cell s2b
  clear hw2 hF2 s0 s1 s2 l0 l1 l2 l3 l4 l5 l6 l7 l8 v0 v1 v2 v3 v4 v5 v6 v7 v8
  go_wp2_with fail
  have hone := one_written InvB stepB ⟨text, way, space⟩ (fun c => decide (c.op < 23)) t_written cs A c (w2.alloc (.cells #[.string ⟨text.toArray⟩, .int .i64 way, .int .u16 (space : Int)] 24)) (HC.out.fr0 (HF2.out.alloc _)) (by omega) (keep_inv (fun c ha hk => ⟨ha, .inl (of_decide_eq_true hk)⟩) HOK.out ⟨text, way, space⟩ (by simp only; omega))
  have HONE := Lib.hid hone
  clear hone
  refine HONE.out.mono ?_
  rintro e w3 ⟨vl, rfl, hown, F3⟩
  have F23 := (fr_one w2 (.cells #[.string ⟨text.toArray⟩, .int .i64 way, .int .u16 (space : Int)] 24)).trans F3
  have hls := fr_one w2 (.cells #[.string ⟨text.toArray⟩, .int .i64 way, .int .u16 (space : Int)] 24)
  obtain ⟨hplay, hws, hll⟩ := calm_play (keep := fun c => decide (c.op < 23)) (fun c ha hk => ⟨ha, .inl (of_decide_eq_true hk)⟩) HOK.out ⟨text, way, space⟩ (by simp only; omega)
  generalize hL : calmF (Yd.begin [⟨text, way, space⟩] 0) (keepF (fun c => decide (c.op < 23)) cs) = L at *
  obtain ⟨A1, q1, rfl⟩ := hown.value
  have hz2 := HF2.out.size
  have HOW := Lib.hid (hown.lower (base' := w2.heap.size) (by rw [World.size_alloc]; omega))
  have HGE := Lib.hid (show ∀ x, (Value.slice A1 L.length q1).ownBlock = some x → w2.heap.size + 1 ≤ x from fun x hx => by have := hown.blk_ge hx; rw [World.size_alloc] at this; exact this)
  have HO3 := Lib.hid (hown.lower (base' := w.heap.size) (by rw [World.size_alloc]; omega))
  have HRS := Lib.hid (show Reads St.cells 3 w3 (some ⟨w2.heap.size, 0, none⟩) [⟨text, way, space⟩] from (Reads.of_block St.cells_len (heap_alloc_new w2 (.cells #[.string ⟨text.toArray⟩, .int .i64 way, .int .u16 (space : Int)] 24)) rfl).fr0 F3)
  have HPLAY := Lib.hid hplay
  have HWS := Lib.hid hws
  have HF3 := Lib.hid (HF2.out.trans F23)
  have HK1c := Lib.hid (F23.blk HK1b.out (fun q => q))
  have HK2c := Lib.hid (F23.blk HK2b.out (fun q => q))
  have HLd := Lib.hid hL
  have l0c : w3.cell? ⟨w.heap.size + 1, 0, none⟩ = some (.int .i64 lop) := (F23.cell (World.block_lt_of_cell? _ _ l0b) (fun q => q)).trans l0b
  have l1c : w3.cell? ⟨w.heap.size + 1, 1, none⟩ = some (.int .i64 la) := (F23.cell (World.block_lt_of_cell? _ _ l1b) (fun q => q)).trans l1b
  have l2c : w3.cell? ⟨w.heap.size + 1, 2, none⟩ = some (.int .i64 lb) := (F23.cell (World.block_lt_of_cell? _ _ l2b) (fun q => q)).trans l2b
  have l3c : w3.cell? ⟨w.heap.size + 1, 3, none⟩ = some (.int .u16 (lsize : Int)) := (F23.cell (World.block_lt_of_cell? _ _ l3b) (fun q => q)).trans l3b
  have l4c : w3.cell? ⟨w.heap.size + 1, 4, none⟩ = some (.int .i64 ln) := (F23.cell (World.block_lt_of_cell? _ _ l4b) (fun q => q)).trans l4b
  have l5c : w3.cell? ⟨w.heap.size + 1, 5, none⟩ = some (.int .u8 (lsign.toNat : Int)) := (F23.cell (World.block_lt_of_cell? _ _ l5b) (fun q => q)).trans l5b
  have l6c : w3.cell? ⟨w.heap.size + 1, 6, none⟩ = some (.int .i32 lchar) := (F23.cell (World.block_lt_of_cell? _ _ l6b) (fun q => q)).trans l6b
  have l7c : w3.cell? ⟨w.heap.size + 1, 7, none⟩ = some (.string ⟨ltext.toArray⟩) := (F23.cell (World.block_lt_of_cell? _ _ l7b) (fun q => q)).trans l7b
  have l8c : w3.cell? ⟨w.heap.size + 1, 8, none⟩ = some (.slice lad lcuts.length lcap) := (F23.cell (World.block_lt_of_cell? _ _ l8b) (fun q => q)).trans l8b
  have v0c : w3.cell? ⟨w.heap.size + 1 + 1, 0, none⟩ = some (.int .i64 vop) := (F23.cell (World.block_lt_of_cell? _ _ v0b) (fun q => q)).trans v0b
  have v1c : w3.cell? ⟨w.heap.size + 1 + 1, 1, none⟩ = some (.int .i64 va) := (F23.cell (World.block_lt_of_cell? _ _ v1b) (fun q => q)).trans v1b
  have v2c : w3.cell? ⟨w.heap.size + 1 + 1, 2, none⟩ = some (.int .i64 vb) := (F23.cell (World.block_lt_of_cell? _ _ v2b) (fun q => q)).trans v2b
  have v3c : w3.cell? ⟨w.heap.size + 1 + 1, 3, none⟩ = some (.int .u16 (vsize : Int)) := (F23.cell (World.block_lt_of_cell? _ _ v3b) (fun q => q)).trans v3b
  have v4c : w3.cell? ⟨w.heap.size + 1 + 1, 4, none⟩ = some (.int .i64 vn) := (F23.cell (World.block_lt_of_cell? _ _ v4b) (fun q => q)).trans v4b
  have v5c : w3.cell? ⟨w.heap.size + 1 + 1, 5, none⟩ = some (.int .u8 (vsign.toNat : Int)) := (F23.cell (World.block_lt_of_cell? _ _ v5b) (fun q => q)).trans v5b
  have v6c : w3.cell? ⟨w.heap.size + 1 + 1, 6, none⟩ = some (.int .i32 vchar) := (F23.cell (World.block_lt_of_cell? _ _ v6b) (fun q => q)).trans v6b
  have v7c : w3.cell? ⟨w.heap.size + 1 + 1, 7, none⟩ = some (.string ⟨vtext.toArray⟩) := (F23.cell (World.block_lt_of_cell? _ _ v7b) (fun q => q)).trans v7b
  have v8c : w3.cell? ⟨w.heap.size + 1 + 1, 8, none⟩ = some (.slice vad vcuts.length vcap) := (F23.cell (World.block_lt_of_cell? _ _ v8b) (fun q => q)).trans v8b
  have zl := frozen_row HK1c.out 1
  have zv := frozen_row HK2c.out 1
  clear hown F3 F23 hls hplay hws hL s0b s1b s2b s0l s1l s2l l0b l1b l2b l3b l4b l5b l6b l7b l8b v0b v1b v2b v3b v4b v5b v6b v7b v8b
  go_wp2_with fail
  obtain ⟨w4, hw4⟩ : ∃ w4, w4 = (w3.setCell ⟨w.heap.size + 1, 1, none⟩ (.int .i64 0)).setCell ⟨w.heap.size + 1 + 1, 1, none⟩ (.int .i64 0) := ⟨_, rfl⟩
  have n12 : ¬ (w.heap.size + 1 = w.heap.size + 1 + 1) := by omega
  have n21 : ¬ (w.heap.size + 1 + 1 = w.heap.size + 1) := by omega
  have hb1 : w4.heap[w.heap.size + 1]? = some (.cells #[.int .i64 lop, .int .i64 0, .int .i64 lb, .int .u16 (lsize : Int), .int .i64 ln, .int .u8 (lsign.toNat : Int), .int .i32 lchar, .string ⟨ltext.toArray⟩, .slice lad lcuts.length lcap] 36 (0, 0)) := by rw [hw4]; simp [World.setCell, Array.getElem?_modify, HK1c.out]
  have hb2 : w4.heap[w.heap.size + 1 + 1]? = some (.cells #[.int .i64 vop, .int .i64 0, .int .i64 vb, .int .u16 (vsize : Int), .int .i64 vn, .int .u8 (vsign.toNat : Int), .int .i32 vchar, .string ⟨vtext.toArray⟩, .slice vad vcuts.length vcap] 36 (0, 0)) := by rw [hw4]; simp [World.setCell, Array.getElem?_modify, HK2c.out]
  have F4 : Fr (fun x => x = w.heap.size + 1 ∨ x = w.heap.size + 1 + 1) w3 w4 := by rw [hw4]; exact ((Fr.refl _ w3).setCell (fun _ => .inl rfl) _).setCell (fun _ => .inr rfl) _
  rw [← hw4]
  clear hw4
  have HB1 := Lib.hid hb1
  have HB2 := Lib.hid hb2
  have hz3 := HF3.out.size
  have HF4 := Lib.hid (HF3.out.trans' F4 (fun x hx q => by omega))
  have hwz : w0.heap.size ≤ w2.heap.size := HFB.out.size
  have HO4 := Lib.hid ((HOW.out.fr F4 (fun x hx q => by have := HOW.out.blk_ge hx; have := HSZ0.out; omega)).lower (base' := w.heap.size) (by omega))
  have HRS4 := Lib.hid (HRS.out.fr F4 (fun r o q k => by
    injection q with q
    injection q with q1 q2
    have := HSZ0.out
    omega))
  have ld0 : w4.cell? ⟨w.heap.size + 1, 0, none⟩ = some (.int .i64 lop) := by rw [cell_of_row w4 _ 0 _ _ _ hb1]; rfl
  have ld1 : w4.cell? ⟨w.heap.size + 1, 1, none⟩ = some (.int .i64 0) := by rw [cell_of_row w4 _ 1 _ _ _ hb1]; rfl
  have ld2 : w4.cell? ⟨w.heap.size + 1, 2, none⟩ = some (.int .i64 lb) := by rw [cell_of_row w4 _ 2 _ _ _ hb1]; rfl
  have ld3 : w4.cell? ⟨w.heap.size + 1, 3, none⟩ = some (.int .u16 (lsize : Int)) := by rw [cell_of_row w4 _ 3 _ _ _ hb1]; rfl
  have ld4 : w4.cell? ⟨w.heap.size + 1, 4, none⟩ = some (.int .i64 ln) := by rw [cell_of_row w4 _ 4 _ _ _ hb1]; rfl
  have ld5 : w4.cell? ⟨w.heap.size + 1, 5, none⟩ = some (.int .u8 (lsign.toNat : Int)) := by rw [cell_of_row w4 _ 5 _ _ _ hb1]; rfl
  have ld6 : w4.cell? ⟨w.heap.size + 1, 6, none⟩ = some (.int .i32 lchar) := by rw [cell_of_row w4 _ 6 _ _ _ hb1]; rfl
  have ld7 : w4.cell? ⟨w.heap.size + 1, 7, none⟩ = some (.string ⟨ltext.toArray⟩) := by rw [cell_of_row w4 _ 7 _ _ _ hb1]; rfl
  have ld8 : w4.cell? ⟨w.heap.size + 1, 8, none⟩ = some (.slice lad lcuts.length lcap) := by rw [cell_of_row w4 _ 8 _ _ _ hb1]; rfl
  have vd0 : w4.cell? ⟨w.heap.size + 1 + 1, 0, none⟩ = some (.int .i64 vop) := by rw [cell_of_row w4 _ 0 _ _ _ hb2]; rfl
  have vd1 : w4.cell? ⟨w.heap.size + 1 + 1, 1, none⟩ = some (.int .i64 0) := by rw [cell_of_row w4 _ 1 _ _ _ hb2]; rfl
  have vd2 : w4.cell? ⟨w.heap.size + 1 + 1, 2, none⟩ = some (.int .i64 vb) := by rw [cell_of_row w4 _ 2 _ _ _ hb2]; rfl
  have vd3 : w4.cell? ⟨w.heap.size + 1 + 1, 3, none⟩ = some (.int .u16 (vsize : Int)) := by rw [cell_of_row w4 _ 3 _ _ _ hb2]; rfl
  have vd4 : w4.cell? ⟨w.heap.size + 1 + 1, 4, none⟩ = some (.int .i64 vn) := by rw [cell_of_row w4 _ 4 _ _ _ hb2]; rfl
  have vd5 : w4.cell? ⟨w.heap.size + 1 + 1, 5, none⟩ = some (.int .u8 (vsign.toNat : Int)) := by rw [cell_of_row w4 _ 5 _ _ _ hb2]; rfl
  have vd6 : w4.cell? ⟨w.heap.size + 1 + 1, 6, none⟩ = some (.int .i32 vchar) := by rw [cell_of_row w4 _ 6 _ _ _ hb2]; rfl
  have vd7 : w4.cell? ⟨w.heap.size + 1 + 1, 7, none⟩ = some (.string ⟨vtext.toArray⟩) := by rw [cell_of_row w4 _ 7 _ _ _ hb2]; rfl
  have vd8 : w4.cell? ⟨w.heap.size + 1 + 1, 8, none⟩ = some (.slice vad vcuts.length vcap) := by rw [cell_of_row w4 _ 8 _ _ _ hb2]; rfl
  have hr := t_reads ⟨lop, 0, lb, lsize, ln, lsign, lchar, ltext, lcuts, lad, lcap⟩ w4
  simp only [Cl.val, Cl.cells] at hr
  obtain ⟨br, hbr⟩ : ∃ br, br = decide (Cl.isRead ⟨lop, 0, lb, lsize, ln, lsign, lchar, ltext, lcuts, lad, lcap⟩) := ⟨_, rfl⟩
  rw [← hbr] at hr
  have HBR := Lib.hid hbr
  have HR := Lib.hid hr
  clear hb1 hb2 F4 hr hbr l0c l1c l2c l3c l4c l5c l6c l7c l8c v0c v1c v2c v3c v4c v5c v6c v7c v8c zl zv
  refine HR.out.mono ?_
  rintro e w5 ⟨rfl, F5⟩
  have HF5 := Lib.hid (HF4.out.trans F5)
  have HG5 := Lib.hid ((HG.out.fr0 (Nat.le_refl _) HF5.out).up HF5.out.size)
  cases br with
  | false =>
    go_wp2_with fail
    refine (ready_any ea eu w5 HG5.out).mono ?_
    rintro e w6 ⟨rfl, F6⟩
    go_wp2_with fail
    go_ret
    exact ⟨rfl, HF5.out.trans F6⟩
  | true =>
    have le0 : w5.cell? ⟨w.heap.size + 1, 0, none⟩ = some (.int .i64 lop) := (F5.cell (World.block_lt_of_cell? _ _ ld0) (fun q => q)).trans ld0
    have le1 : w5.cell? ⟨w.heap.size + 1, 1, none⟩ = some (.int .i64 0) := (F5.cell (World.block_lt_of_cell? _ _ ld1) (fun q => q)).trans ld1
    have le2 : w5.cell? ⟨w.heap.size + 1, 2, none⟩ = some (.int .i64 lb) := (F5.cell (World.block_lt_of_cell? _ _ ld2) (fun q => q)).trans ld2
    have le3 : w5.cell? ⟨w.heap.size + 1, 3, none⟩ = some (.int .u16 (lsize : Int)) := (F5.cell (World.block_lt_of_cell? _ _ ld3) (fun q => q)).trans ld3
    have le4 : w5.cell? ⟨w.heap.size + 1, 4, none⟩ = some (.int .i64 ln) := (F5.cell (World.block_lt_of_cell? _ _ ld4) (fun q => q)).trans ld4
    have le5 : w5.cell? ⟨w.heap.size + 1, 5, none⟩ = some (.int .u8 (lsign.toNat : Int)) := (F5.cell (World.block_lt_of_cell? _ _ ld5) (fun q => q)).trans ld5
    have le6 : w5.cell? ⟨w.heap.size + 1, 6, none⟩ = some (.int .i32 lchar) := (F5.cell (World.block_lt_of_cell? _ _ ld6) (fun q => q)).trans ld6
    have le7 : w5.cell? ⟨w.heap.size + 1, 7, none⟩ = some (.string ⟨ltext.toArray⟩) := (F5.cell (World.block_lt_of_cell? _ _ ld7) (fun q => q)).trans ld7
    have le8 : w5.cell? ⟨w.heap.size + 1, 8, none⟩ = some (.slice lad lcuts.length lcap) := (F5.cell (World.block_lt_of_cell? _ _ ld8) (fun q => q)).trans ld8
    have ve0 : w5.cell? ⟨w.heap.size + 1 + 1, 0, none⟩ = some (.int .i64 vop) := (F5.cell (World.block_lt_of_cell? _ _ vd0) (fun q => q)).trans vd0
    have ve1 : w5.cell? ⟨w.heap.size + 1 + 1, 1, none⟩ = some (.int .i64 0) := (F5.cell (World.block_lt_of_cell? _ _ vd1) (fun q => q)).trans vd1
    have ve2 : w5.cell? ⟨w.heap.size + 1 + 1, 2, none⟩ = some (.int .i64 vb) := (F5.cell (World.block_lt_of_cell? _ _ vd2) (fun q => q)).trans vd2
    have ve3 : w5.cell? ⟨w.heap.size + 1 + 1, 3, none⟩ = some (.int .u16 (vsize : Int)) := (F5.cell (World.block_lt_of_cell? _ _ vd3) (fun q => q)).trans vd3
    have ve4 : w5.cell? ⟨w.heap.size + 1 + 1, 4, none⟩ = some (.int .i64 vn) := (F5.cell (World.block_lt_of_cell? _ _ vd4) (fun q => q)).trans vd4
    have ve5 : w5.cell? ⟨w.heap.size + 1 + 1, 5, none⟩ = some (.int .u8 (vsign.toNat : Int)) := (F5.cell (World.block_lt_of_cell? _ _ vd5) (fun q => q)).trans vd5
    have ve6 : w5.cell? ⟨w.heap.size + 1 + 1, 6, none⟩ = some (.int .i32 vchar) := (F5.cell (World.block_lt_of_cell? _ _ vd6) (fun q => q)).trans vd6
    have ve7 : w5.cell? ⟨w.heap.size + 1 + 1, 7, none⟩ = some (.string ⟨vtext.toArray⟩) := (F5.cell (World.block_lt_of_cell? _ _ vd7) (fun q => q)).trans vd7
    have ve8 : w5.cell? ⟨w.heap.size + 1 + 1, 8, none⟩ = some (.slice vad vcuts.length vcap) := (F5.cell (World.block_lt_of_cell? _ _ vd8) (fun q => q)).trans vd8
    have HO5 := Lib.hid (HO4.out.fr F5 (fun _ _ q => q))
    have HRS5 := Lib.hid (HRS4.out.fr0 F5)
    clear F5 ld0 ld1 ld2 ld3 ld4 ld5 ld6 ld7 ld8 vd0 vd1 vd2 vd3 vd4 vd5 vd6 vd7 vd8
    by_cases hv1 : vop < 1
    · have m1 : decide (vop < 1) = true := decide_eq_true hv1
      go_wp2_with fail
      refine (ready_any ea eu w5 HG5.out).mono ?_
      rintro e w6 ⟨rfl, F6⟩
      go_wp2_with fail
      go_ret
      exact ⟨rfl, HF5.out.trans F6⟩
    have m1 : decide (vop < 1) = false := decide_eq_false hv1
    by_cases hv5 : 5 < vop
    · have m2 : decide (5 < vop) = true := decide_eq_true hv5
      go_wp2_with fail
      refine (ready_any ea eu w5 HG5.out).mono ?_
      rintro e w6 ⟨rfl, F6⟩
      go_wp2_with fail
      go_ret
      exact ⟨rfl, HF5.out.trans F6⟩
    have m2 : decide (5 < vop) = false := decide_eq_false hv5
    have hr := t_valid ⟨vop, 0, vb, vsize, vn, vsign, vchar, vtext, vcuts, vad, vcap⟩ w5
    simp only [Cl.val, Cl.cells] at hr
    obtain ⟨bv, hbv⟩ : ∃ bv, bv = decide (Cl.valid ⟨vop, 0, vb, vsize, vn, vsign, vchar, vtext, vcuts, vad, vcap⟩) := ⟨_, rfl⟩
    rw [← hbv] at hr
    have HBV := Lib.hid hbv
    have HR2 := Lib.hid hr
    clear hr hbv
    go_wp2_with fail
    refine HR2.out.mono ?_
    rintro e w6 ⟨rfl, F6⟩
    have HF6 := Lib.hid (HF5.out.trans F6)
    have HG6 := Lib.hid ((HG.out.fr0 (Nat.le_refl _) HF6.out).up HF6.out.size)
    cases bv with
    | false =>
      go_wp2_with fail
      refine (ready_any ea eu w6 HG6.out).mono ?_
      rintro e w7 ⟨rfl, F7⟩
      go_wp2_with fail
      go_ret
      exact ⟨rfl, HF6.out.trans F7⟩
    | true =>
      have lf0 : w6.cell? ⟨w.heap.size + 1, 0, none⟩ = some (.int .i64 lop) := (F6.cell (World.block_lt_of_cell? _ _ le0) (fun q => q)).trans le0
      have lf1 : w6.cell? ⟨w.heap.size + 1, 1, none⟩ = some (.int .i64 0) := (F6.cell (World.block_lt_of_cell? _ _ le1) (fun q => q)).trans le1
      have lf2 : w6.cell? ⟨w.heap.size + 1, 2, none⟩ = some (.int .i64 lb) := (F6.cell (World.block_lt_of_cell? _ _ le2) (fun q => q)).trans le2
      have lf3 : w6.cell? ⟨w.heap.size + 1, 3, none⟩ = some (.int .u16 (lsize : Int)) := (F6.cell (World.block_lt_of_cell? _ _ le3) (fun q => q)).trans le3
      have lf4 : w6.cell? ⟨w.heap.size + 1, 4, none⟩ = some (.int .i64 ln) := (F6.cell (World.block_lt_of_cell? _ _ le4) (fun q => q)).trans le4
      have lf5 : w6.cell? ⟨w.heap.size + 1, 5, none⟩ = some (.int .u8 (lsign.toNat : Int)) := (F6.cell (World.block_lt_of_cell? _ _ le5) (fun q => q)).trans le5
      have lf6 : w6.cell? ⟨w.heap.size + 1, 6, none⟩ = some (.int .i32 lchar) := (F6.cell (World.block_lt_of_cell? _ _ le6) (fun q => q)).trans le6
      have lf7 : w6.cell? ⟨w.heap.size + 1, 7, none⟩ = some (.string ⟨ltext.toArray⟩) := (F6.cell (World.block_lt_of_cell? _ _ le7) (fun q => q)).trans le7
      have lf8 : w6.cell? ⟨w.heap.size + 1, 8, none⟩ = some (.slice lad lcuts.length lcap) := (F6.cell (World.block_lt_of_cell? _ _ le8) (fun q => q)).trans le8
      have vf0 : w6.cell? ⟨w.heap.size + 1 + 1, 0, none⟩ = some (.int .i64 vop) := (F6.cell (World.block_lt_of_cell? _ _ ve0) (fun q => q)).trans ve0
      have vf1 : w6.cell? ⟨w.heap.size + 1 + 1, 1, none⟩ = some (.int .i64 0) := (F6.cell (World.block_lt_of_cell? _ _ ve1) (fun q => q)).trans ve1
      have vf2 : w6.cell? ⟨w.heap.size + 1 + 1, 2, none⟩ = some (.int .i64 vb) := (F6.cell (World.block_lt_of_cell? _ _ ve2) (fun q => q)).trans ve2
      have vf3 : w6.cell? ⟨w.heap.size + 1 + 1, 3, none⟩ = some (.int .u16 (vsize : Int)) := (F6.cell (World.block_lt_of_cell? _ _ ve3) (fun q => q)).trans ve3
      have vf4 : w6.cell? ⟨w.heap.size + 1 + 1, 4, none⟩ = some (.int .i64 vn) := (F6.cell (World.block_lt_of_cell? _ _ ve4) (fun q => q)).trans ve4
      have vf5 : w6.cell? ⟨w.heap.size + 1 + 1, 5, none⟩ = some (.int .u8 (vsign.toNat : Int)) := (F6.cell (World.block_lt_of_cell? _ _ ve5) (fun q => q)).trans ve5
      have vf6 : w6.cell? ⟨w.heap.size + 1 + 1, 6, none⟩ = some (.int .i32 vchar) := (F6.cell (World.block_lt_of_cell? _ _ ve6) (fun q => q)).trans ve6
      have vf7 : w6.cell? ⟨w.heap.size + 1 + 1, 7, none⟩ = some (.string ⟨vtext.toArray⟩) := (F6.cell (World.block_lt_of_cell? _ _ ve7) (fun q => q)).trans ve7
      have vf8 : w6.cell? ⟨w.heap.size + 1 + 1, 8, none⟩ = some (.slice vad vcuts.length vcap) := (F6.cell (World.block_lt_of_cell? _ _ ve8) (fun q => q)).trans ve8
      have HO6 := Lib.hid (HO5.out.fr F6 (fun _ _ q => q))
      have HRS6 := Lib.hid (HRS5.out.fr0 F6)
      clear F6 le0 le1 le2 le3 le4 le5 le6 le7 le8 ve0 ve1 ve2 ve3 ve4 ve5 ve6 ve7 ve8
      go_wp2_with (refine wpList_copy elem_call Cl.cells_len cl_one rfl (.tmp 46) (.tmp 49) rfl w.heap.size _ L.length (cls L) (some ⟨w6.heap.size, 0, none⟩) 2 [⟨lop, 0, lb, lsize, ln, lsign, lchar, ltext, lcuts, lad, lcap⟩, ⟨vop, 0, vb, vsize, vn, vsign, vchar, vtext, vcuts, vad, vcap⟩] (by rfl) (by rfl) (HO6.out.fr (fr_one w6 _) (fun _ _ q => q)) (Reads.of_block Cl.cells_len (heap_alloc_new w6 _) rfl) (fun q => by cases q) (by simp only [List.length_cons, List.length_nil]; omega) (by have := HF6.out.size; rw [World.size_alloc]; omega) ?_)
      intro v7 w7 hown7 hfr7 hat7
      obtain ⟨L2, hL2⟩ : ∃ L2, L2 = L ++ [⟨lop, 0, lb, lsize, ln, lsign, lchar, ltext, lcuts, lad, lcap⟩, ⟨vop, 0, vb, vsize, vn, vsign, vchar, vtext, vcuts, vad, vcap⟩] := ⟨_, rfl⟩
      have hlen2 : L2.length = L.length + 2 := by rw [hL2]; simp
      have hown7' : OwnC w7 w.heap.size v7 L2 := by
        unfold OwnC
        rw [hlen2, hL2, cls_append]
        exact hown7
      have HF7 := Lib.hid ((HF6.out.alloc _).trans' hfr7 (fun x hx q => by have := HGE.out x q; omega))
      have HRS7 := Lib.hid ((HRS6.out.fr0 (fr_one w6 _)).fr hfr7 (fun r o q k => by
        injection q with q
        injection q with q1 q2
        have := HGE.out r k
        omega))
      have HL2 := Lib.hid hL2
      have HO7 := Lib.hid hown7'
      have HG7 := Lib.hid ((HG.out.fr0 (Nat.le_refl _) HF7.out).up HF7.out.size)
      obtain ⟨A7, q7, rfl⟩ := hown7'.value
      have hz26 : w2.heap.size < w6.heap.size := by
        obtain ⟨r, o, e, hc⟩ := HRS6.out.at' 0 _ rfl
        have := World.block_lt_of_cell? _ _ (hc 0 _ rfl)
        injection e with e
        injection e with e1 e2
        subst e1
        exact this
      have HGE7 := Lib.hid (show ∀ x, (Value.slice A7 L2.length q7).ownBlock = some x → w2.heap.size + 1 ≤ x from fun x hx => by
        rcases hat7 with k | k
        · rw [k] at hx
          exact HGE.out x hx
        · rw [k] at hx
          injection hx with hx
          omega)
      have HLT7 := Lib.hid (show ∀ x, (Value.slice A7 L2.length q7).ownBlock = some x → x < w7.heap.size from fun x hx => hown7'.blk_lt hx)
      clear hz26
      clear hL2 hown7 hown7' hfr7 hat7
      have hws7 := HWS.out
      obtain ⟨P1, P2, PE⟩ := written_play (c := ⟨lop, 0, lb, lsize, ln, lsign, lchar, ltext, lcuts, lad, lcap⟩) (d := ⟨vop, 0, vb, vsize, vn, vsign, vchar, vtext, vcuts, vad, vcap⟩) (HPLAY.out.fr HF7.out) rfl (of_decide_eq_true HBR.out.symm) rfl ⟨by simp only; omega, by simp only; omega⟩ (of_decide_eq_true HBV.out.symm) (ClOk.fr ⟨HL.out.size, HL.out.cuts, HL.out.few, HL.out.text⟩ HF7.out) (ClOk.fr ⟨HV.out.size, HV.out.cuts, HV.out.few, HV.out.text⟩ HF7.out) (by have := HOK.out.sz; simp only; omega) (by omega)
      rw [← HL2.out] at P1 P2 PE
      have hrd7 : Reads Cl.cells 9 w7 A7 L2 := Own.readsAt Cl.cells_len (by decide) (by have k := HO7.out; unfold OwnC at k; exact k)
      have HRUN1 := Lib.hid (run1_any ⟨text, way, space⟩ L2 (some ⟨w2.heap.size, 0, none⟩) A7 1 q7 ea eu w7 HRS7.out ⟨by simp only; omega, hsp⟩ hrd7 P1 HG7.out)
      have HP2 := Lib.hid P2
      have HPE := Lib.hid PE
      clear P1 P2 PE hrd7
      have HL2s := Lib.hid hlen2
      clear hlen2 hws7
      go_wp2_with fail
      refine HRUN1.out.mono ?_
      rintro e w8 ⟨A8, c8, B8, d8, D8, n8, k8, fin, rfl, ht8, hl8, hr8, hs8, F8, hc8, hn8, hm8⟩
      have HF8 := Lib.hid (HF7.out.trans F8)
      have HO8 := Lib.hid (HO7.out.fr F8 (fun _ _ q => q))
      have HRS8 := Lib.hid (HRS7.out.fr0 F8)
      have HT8 := Lib.hid hr8
      have HS8 := Lib.hid hs8
      have HTX := Lib.hid ht8
      have HLN := Lib.hid hl8
      have HN8 := Lib.hid (And.intro hn8 hm8)
      clear HRUN1 HP2 ht8 hl8 hr8 hs8 F8 hc8 hn8 hm8
      go_wp2_with (refine wpList_copy elem_call Cl.cells_len cl_one rfl (.tmp 60) (.tmp 63) rfl w.heap.size _ L2.length (cls L2) (some ⟨w8.heap.size, 0, none⟩) 2 [bsC, bcC] (by rfl) (by rfl) (HO8.out.fr (fr_one w8 _) (fun _ _ q => q)) (Reads.of_block Cl.cells_len (heap_alloc_new w8 _) rfl) (fun q => by cases q) (by have := HL2s.out; simp only [List.length_cons, List.length_nil]; omega) (by have := HF8.out.size; rw [World.size_alloc]; omega) ?_)
      intro v9 w9 hown9 hfr9 hat9
      obtain ⟨L3, hL3⟩ : ∃ L3, L3 = L2 ++ [bsC, bcC] := ⟨_, rfl⟩
      have hlen3 : L3.length = L2.length + 2 := by rw [hL3]; simp
      have hown9' : OwnC w9 w.heap.size v9 L3 := by
        unfold OwnC
        rw [hlen3, hL3, cls_append]
        exact hown9
      have HF9 := Lib.hid ((HF8.out.alloc _).trans' hfr9 (fun x hx q => by have := HO8.out.blk_ge q; omega))
      have HRS9 := Lib.hid ((HRS8.out.fr0 (fr_one w8 _)).fr hfr9 (fun r o q k => by
        injection q with q
        injection q with q1 q2
        have := HGE7.out r k
        omega))
      have HT9 := Lib.hid ((HT8.out.fr0 (fr_one w8 _)).fr hfr9 (fun r o q k => by
        have h1 := HN8.out.1 r o q
        have h2 := HLT7.out r k
        omega))
      have HS9 := Lib.hid ((HS8.out.fr0 (fr_one w8 _)).fr hfr9 (fun r o q k => by
        have h1 := HN8.out.2 r o q
        have h2 := HLT7.out r k
        omega))
      have HG9 := Lib.hid ((HG.out.fr0 (Nat.le_refl _) HF9.out).up HF9.out.size)
      obtain ⟨A9, q9, rfl⟩ := hown9'.value
      have hL2s := HL2s.out
      obtain ⟨_, P2, _⟩ := written_play (c := ⟨lop, 0, lb, lsize, ln, lsign, lchar, ltext, lcuts, lad, lcap⟩) (d := ⟨vop, 0, vb, vsize, vn, vsign, vchar, vtext, vcuts, vad, vcap⟩) (HPLAY.out.fr HF9.out) rfl (of_decide_eq_true HBR.out.symm) rfl ⟨by simp only; omega, by simp only; omega⟩ (of_decide_eq_true HBV.out.symm) (ClOk.fr ⟨HL.out.size, HL.out.cuts, HL.out.few, HL.out.text⟩ HF9.out) (ClOk.fr ⟨HV.out.size, HV.out.cuts, HV.out.few, HV.out.text⟩ HF9.out) (by have := HOK.out.sz; have := HWS.out; simp only; omega) (by omega)
      rw [← HL2.out, ← hL3] at P2
      have hrd9 : Reads Cl.cells 9 w9 A9 L3 := Own.readsAt Cl.cells_len (by decide) (by have k := hown9'; unfold OwnC at k; exact k)
      have HRUN2 := Lib.hid (run1_any ⟨text, way, space⟩ L3 (some ⟨w2.heap.size, 0, none⟩) A9 1 q9 ea eu w9 HRS9.out ⟨by simp only; omega, hsp⟩ hrd9 P2 HG9.out)
      have hpe := HPE.out
      rw [← hL3] at hpe
      have HPE3 := Lib.hid hpe
      have HL3s := Lib.hid hlen3
      clear hL3 hlen3 hown9 hown9' hfr9 hat9 P2 hrd9 hpe hL2s HT8 HS8
      go_wp2_with fail
      refine HRUN2.out.mono ?_
      rintro e w10 ⟨A10, c10, B10, d10, D10, n10, k10, fin2, rfl, ht10, hl10, hr10, hs10, F10, hc10, hn10, hm10⟩
      rw [HPE3.out] at ht10 hl10 hr10
      simp only at ht10 hr10
      have hfin : fin2 = fin := by rw [HTX.out] at ht10; injection ht10 with q _; exact q.symm
      subst hfin
      obtain ⟨ts, hts⟩ : ∃ ts, ts = (runF (yd1 (b0 ⟨text, way, space⟩)) L2).1 := ⟨_, rfl⟩
      have hln := HLN.out
      have ht9 := HT9.out.fr0 F10
      rw [← hts] at hr10 ht9 hln
      obtain ⟨r, o, e1, hca⟩ := hr10.at' ts.length _ (by rw [List.getElem?_append_right (Nat.le_refl _), Nat.sub_self]; rfl)
      obtain ⟨r', o', e2, hcb⟩ := hr10.at' (ts.length + 1) _ (by rw [List.getElem?_append_right (by omega), Nat.add_sub_cancel_left]; rfl)
      rw [e1] at e2
      injection e2 with e2
      injection e2 with e2 e3
      subst e2 e3
      have h0 : w10.cell? ⟨r, o + L2.length * 4 + 3, none⟩ = some (.int .i64 2) := by rw [← hln]; exact hca 3 _ rfl
      obtain ⟨m1, hm1⟩ : ∃ m1, m1 = L2.length + 1 := ⟨_, rfl⟩
      have h1 : w10.cell? ⟨r, o + m1 * 4 + 3, none⟩ = some (.int .i64 2) := by rw [hm1, ← hln]; exact hcb 3 _ rfl
      have hl3 := HL3s.out
      have hsl := fun w' => slice_told_to A10 L3.length c10 L2.length (by omega) w'
      rw [e1] at hsl
      have hE1 := equal_told ts A10 A8 c10 c8 w10 (Reads.left hr10) ht9 (by have := HL2s.out; omega)
      rw [hln, e1] at hE1
      have HE1 := Lib.hid hE1
      have HE2 := Lib.hid (show ∀ w', Fr (fun _ => False) w10 w' → Calls Tryz.prog 24 #[.slice B10 1 d10, .slice B8 1 d8] w' fun e w'' => e = .returned (.bool true) ∧ Fr (fun _ => False) w' w'' from fun w' F => equal_strs [fin2] B10 B8 d10 d8 w' (hs10.fr0 F) ((HS9.out.fr0 F10).fr0 F) (by simp))
      have hw2 : IntKind.i64.wrap ((L2.length : Int) + 2) = (L3.length : Int) := by have := HL2s.out; rw [IntWalk.i64_in _ (by omega)]; omega
      have hw1 : IntKind.i64.wrap ((L2.length : Int) + 1) = (m1 : Int) := by have := HL2s.out; rw [IntWalk.i64_in _ (by omega)]; omega
      have hb0 : (0 : Int) ≤ (L2.length : Int) := by omega
      have hb1 : (L2.length : Int) < (L3.length : Int) := by omega
      have hb2 : (0 : Int) ≤ (m1 : Int) := by omega
      have hb3 : (m1 : Int) < (L3.length : Int) := by omega
      have HF10 := Lib.hid (HF9.out.trans F10)
      subst e1
      clear HRUN2 ht10 hl10 hr10 hs10 F10 hc10 hn10 hm10 hts hln ht9 hca hcb hm1 hl3 hE1
      go_wp2_with fail
      refine HE1.out.mono ?_
      rintro e w11 ⟨rfl, F11⟩
      have h0' := keep1 F11 h0
      have h1' := keep1 F11 h1
      have HF11 := Lib.hid F11
      clear h0 h1 F11 HE1
      go_wp2_with fail
      refine (HE2.out _ HF11.out).mono ?_
      rintro e w12 ⟨rfl, F12⟩
      have HF12 := Lib.hid ((HF10.out.trans HF11.out).trans F12)
      clear F12
      go_wp2_with fail
      go_ret
      exact ⟨rfl, HF12.out⟩
theorem unreadWritten_any (s : St) (cs : List Cl) (A : Option Addr) (c : Nat) (l v : Cl) (ea eu : Addr) (w : World) (hC : Reads Cl.cells 9 w A cs) (hok : CallsOk w cs) (hl : ClOk w l) (hv : ClOk w v) (hs : s.text.length ≤ 1048576) (hsp : s.space ≤ 65535) (hlt : l.text.length ≤ 1048576) (hvt : v.text.length ≤ 1048576) (hG : Gl w.heap.size ea eu w) :
    Calls Tryz.prog 7 #[.agg s.cells.toArray, .slice A cs.length c, l.val, v.val] w (LawPost w) := by
  obtain ⟨text, way, space⟩ := s
  obtain ⟨lop, la, lb, lsize, ln, lsign, lchar, ltext, lcuts, lad, lcap⟩ := l
  obtain ⟨vop, va, vb, vsize, vn, vsign, vchar, vtext, vcuts, vad, vcap⟩ := v
  exact unreadWritten_walk text way space cs A c lop la lb lsize ln lsign lchar ltext lcuts lad lcap vop va vb vsize vn vsign vchar vtext vcuts vad vcap ea eu w hC hok hl hv hs hsp hlt hvt hG
end Go.Proofs.YtbodbajgpgaoeaaGreatDoor
