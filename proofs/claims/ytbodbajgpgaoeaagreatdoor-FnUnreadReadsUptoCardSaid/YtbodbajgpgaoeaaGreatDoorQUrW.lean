/- The walk of laws.FnUnreadReads. -/
import Derived.Test.YtbodbajgpgaoeaaGreatDoorQUrP
namespace Go.Proofs.YtbodbajgpgaoeaaGreatDoor
open Go Go.RowKit

set_option maxHeartbeats 6400000 in
set_option maxRecDepth 100000 in
theorem unreadReads_walk (text : List UInt8) (way : Int) (space : Nat) (cs : List Cl) (A : Option Addr) (c : Nat) (lop la lb : Int) (lsize : Nat) (ln : Int) (lsign : UInt8) (lchar : Int) (ltext : List UInt8) (lcuts : List Nat) (lad : Option Addr) (lcap : Nat) (ea eu : Addr) (w : World) (hC : Reads Cl.cells 9 w A cs) (hok : CallsOk w cs)
    (hl : ClOk w ⟨lop, la, lb, lsize, ln, lsign, lchar, ltext, lcuts, lad, lcap⟩) (hs : text.length ≤ 1048576) (hsp : space ≤ 65535) (hlt : ltext.length ≤ 1048576) (hG : Gl w.heap.size ea eu w) :
    Calls Tryz.prog 6 #[.agg #[.string ⟨text.toArray⟩, .int .i64 way, .int .u16 (space : Int)], .slice A cs.length c, .agg #[.int .i64 lop, .int .i64 la, .int .i64 lb, .int .u16 (lsize : Int), .int .i64 ln, .int .u8 (lsign.toNat : Int), .int .i32 lchar, .string ⟨ltext.toArray⟩, .slice lad lcuts.length lcap]] w (LawPost w) := by
  have HC := Lib.hid hC
  have HOK := Lib.hid hok
  have HL := Lib.hid hl
  have HG := Lib.hid hG
  have hfew := hok.few
  clear hC hok hl hG
  obtain ⟨w0, hw0⟩ : ∃ w0, w0 = ((w.alloc (.cells #[.string ⟨text.toArray⟩, .int .i64 way, .int .u16 (space : Int)] 24)).alloc (.cells #[.int .i64 lop, .int .i64 la, .int .i64 lb, .int .u16 (lsize : Int), .int .i64 ln, .int .u8 (lsign.toNat : Int), .int .i32 lchar, .string ⟨ltext.toArray⟩, .slice lad lcuts.length lcap] 36)) := ⟨_, rfl⟩
  obtain ⟨k0, k1⟩ := two_blocks w (.cells #[.string ⟨text.toArray⟩, .int .i64 way, .int .u16 (space : Int)] 24) (.cells #[.int .i64 lop, .int .i64 la, .int .i64 lb, .int .u16 (lsize : Int), .int .i64 ln, .int .u8 (lsign.toNat : Int), .int .i32 lchar, .string ⟨ltext.toArray⟩, .slice lad lcuts.length lcap] 36)
  rw [← hw0] at k0 k1
  have hF0 : Fr (fun _ => False) w w0 := by rw [hw0]; exact ((Fr.refl (fun _ => False) w).alloc _).alloc _
  have hsz0 : w0.heap.size = w.heap.size + 1 + 1 := by rw [hw0]; simp only [World.size_alloc]
  have HSZ0 := Lib.hid hsz0
  have HF0 := Lib.hid hF0
  have HK0 := Lib.hid k0
  have HK1 := Lib.hid k1
  have HW0 := Lib.hid hw0
  have hs0 := hF0.size
  have s0 : w0.cell? ⟨w.heap.size, 0, none⟩ = some (.string ⟨text.toArray⟩) := by rw [cell_of_row w0 _ 0 _ _ _ k0]; rfl
  have s1 : w0.cell? ⟨w.heap.size, 1, none⟩ = some (.int .i64 way) := by rw [cell_of_row w0 _ 1 _ _ _ k0]; rfl
  have s2 : w0.cell? ⟨w.heap.size, 2, none⟩ = some (.int .u16 (space : Int)) := by rw [cell_of_row w0 _ 2 _ _ _ k0]; rfl
  have l0 : w0.cell? ⟨w.heap.size + 1, 0, none⟩ = some (.int .i64 lop) := by rw [cell_of_row w0 _ 0 _ _ _ k1]; rfl
  have l1 : w0.cell? ⟨w.heap.size + 1, 1, none⟩ = some (.int .i64 la) := by rw [cell_of_row w0 _ 1 _ _ _ k1]; rfl
  have l2 : w0.cell? ⟨w.heap.size + 1, 2, none⟩ = some (.int .i64 lb) := by rw [cell_of_row w0 _ 2 _ _ _ k1]; rfl
  have l3 : w0.cell? ⟨w.heap.size + 1, 3, none⟩ = some (.int .u16 (lsize : Int)) := by rw [cell_of_row w0 _ 3 _ _ _ k1]; rfl
  have l4 : w0.cell? ⟨w.heap.size + 1, 4, none⟩ = some (.int .i64 ln) := by rw [cell_of_row w0 _ 4 _ _ _ k1]; rfl
  have l5 : w0.cell? ⟨w.heap.size + 1, 5, none⟩ = some (.int .u8 (lsign.toNat : Int)) := by rw [cell_of_row w0 _ 5 _ _ _ k1]; rfl
  have l6 : w0.cell? ⟨w.heap.size + 1, 6, none⟩ = some (.int .i32 lchar) := by rw [cell_of_row w0 _ 6 _ _ _ k1]; rfl
  have l7 : w0.cell? ⟨w.heap.size + 1, 7, none⟩ = some (.string ⟨ltext.toArray⟩) := by rw [cell_of_row w0 _ 7 _ _ _ k1]; rfl
  have l8 : w0.cell? ⟨w.heap.size + 1, 8, none⟩ = some (.slice lad lcuts.length lcap) := by rw [cell_of_row w0 _ 8 _ _ _ k1]; rfl
  clear hw0 hF0 k0 k1
  have hlong : ∀ bb, bb = decide (4096 < cs.length) → Calls Tryz.prog 9 #[.slice (some ⟨w.heap.size + 1 + 1, 0, none⟩) 1 1] (w0.alloc (.cells #[.slice A cs.length c] 25)) fun e w' => e = .returned (.bool bb) ∧ w' = w0.alloc (.cells #[.slice A cs.length c] 25) := by
    intro bb hbb
    rw [hbb]
    have hcell : (w0.alloc (.cells #[.slice A cs.length c] 25)).cell? ⟨w.heap.size + 1 + 1, 0, none⟩ = some (.slice A cs.length c) := by rw [← hsz0, cell_of_row _ _ 0 _ _ _ (heap_alloc_new w0 _)]; rfl
    exact long_1 (w.heap.size + 1 + 1) A cs.length c _ hcell (by omega)
  have HLONG := Lib.hid hlong
  clear hlong hsz0
  by_cases hbig : 4096 < cs.length
  · go_enter Tryz.func6, Tryz.ntmps6
    go_wp2_with fail
    rw [← HW0.out]
    refine (HLONG.out true (by simp [hbig])).mono ?_
    rintro e w1 ⟨rfl, hw1⟩
    rw [hw1]
    clear hw1
    go_wp2_with fail
    go_ret
    exact ⟨rfl, HF0.out.alloc _⟩
  go_enter Tryz.func6, Tryz.ntmps6
  go_wp2_with fail
  rw [← HW0.out]
  refine (HLONG.out false (by simp [hbig])).mono ?_
  rintro e w1 ⟨rfl, hw1⟩
  rw [hw1]
  clear hw1
  obtain ⟨w2, hw2⟩ : ∃ w2, w2 = w0.alloc (.cells #[.slice A cs.length c] 25) := ⟨_, rfl⟩
  rw [← hw2]
  have hF2 : Fr (fun _ => False) w0 w2 := by rw [hw2]; exact fr_one w0 _
  have s0b : w2.cell? ⟨w.heap.size, 0, none⟩ = some (.string ⟨text.toArray⟩) := (hF2.cell (World.block_lt_of_cell? _ _ s0) (fun q => q)).trans s0
  have s1b : w2.cell? ⟨w.heap.size, 1, none⟩ = some (.int .i64 way) := (hF2.cell (World.block_lt_of_cell? _ _ s1) (fun q => q)).trans s1
  have s2b : w2.cell? ⟨w.heap.size, 2, none⟩ = some (.int .u16 (space : Int)) := (hF2.cell (World.block_lt_of_cell? _ _ s2) (fun q => q)).trans s2
  have l0b : w2.cell? ⟨w.heap.size + 1, 0, none⟩ = some (.int .i64 lop) := (hF2.cell (World.block_lt_of_cell? _ _ l0) (fun q => q)).trans l0
  have l1b : w2.cell? ⟨w.heap.size + 1, 1, none⟩ = some (.int .i64 la) := (hF2.cell (World.block_lt_of_cell? _ _ l1) (fun q => q)).trans l1
  have l2b : w2.cell? ⟨w.heap.size + 1, 2, none⟩ = some (.int .i64 lb) := (hF2.cell (World.block_lt_of_cell? _ _ l2) (fun q => q)).trans l2
  have l3b : w2.cell? ⟨w.heap.size + 1, 3, none⟩ = some (.int .u16 (lsize : Int)) := (hF2.cell (World.block_lt_of_cell? _ _ l3) (fun q => q)).trans l3
  have l4b : w2.cell? ⟨w.heap.size + 1, 4, none⟩ = some (.int .i64 ln) := (hF2.cell (World.block_lt_of_cell? _ _ l4) (fun q => q)).trans l4
  have l5b : w2.cell? ⟨w.heap.size + 1, 5, none⟩ = some (.int .u8 (lsign.toNat : Int)) := (hF2.cell (World.block_lt_of_cell? _ _ l5) (fun q => q)).trans l5
  have l6b : w2.cell? ⟨w.heap.size + 1, 6, none⟩ = some (.int .i32 lchar) := (hF2.cell (World.block_lt_of_cell? _ _ l6) (fun q => q)).trans l6
  have l7b : w2.cell? ⟨w.heap.size + 1, 7, none⟩ = some (.string ⟨ltext.toArray⟩) := (hF2.cell (World.block_lt_of_cell? _ _ l7) (fun q => q)).trans l7
  have l8b : w2.cell? ⟨w.heap.size + 1, 8, none⟩ = some (.slice lad lcuts.length lcap) := (hF2.cell (World.block_lt_of_cell? _ _ l8) (fun q => q)).trans l8
  have HF2 := Lib.hid (HF0.out.trans hF2)
  have HFB := Lib.hid hF2
  have HK1b := Lib.hid (hF2.blk HK1.out (fun q => q))
  have s0l : ∀ o : Obj, (w2.alloc o).cell? ⟨w.heap.size, 0, none⟩ = some (.string ⟨text.toArray⟩) := fun o => alloc_cell s0b
  have s1l : ∀ o : Obj, (w2.alloc o).cell? ⟨w.heap.size, 1, none⟩ = some (.int .i64 way) := fun o => alloc_cell s1b
  have s2l : ∀ o : Obj, (w2.alloc o).cell? ⟨w.heap.size, 2, none⟩ = some (.int .u16 (space : Int)) := fun o => alloc_cell s2b
  clear hw2 hF2 s0 s1 s2 l0 l1 l2 l3 l4 l5 l6 l7 l8
  go_wp2_with fail
  have hone := one_unread InvB stepB ⟨text, way, space⟩ (fun c => decide (c.op < 23)) t_unread cs A c (w2.alloc (.cells #[.string ⟨text.toArray⟩, .int .i64 way, .int .u16 (space : Int)] 24)) (HC.out.fr0 (HF2.out.alloc _)) (by omega) (keep_inv (fun c ha hk => ⟨ha, .inl (of_decide_eq_true hk)⟩) HOK.out ⟨text, way, space⟩ (by simp only; omega))
  have HONE := Lib.hid hone
  clear hone
  refine HONE.out.mono ?_
  rintro e w3 ⟨vl, rfl, hown, F3⟩
  have F23 := (fr_one w2 (.cells #[.string ⟨text.toArray⟩, .int .i64 way, .int .u16 (space : Int)] 24)).trans F3
  have hls := fr_one w2 (.cells #[.string ⟨text.toArray⟩, .int .i64 way, .int .u16 (space : Int)] 24)
  obtain ⟨hplay, hws, hll⟩ := calm_play (keep := fun c => decide (c.op < 23)) (fun c ha hk => ⟨ha, .inl (of_decide_eq_true hk)⟩) HOK.out ⟨text, way, space⟩ (by simp only; omega)
  generalize hL : calmF (Yd.begin [⟨text, way, space⟩] 0) (keepF (fun c => decide (c.op < 23)) cs) = L at *
  obtain ⟨A1, q1, rfl⟩ := hown.value
  have hz2 := HF2.out.size
  have HGE := Lib.hid (show ∀ x, (Value.slice A1 L.length q1).ownBlock = some x → w2.heap.size + 1 ≤ x from fun x hx => by have := hown.blk_ge hx; rw [World.size_alloc] at this; exact this)
  have HO3 := Lib.hid (hown.lower (base' := w2.heap.size) (by rw [World.size_alloc]; omega))
  have HRS := Lib.hid (show Reads St.cells 3 w3 (some ⟨w2.heap.size, 0, none⟩) [⟨text, way, space⟩] from (Reads.of_block St.cells_len (heap_alloc_new w2 (.cells #[.string ⟨text.toArray⟩, .int .i64 way, .int .u16 (space : Int)] 24)) rfl).fr0 F3)
  have HWS := Lib.hid hws
  have HZ3 := Lib.hid (show w2.heap.size + 1 ≤ w3.heap.size by have := F3.size; rw [World.size_alloc] at this; exact this)
  have HLT3 := Lib.hid (show ∀ x, (Value.slice A1 L.length q1).ownBlock = some x → x < w3.heap.size from fun x hx => hown.blk_lt hx)
  have HF3 := Lib.hid (HF2.out.trans F23)
  have HPLAY := Lib.hid hplay
  have HK1c := Lib.hid (F23.blk HK1b.out (fun q => q))
  have l0c : w3.cell? ⟨w.heap.size + 1, 0, none⟩ = some (.int .i64 lop) := (F23.cell (World.block_lt_of_cell? _ _ l0b) (fun q => q)).trans l0b
  have l1c : w3.cell? ⟨w.heap.size + 1, 1, none⟩ = some (.int .i64 la) := (F23.cell (World.block_lt_of_cell? _ _ l1b) (fun q => q)).trans l1b
  have l2c : w3.cell? ⟨w.heap.size + 1, 2, none⟩ = some (.int .i64 lb) := (F23.cell (World.block_lt_of_cell? _ _ l2b) (fun q => q)).trans l2b
  have l3c : w3.cell? ⟨w.heap.size + 1, 3, none⟩ = some (.int .u16 (lsize : Int)) := (F23.cell (World.block_lt_of_cell? _ _ l3b) (fun q => q)).trans l3b
  have l4c : w3.cell? ⟨w.heap.size + 1, 4, none⟩ = some (.int .i64 ln) := (F23.cell (World.block_lt_of_cell? _ _ l4b) (fun q => q)).trans l4b
  have l5c : w3.cell? ⟨w.heap.size + 1, 5, none⟩ = some (.int .u8 (lsign.toNat : Int)) := (F23.cell (World.block_lt_of_cell? _ _ l5b) (fun q => q)).trans l5b
  have l6c : w3.cell? ⟨w.heap.size + 1, 6, none⟩ = some (.int .i32 lchar) := (F23.cell (World.block_lt_of_cell? _ _ l6b) (fun q => q)).trans l6b
  have l7c : w3.cell? ⟨w.heap.size + 1, 7, none⟩ = some (.string ⟨ltext.toArray⟩) := (F23.cell (World.block_lt_of_cell? _ _ l7b) (fun q => q)).trans l7b
  have l8c : w3.cell? ⟨w.heap.size + 1, 8, none⟩ = some (.slice lad lcuts.length lcap) := (F23.cell (World.block_lt_of_cell? _ _ l8b) (fun q => q)).trans l8b
  have hrd3 : Reads Cl.cells 9 w3 A1 L := Own.readsAt Cl.cells_len (by decide) (by have k := HO3.out; exact k)
  have hrun1 := run1_any ⟨text, way, space⟩ L (some ⟨w2.heap.size, 0, none⟩) A1 1 q1 ea eu w3 HRS.out ⟨by simp only; omega, hsp⟩ hrd3 (HPLAY.out.fr HF3.out) ((HG.out.fr0 (Nat.le_refl _) HF3.out).up HF3.out.size)
  have HRUN1 := Lib.hid hrun1
  clear hrun1 hrd3 hown F3 F23 hls hplay hws hL s0b s1b s2b s0l s1l s2l l0b l1b l2b l3b l4b l5b l6b l7b l8b
  go_wp2_with fail
  refine HRUN1.out.mono ?_
  rintro e w4 ⟨A4, c4, B4, d4, D4, n4, k4, fin, rfl, ht4, hl4, hr4, hs4, F4, hc4, hn4, hm4⟩
  have HF4 := Lib.hid (HF3.out.trans F4)
  have HF34 := Lib.hid F4
  have HO4 := Lib.hid (HO3.out.fr F4 (fun _ _ q => q))
  have HRS4 := Lib.hid (HRS.out.fr0 F4)
  have HM4 := Lib.hid hm4
  have HS4 := Lib.hid hs4
  have HTX := Lib.hid ht4
  have HK1d := Lib.hid (F4.blk HK1c.out (fun q => q))
  have l0d : w4.cell? ⟨w.heap.size + 1, 0, none⟩ = some (.int .i64 lop) := (F4.cell (World.block_lt_of_cell? _ _ l0c) (fun q => q)).trans l0c
  have l1d : w4.cell? ⟨w.heap.size + 1, 1, none⟩ = some (.int .i64 la) := (F4.cell (World.block_lt_of_cell? _ _ l1c) (fun q => q)).trans l1c
  have l2d : w4.cell? ⟨w.heap.size + 1, 2, none⟩ = some (.int .i64 lb) := (F4.cell (World.block_lt_of_cell? _ _ l2c) (fun q => q)).trans l2c
  have l3d : w4.cell? ⟨w.heap.size + 1, 3, none⟩ = some (.int .u16 (lsize : Int)) := (F4.cell (World.block_lt_of_cell? _ _ l3c) (fun q => q)).trans l3c
  have l4d : w4.cell? ⟨w.heap.size + 1, 4, none⟩ = some (.int .i64 ln) := (F4.cell (World.block_lt_of_cell? _ _ l4c) (fun q => q)).trans l4c
  have l5d : w4.cell? ⟨w.heap.size + 1, 5, none⟩ = some (.int .u8 (lsign.toNat : Int)) := (F4.cell (World.block_lt_of_cell? _ _ l5c) (fun q => q)).trans l5c
  have l6d : w4.cell? ⟨w.heap.size + 1, 6, none⟩ = some (.int .i32 lchar) := (F4.cell (World.block_lt_of_cell? _ _ l6c) (fun q => q)).trans l6c
  have l7d : w4.cell? ⟨w.heap.size + 1, 7, none⟩ = some (.string ⟨ltext.toArray⟩) := (F4.cell (World.block_lt_of_cell? _ _ l7c) (fun q => q)).trans l7c
  have l8d : w4.cell? ⟨w.heap.size + 1, 8, none⟩ = some (.slice lad lcuts.length lcap) := (F4.cell (World.block_lt_of_cell? _ _ l8c) (fun q => q)).trans l8c
  have zl := frozen_row HK1d.out 1
  clear HRUN1 ht4 hl4 hr4 hs4 F4 hc4 hn4 hm4 l0c l1c l2c l3c l4c l5c l6c l7c l8c
  go_wp2_with fail
  obtain ⟨w5, hw5⟩ : ∃ w5, w5 = w4.setCell ⟨w.heap.size + 1, 1, none⟩ (.int .i64 0) := ⟨_, rfl⟩
  have hb1 : w5.heap[w.heap.size + 1]? = some (.cells #[.int .i64 lop, .int .i64 0, .int .i64 lb, .int .u16 (lsize : Int), .int .i64 ln, .int .u8 (lsign.toNat : Int), .int .i32 lchar, .string ⟨ltext.toArray⟩, .slice lad lcuts.length lcap] 36 (0, 0)) := by rw [hw5]; simp [World.setCell, Array.getElem?_modify, HK1d.out]
  have F5 : Fr (fun x => x = w.heap.size + 1) w4 w5 := by rw [hw5]; exact (Fr.refl (fun x => x = w.heap.size + 1) w4).setCell (fun _ => rfl) _
  rw [← hw5]
  clear hw5
  have hz4 := HF4.out.size
  have hz24 : w2.heap.size ≤ w4.heap.size := by have := HO4.out; have := HRS4.out.at' 0 _ rfl; obtain ⟨r, o, e, hc⟩ := this; have h3 : r < w4.heap.size := World.block_lt_of_cell? _ _ (hc 0 _ rfl); injection e with e; injection e with e1 e2; subst e1; omega
  have HF5 := Lib.hid (HF4.out.trans' F5 (fun x hx q => by omega))
  have hwz : w0.heap.size ≤ w2.heap.size := HFB.out.size
  have HO5 := Lib.hid ((HO4.out.fr F5 (fun x hx q => by have := HO4.out.blk_ge hx; have := HSZ0.out; omega)).lower (base' := w.heap.size) (by omega))
  have HRS5 := Lib.hid (HRS4.out.fr F5 (fun r o q k => by
    injection q with q
    injection q with q1 q2
    have := HSZ0.out
    omega))
  have hz34 : w3.heap.size ≤ w4.heap.size := HF34.out.size
  have hw23 : w2.heap.size + 1 ≤ w3.heap.size := HZ3.out
  have HS5 := Lib.hid (HS4.out.fr F5 (fun r o q k => by
    have := HM4.out r o q
    have := HSZ0.out
    omega))
  have ld0 : w5.cell? ⟨w.heap.size + 1, 0, none⟩ = some (.int .i64 lop) := by rw [cell_of_row w5 _ 0 _ _ _ hb1]; rfl
  have ld1 : w5.cell? ⟨w.heap.size + 1, 1, none⟩ = some (.int .i64 0) := by rw [cell_of_row w5 _ 1 _ _ _ hb1]; rfl
  have ld2 : w5.cell? ⟨w.heap.size + 1, 2, none⟩ = some (.int .i64 lb) := by rw [cell_of_row w5 _ 2 _ _ _ hb1]; rfl
  have ld3 : w5.cell? ⟨w.heap.size + 1, 3, none⟩ = some (.int .u16 (lsize : Int)) := by rw [cell_of_row w5 _ 3 _ _ _ hb1]; rfl
  have ld4 : w5.cell? ⟨w.heap.size + 1, 4, none⟩ = some (.int .i64 ln) := by rw [cell_of_row w5 _ 4 _ _ _ hb1]; rfl
  have ld5 : w5.cell? ⟨w.heap.size + 1, 5, none⟩ = some (.int .u8 (lsign.toNat : Int)) := by rw [cell_of_row w5 _ 5 _ _ _ hb1]; rfl
  have ld6 : w5.cell? ⟨w.heap.size + 1, 6, none⟩ = some (.int .i32 lchar) := by rw [cell_of_row w5 _ 6 _ _ _ hb1]; rfl
  have ld7 : w5.cell? ⟨w.heap.size + 1, 7, none⟩ = some (.string ⟨ltext.toArray⟩) := by rw [cell_of_row w5 _ 7 _ _ _ hb1]; rfl
  have ld8 : w5.cell? ⟨w.heap.size + 1, 8, none⟩ = some (.slice lad lcuts.length lcap) := by rw [cell_of_row w5 _ 8 _ _ _ hb1]; rfl
  have hr := t_reads ⟨lop, 0, lb, lsize, ln, lsign, lchar, ltext, lcuts, lad, lcap⟩ w5
  simp only [Cl.val, Cl.cells] at hr
  obtain ⟨br, hbr⟩ : ∃ br, br = decide (Cl.isRead ⟨lop, 0, lb, lsize, ln, lsign, lchar, ltext, lcuts, lad, lcap⟩) := ⟨_, rfl⟩
  rw [← hbr] at hr
  have HBR := Lib.hid hbr
  have HR := Lib.hid hr
  clear hb1 F5 hr hbr zl l0d l1d l2d l3d l4d l5d l6d l7d l8d
  refine HR.out.mono ?_
  rintro e w6 ⟨rfl, F6⟩
  have HF6 := Lib.hid (HF5.out.trans F6)
  have HG6 := Lib.hid ((HG.out.fr0 (Nat.le_refl _) HF6.out).up HF6.out.size)
  cases br with
  | false =>
    go_wp2_with fail
    refine (ready_any ea eu w6 HG6.out).mono ?_
    rintro e w7 ⟨rfl, F7⟩
    go_wp2_with fail
    go_ret
    exact ⟨rfl, HF6.out.trans F7⟩
  | true =>
    have lf0 : w6.cell? ⟨w.heap.size + 1, 0, none⟩ = some (.int .i64 lop) := (F6.cell (World.block_lt_of_cell? _ _ ld0) (fun q => q)).trans ld0
    have lf1 : w6.cell? ⟨w.heap.size + 1, 1, none⟩ = some (.int .i64 0) := (F6.cell (World.block_lt_of_cell? _ _ ld1) (fun q => q)).trans ld1
    have lf2 : w6.cell? ⟨w.heap.size + 1, 2, none⟩ = some (.int .i64 lb) := (F6.cell (World.block_lt_of_cell? _ _ ld2) (fun q => q)).trans ld2
    have lf3 : w6.cell? ⟨w.heap.size + 1, 3, none⟩ = some (.int .u16 (lsize : Int)) := (F6.cell (World.block_lt_of_cell? _ _ ld3) (fun q => q)).trans ld3
    have lf4 : w6.cell? ⟨w.heap.size + 1, 4, none⟩ = some (.int .i64 ln) := (F6.cell (World.block_lt_of_cell? _ _ ld4) (fun q => q)).trans ld4
    have lf5 : w6.cell? ⟨w.heap.size + 1, 5, none⟩ = some (.int .u8 (lsign.toNat : Int)) := (F6.cell (World.block_lt_of_cell? _ _ ld5) (fun q => q)).trans ld5
    have lf6 : w6.cell? ⟨w.heap.size + 1, 6, none⟩ = some (.int .i32 lchar) := (F6.cell (World.block_lt_of_cell? _ _ ld6) (fun q => q)).trans ld6
    have lf7 : w6.cell? ⟨w.heap.size + 1, 7, none⟩ = some (.string ⟨ltext.toArray⟩) := (F6.cell (World.block_lt_of_cell? _ _ ld7) (fun q => q)).trans ld7
    have lf8 : w6.cell? ⟨w.heap.size + 1, 8, none⟩ = some (.slice lad lcuts.length lcap) := (F6.cell (World.block_lt_of_cell? _ _ ld8) (fun q => q)).trans ld8
    have HO6 := Lib.hid (HO5.out.fr F6 (fun _ _ q => q))
    have HRS6 := Lib.hid (HRS5.out.fr0 F6)
    have HS6 := Lib.hid (HS5.out.fr0 F6)
    clear F6 ld0 ld1 ld2 ld3 ld4 ld5 ld6 ld7 ld8
    go_wp2_with (refine wpList_copy elem_call Cl.cells_len cl_one rfl (.tmp 44) (.tmp 46) rfl w.heap.size _ L.length (cls L) (some ⟨w6.heap.size, 0, none⟩) 1 [⟨lop, 0, lb, lsize, ln, lsign, lchar, ltext, lcuts, lad, lcap⟩] (by rfl) (by rfl) (HO6.out.fr (fr_one w6 _) (fun _ _ q => q)) (Reads.of_block Cl.cells_len (heap_alloc_new w6 _) rfl) (fun q => by cases q) (by simp only [List.length_cons, List.length_nil]; omega) (by have := HF6.out.size; rw [World.size_alloc]; omega) ?_)
    intro v7 w7 hown7 hfr7 hat7
    obtain ⟨L2, hL2⟩ : ∃ L2, L2 = L ++ [⟨lop, 0, lb, lsize, ln, lsign, lchar, ltext, lcuts, lad, lcap⟩] := ⟨_, rfl⟩
    have hlen2 : L2.length = L.length + 1 := by rw [hL2]; simp
    have hown7' : OwnC w7 w.heap.size v7 L2 := by
      unfold OwnC
      rw [hlen2, hL2, cls_append]
      exact hown7
    have HF7 := Lib.hid ((HF6.out.alloc _).trans' hfr7 (fun x hx q => by have := HGE.out x q; omega))
    have HRS7 := Lib.hid ((HRS6.out.fr0 (fr_one w6 _)).fr hfr7 (fun r o q k => by
      injection q with q
      injection q with q1 q2
      have := HGE.out r k
      omega))
    have HS7 := Lib.hid ((HS6.out.fr0 (fr_one w6 _)).fr hfr7 (fun r o q k => by
      have h1 := HM4.out r o q
      have h2 := HLT3.out r k
      omega))
    have HL2 := Lib.hid hL2
    have HO7 := Lib.hid hown7'
    have HG7 := Lib.hid ((HG.out.fr0 (Nat.le_refl _) HF7.out).up HF7.out.size)
    obtain ⟨A7, q7, rfl⟩ := hown7'.value
    have hz26 : w2.heap.size < w6.heap.size := by
      obtain ⟨r, o, e, hc⟩ := HRS6.out.at' 0 _ rfl
      have := World.block_lt_of_cell? _ _ (hc 0 _ rfl)
      injection e with e
      injection e with e1 e2
      subst e1
      exact this
    have HGE7 := Lib.hid (show ∀ x, (Value.slice A7 L2.length q7).ownBlock = some x → w2.heap.size + 1 ≤ x from fun x hx => by
      rcases hat7 with k | k
      · rw [k] at hx
        exact HGE.out x hx
      · rw [k] at hx
        injection hx with hx
        omega)
    have HSEP := Lib.hid (show ∀ x, (Value.slice A7 L2.length q7).ownBlock = some x → x < w3.heap.size ∨ w6.heap.size ≤ x from fun x hx => by
      rcases hat7 with k | k
      · rw [k] at hx
        exact .inl (HLT3.out x hx)
      · rw [k] at hx
        injection hx with hx
        exact .inr (by omega))
    have HB4 := Lib.hid (show ∀ r o, B4 = some ⟨r, o, none⟩ → r < w6.heap.size from fun r o q => by
      obtain ⟨r', o', e, hc⟩ := HS6.out.at' 0 _ rfl
      have h3 := World.block_lt_of_cell? _ _ (hc 0 _ rfl)
      rw [q] at e
      injection e with e
      injection e with e1 e2
      subst e1
      exact h3)
    have HLT7 := Lib.hid (show ∀ x, (Value.slice A7 L2.length q7).ownBlock = some x → x < w7.heap.size from fun x hx => hown7'.blk_lt hx)
    clear hz26
    clear hL2 hown7 hown7' hfr7 hat7
    have hws7 := HWS.out
    obtain ⟨P1, b, b2, t, hbt, hrt, hb2t, hle, hrest⟩ := unread_play (c := ⟨lop, 0, lb, lsize, ln, lsign, lchar, ltext, lcuts, lad, lcap⟩) (HPLAY.out.fr HF7.out) rfl (of_decide_eq_true HBR.out.symm) (ClOk.fr ⟨HL.out.size, HL.out.cuts, HL.out.few, HL.out.text⟩ HF7.out) (by have := HOK.out.sz; simp only; omega) (by omega)
    rw [← HL2.out] at P1 hrt hb2t hrest
    have hfin : fin = b.text := by have := HTX.out; rw [this] at hbt; injection hbt
    subst hfin
    have hrd7 : Reads Cl.cells 9 w7 A7 L2 := Own.readsAt Cl.cells_len (by decide) (by have k := HO7.out; unfold OwnC at k; exact k)
    have HRUN2 := Lib.hid (run1_any ⟨text, way, space⟩ L2 (some ⟨w2.heap.size, 0, none⟩) A7 1 q7 ea eu w7 HRS7.out ⟨by simp only; omega, hsp⟩ hrd7 P1 HG7.out)
    have HRT := Lib.hid hrt
    have HB2 := Lib.hid hb2t
    have HREST := Lib.hid (show ∀ w', Fr (fun _ => False) w w' → t.said = 0 → b2.text.length ≠ b.text.length → Play1 w' ⟨text, way, space⟩ (L2 ++ [bsC, rsC]) ∧ (runF (yd1 (b0 ⟨text, way, space⟩)) (L2 ++ [bsC, rsC])).1 = (runF (yd1 (b0 ⟨text, way, space⟩)) L2).1 ++ [Td.zero, ⟨0, [], ((b.text.getD (b.text.length - b2.text.length - 1) 0).toNat : Int), 0⟩] ∧ (runF (yd1 (b0 ⟨text, way, space⟩)) (L2 ++ [bsC, rsC])).2.texts = [b2.text] from fun w' F h1 h2 => by
      obtain ⟨p, q1, q2⟩ := hrest h1 h2
      refine ⟨⟨p.mild, p.first, fun x hx => ?_, p.sz, p.few⟩, q1, q2⟩
      rw [HL2.out] at hx
      rcases List.mem_append.1 hx with hx | hx
      · rcases List.mem_append.1 hx with hx | hx
        · exact (HPLAY.out.fr F).ok x hx
        · rw [List.mem_singleton] at hx
          subst hx
          exact ClOk.fr ⟨HL.out.size, HL.out.cuts, HL.out.few, HL.out.text⟩ F
      · simp only [List.mem_cons, List.not_mem_nil, or_false] at hx
        rcases hx with rfl | rfl
        · exact bsC_ok w'
        · exact rsC_ok w')
    have HL2s := Lib.hid hlen2
    have HFL := Lib.hid (show ∀ f : List UInt8, f = b.text → f.length ≤ 1099511627776 from fun f q => by
      rw [q]
      exact (HPLAY.out.fr HF7.out).text_len hbt)
    clear P1 hbt hrt hb2t hrest hrd7 hws7 hlen2
    go_wp2_with fail
    refine HRUN2.out.mono ?_
    rintro e w8 ⟨A8, c8, B8, d8, D8, n8, k8, fin2, rfl, ht8, hl8, hr8, hs8, F8, hc8, hn8, hm8⟩
    have hfin2 : fin2 = b2.text := by have q := HB2.out; rw [ht8] at q; injection q
    obtain ⟨fin, hfin⟩ : ∃ fin, fin = b.text := ⟨_, rfl⟩
    rw [← hfin2, ← hfin] at hle
    have hS8 := HS7.out.fr0 F8
    rw [← hfin] at hS8
    have hT8 := hr8
    rw [HRT.out] at hT8
    have hlL : (runF (yd1 (b0 ⟨text, way, space⟩)) L).1.length = L.length := by
      have q := hl8
      rw [HRT.out, List.length_append, HL2s.out] at q
      simpa using q
    obtain ⟨r, o, e1, hca⟩ := hT8.at' L.length t (by rw [← hlL, List.getElem?_append_right (Nat.le_refl _), Nat.sub_self]; rfl)
    have hcs := hca 3 _ rfl
    obtain ⟨g, p, e2, hcb⟩ := hS8.at' 0 fin rfl
    have hb4 := hcb 0 _ rfl
    obtain ⟨g2, p2, e3, hcc⟩ := hs8.at' 0 fin2 rfl
    have hb8 := hcc 0 _ rfl
    simp only [strV, Nat.add_zero, Nat.zero_mul] at hb4 hb8
    obtain ⟨n, hn⟩ : ∃ n, n = fin.length - fin2.length := ⟨_, rfl⟩
    have hl2s := HL2s.out
    have hsz := HOK.out.sz
    have hflen : fin.length ≤ 1099511627776 := HFL.out _ hfin
    have hsub : IntKind.i64.wrap ((fin.length : Int) - (fin2.length : Int)) = (n : Int) := by rw [IntWalk.i64_in _ (by omega)]; omega
    have hidx : IntKind.i64.wrap ((L2.length : Int) - 1) = (L.length : Int) := by rw [IntWalk.i64_in _ (by omega)]; omega
    have hi0 : (0 : Int) ≤ (L.length : Int) := by omega
    have hi1 : (L.length : Int) < (L2.length : Int) := by omega
    have HF8 := Lib.hid (HF7.out.trans F8)
    have HO8 := Lib.hid (HO7.out.fr F8 (fun _ _ q => q))
    have HRS8 := Lib.hid (HRS7.out.fr0 F8)
    have HT8 := Lib.hid hr8
    have HS8 := Lib.hid hs8
    have HN8 := Lib.hid (And.intro hn8 hm8)
    have HN := Lib.hid hn
    have HSB := Lib.hid hle
    have HFIN := Lib.hid hfin
    have HFIN2 := Lib.hid hfin2
    have HLL := Lib.hid hl8
    have HW8 := Lib.hid hS8
    subst e1 e2 e3
    clear HRUN2 ht8 hl8 hr8 hs8 F8 hc8 hn8 hm8 hca hcb hcc hT8 hS8 hlL hn hl2s hle hfin hfin2
    by_cases hsd : t.said = 0
    · rw [hsd] at hcs
      by_cases hn0 : n = 0
      · have hni : (n : Int) = 0 := by omega
        go_wp2_with fail
        go_quiet (fail)
        obtain ⟨wd, hwd⟩ : ∃ wd, wd = w8.drewN nq := ⟨_, rfl⟩
        rw [← hwd]
        have FD : Fr (fun _ => False) w8 wd := by rw [hwd]; exact (Fr.refl _ w8).drewN nq
        clear hwd
        have hcsd := keep1 FD hcs
        have hb4d := keep1 FD hb4
        clear hcs hb4 hb8
        go_wp2_with fail
        go_ret
        exact ⟨rfl, HF8.out.trans FD⟩
      have hni : ¬ ((n : Int) = 0) := by omega
      go_wp2_with fail
      go_quiet (fail)
      obtain ⟨wd, hwd⟩ : ∃ wd, wd = w8.drewN nq := ⟨_, rfl⟩
      rw [← hwd]
      have FD : Fr (fun _ => False) w8 wd := by rw [hwd]; exact (Fr.refl _ w8).drewN nq
      clear hwd
      have hcsd := keep1 FD hcs
      have hb4d := keep1 FD hb4
      clear hcs hb4 hb8
      have HFd := Lib.hid (HF8.out.trans FD)
      have HOd := Lib.hid (HO8.out.fr FD (fun _ _ q => q))
      have HRSd := Lib.hid (HRS8.out.fr0 FD)
      have HSd := Lib.hid (HS8.out.fr0 FD)
      have HWd := Lib.hid (HW8.out.fr0 FD)
      have hzd := FD.size
      clear FD HO8 HRS8 HS8 HW8 hsub
      go_wp2_with (refine wpList_copy elem_call Cl.cells_len cl_one rfl (.tmp 93) (.tmp 96) rfl w.heap.size _ L2.length (cls L2) (some ⟨wd.heap.size, 0, none⟩) 2 [bsC, rsC] (by rfl) (by rfl) (HOd.out.fr (fr_one wd _) (fun _ _ q => q)) (Reads.of_block Cl.cells_len (heap_alloc_new wd _) rfl) (fun q => by cases q) (by have := HL2s.out; simp only [List.length_cons, List.length_nil]; omega) (by have := HFd.out.size; rw [World.size_alloc]; omega) ?_)
      intro v9 w9 hown9 hfr9 hat9
      obtain ⟨L3, hL3⟩ : ∃ L3, L3 = L2 ++ [bsC, rsC] := ⟨_, rfl⟩
      have hlen3 : L3.length = L2.length + 2 := by rw [hL3]; simp
      have hown9' : OwnC w9 w.heap.size v9 L3 := by
        unfold OwnC
        rw [hlen3, hL3, cls_append]
        exact hown9
      have HF9 := Lib.hid ((HFd.out.alloc _).trans' hfr9 (fun x hx q => by have := HOd.out.blk_ge q; omega))
      have HRS9 := Lib.hid ((HRSd.out.fr0 (fr_one wd _)).fr hfr9 (fun r o q k => by
        injection q with q
        injection q with q1 q2
        have := HGE7.out r k
        omega))
      have HS9 := Lib.hid ((HSd.out.fr0 (fr_one wd _)).fr hfr9 (fun r o q k => by
        have h1 := HN8.out.2 r o q
        have h2 := HLT7.out r k
        omega))
      have HW9 := Lib.hid ((HWd.out.fr0 (fr_one wd _)).fr hfr9 (fun r o q k => by
        have h1 := HM4.out r o q
        have h2 := HSEP.out r k
        have h3 := HB4.out r o q
        omega))
      have HG9 := Lib.hid ((HG.out.fr0 (Nat.le_refl _) HF9.out).up HF9.out.size)
      obtain ⟨A9, q9, rfl⟩ := hown9'.value
      have hL2s := HL2s.out
      obtain ⟨P2, hr2, ht2⟩ := HREST.out w9 HF9.out hsd (by rw [← HFIN.out, ← HFIN2.out]; have := HN.out; omega)
      rw [← hL3] at P2 hr2 ht2
      have hrd9 : Reads Cl.cells 9 w9 A9 L3 := Own.readsAt Cl.cells_len (by decide) (by have k := hown9'; unfold OwnC at k; exact k)
      have HRUN3 := Lib.hid (run1_any ⟨text, way, space⟩ L3 (some ⟨w2.heap.size, 0, none⟩) A9 1 q9 ea eu w9 HRS9.out ⟨by simp only; omega, hsp⟩ hrd9 P2 HG9.out)
      have HR2 := Lib.hid hr2
      have HT2 := Lib.hid ht2
      have HL3s := Lib.hid hlen3
      have hw9s := HW9.out.at' 0 fin rfl
      obtain ⟨g', p', e4, hcd⟩ := hw9s
      injection e4 with e4
      injection e4 with e4 e5
      subst e4 e5
      have hb9 := hcd 0 _ rfl
      simp only [strV, Nat.add_zero, Nat.zero_mul] at hb9
      clear hL3 hlen3 hown9 hown9' hfr9 hat9 P2 hrd9 hr2 ht2 hL2s hcsd hb4d hcd hidx hi0 hi1
      go_wp2_with fail
      refine HRUN3.out.mono ?_
      rintro e w10 ⟨A10, c10, B10, d10, D10, n10, k10, fin3, rfl, ht10, hl10, hr10, hs10, F10, hc10, hn10, hm10⟩
      rw [HR2.out] at hl10 hr10
      rw [HT2.out] at ht10
      have hfin3 : fin3 = fin2 := by rw [HFIN2.out]; injection ht10 with q _; exact q.symm
      subst hfin3
      obtain ⟨ts, hts⟩ : ∃ ts, ts = (runF (yd1 (b0 ⟨text, way, space⟩)) L2).1 := ⟨_, rfl⟩
      have hln := HLL.out
      rw [← hts] at hr10 hln
      obtain ⟨r3, o3, e1, hca⟩ := hr10.at' ts.length _ (by rw [List.getElem?_append_right (Nat.le_refl _), Nat.sub_self]; rfl)
      obtain ⟨r', o', e2, hcb⟩ := hr10.at' (ts.length + 1) _ (by rw [List.getElem?_append_right (by omega), Nat.add_sub_cancel_left]; rfl)
      rw [e1] at e2
      injection e2 with e2
      injection e2 with e2 e3
      subst e2 e3
      obtain ⟨m1, hm1⟩ : ∃ m1, m1 = L2.length + 1 := ⟨_, rfl⟩
      obtain ⟨n1, hn1⟩ : ∃ n1, n1 = n - 1 := ⟨_, rfl⟩
      have h0 : w10.cell? ⟨r3, o3 + L2.length * 4 + 3, none⟩ = some (.int .i64 0) := by rw [← hln]; exact hca 3 _ rfl
      have hq : ∀ j v, (Td.cells ⟨0, [], ((b.text.getD (b.text.length - b2.text.length - 1) 0).toNat : Int), 0⟩)[j]? = some v → w10.cell? ⟨r3, o3 + m1 * 4 + j, none⟩ = some v := by rw [hm1, ← hln]; exact hcb
      have hidx2 : b.text.length - b2.text.length - 1 = n1 := by rw [← HFIN.out, ← HFIN2.out, hn1, HN.out]
      rw [hidx2, ← HFIN.out] at hq
      obtain ⟨x, hx⟩ : ∃ x, x = fin.getD n1 0 := ⟨_, rfl⟩
      rw [← hx] at hq
      have k0 := hq 0 _ rfl
      have k1 := hq 1 _ rfl
      have k2 := hq 2 _ rfl
      have k3 := hq 3 _ rfl
      simp only [Nat.add_zero] at k0
      have hb10 := keep1 F10 hb9
      have hnl : n ≤ fin.length := by have := HN.out; omega
      have HE2 := Lib.hid (show ∀ n, Calls Tryz.prog 24 #[.slice B10 1 d10, .slice (some ⟨g2, p2, none⟩) 1 d8] (w10.drewN n) fun e w' => e = .returned (.bool true) ∧ ∃ m, w' = (w10.drewN n).drewN m from fun n => equal_strs_q [fin3] B10 (some ⟨g2, p2, none⟩) d10 d8 _ (hs10.fr0 ((Fr.refl _ w10).drewN n)) ((HS9.out.fr0 F10).fr0 ((Fr.refl _ w10).drewN n)) (by simp))
      have hw2 : IntKind.i64.wrap ((L2.length : Int) + 2) = (L3.length : Int) := by have := HL2s.out; have := HL3s.out; rw [IntWalk.i64_in _ (by omega)]; omega
      have hw1 : IntKind.i64.wrap ((L2.length : Int) + 1) = (m1 : Int) := by have := HL2s.out; rw [IntWalk.i64_in _ (by omega)]; omega
      have hwn : IntKind.i64.wrap ((n : Int) - 1) = (n1 : Int) := by rw [IntWalk.i64_in _ (by omega)]; omega
      have hb0 : (0 : Int) ≤ (L2.length : Int) := by omega
      have hb1 : (L2.length : Int) < (L3.length : Int) := by have := HL3s.out; omega
      have hb2 : (0 : Int) ≤ (m1 : Int) := by omega
      have hb3 : (m1 : Int) < (L3.length : Int) := by have := HL3s.out; omega
      have hgt : 0 < n := by omega
      have hgt2 : ¬ n = 0 := by omega
      have hd1 : decide ((0 : Int) < (n : Int)) = true := by simpa using hgt
      have hd2 : decide (0 < n) = true := by simpa using hgt
      have hi0 : (0 : Int) ≤ (n1 : Int) := by omega
      have hi1 : (n1 : Int) < (fin.length : Int) := by omega
      have hxb : ∀ h : n1 < (ByteArray.mk fin.toArray).size, (ByteArray.mk fin.toArray)[n1]'h = x := by
        intro h
        have hl : n1 < fin.length := by omega
        rw [hx]
        show fin.toArray[n1]'(by simpa using hl) = _
        simp [List.getElem?_eq_getElem hl]
      have hwx : IntKind.i32.wrap (x.toNat : Int) = (x.toNat : Int) := by have := x.toNat_lt; simp [IntKind.wrap, IntKind.bits, IntKind.signed]; omega
      have HF10 := Lib.hid (HF9.out.trans F10)
      have HX := Lib.hid hx
      subst e1
      clear HRUN3 ht10 hl10 hr10 hs10 F10 hc10 hn10 hm10 hts hln hca hcb hm1 hq hidx2 hx hn1 hb9
      go_wp2_with fail
      go_quiet ((go_at_call 24; exact Calls.quiet_of (HE2.out _)))
      go_wp2_with fail
      go_ret
      exact ⟨rfl, HF10.out.drewN _⟩
    · go_wp2_with fail
      go_quiet (fail)
      obtain ⟨wd, hwd⟩ : ∃ wd, wd = w8.drewN nq := ⟨_, rfl⟩
      rw [← hwd]
      have FD : Fr (fun _ => False) w8 wd := by rw [hwd]; exact (Fr.refl _ w8).drewN nq
      clear hwd
      have hcsd := keep1 FD hcs
      have hb4d := keep1 FD hb4
      clear hcs hb4 hb8
      go_wp2_with fail
      go_ret
      exact ⟨rfl, HF8.out.trans FD⟩
theorem unreadReads_any (s : St) (cs : List Cl) (A : Option Addr) (c : Nat) (l : Cl) (ea eu : Addr) (w : World) (hC : Reads Cl.cells 9 w A cs) (hok : CallsOk w cs) (hl : ClOk w l) (hs : s.text.length ≤ 1048576) (hsp : s.space ≤ 65535) (hlt : l.text.length ≤ 1048576) (hG : Gl w.heap.size ea eu w) :
    Calls Tryz.prog 6 #[.agg s.cells.toArray, .slice A cs.length c, l.val] w (LawPost w) := by
  obtain ⟨text, way, space⟩ := s
  obtain ⟨lop, la, lb, lsize, ln, lsign, lchar, ltext, lcuts, lad, lcap⟩ := l
  exact unreadReads_walk text way space cs A c lop la lb lsize ln lsign lchar ltext lcuts lad lcap ea eu w hC hok hl hs hsp hlt hG
end Go.Proofs.YtbodbajgpgaoeaaGreatDoor
