/- impl.read: Peek, and what cannot be taken back. -/
import Derived.Test.YtimigjjokdnfbaaDoorCallR
namespace Go.Proofs.YtimigjjokdnfbaaDoor
open Go Go.RowKit

section
variable (a bb : Int) (size : Nat) (n : Int) (sign : UInt8) (char : Int) (text : List UInt8) (cuts : List Nat) (ad : Option Addr) (cap : Nat)
set_option maxHeartbeats 1600000 in
set_option maxRecDepth 100000 in
theorem read_14 (b : Nat) (g : Gh) (w : World) (h : BufAt w b g) (m : Nat) (hm : g.off + m = g.len) (hle : size ≤ m) (hsize : size ≤ 65535) :
    Calls Tryd.prog 17 #[.pointer (some ⟨b, 0, none⟩), .agg #[.int .i64 14, .int .i64 a, .int .i64 bb, .int .u16 (size : Int), .int .i64 n, .int .u8 (sign.toNat : Int), .int .i32 char, .string ⟨text.toArray⟩, .slice ad cuts.length cap]] w (WDPost w b g ⟨0, g.txt.take size, 0, 0⟩ (fun g' => g' = g)) := by
  have H := Lib.hid h
  have HB := Lib.hid (h.fr (((Fr.refl (fun _ => False) w).alloc _).alloc _) (fun _ _ q => q) : BufAt ((w.alloc (.cells #[.int .i64 14, .int .i64 a, .int .i64 bb, .int .u16 (size : Int), .int .i64 n, .int .u8 (sign.toNat : Int), .int .i32 char, .string ⟨text.toArray⟩, .slice ad cuts.length cap] 26)).alloc (.cells #[.int .i64 0, .string ⟨#[]⟩, .int .i32 0, .int .i64 0] 35)) b g)
  clear h
  have hcv : IntKind.i64.wrap (size : Int) = (size : Int) := IntWalk.i64_in _ (by omega)
  go_enter Tryd.func17, Tryd.ntmps17
  go_wp2_with fail
  refine (buf_peek _ b g size m HB.out hm hle).mono ?_
  rintro e w1 ⟨rfl, A1, F1⟩
  have S1 : BufStep ((w.alloc (.cells #[.int .i64 14, .int .i64 a, .int .i64 bb, .int .u16 (size : Int), .int .i64 n, .int .u8 (sign.toNat : Int), .int .i32 char, .string ⟨text.toArray⟩, .slice ad cuts.length cap] 26)).alloc (.cells #[.int .i64 0, .string ⟨#[]⟩, .int .i32 0, .int .i64 0] 35)) b g w1 g := BufStep.of_none HB.out F1
  have hT : ToldAt w1 (w.heap.size + 1) := S1.told HB.out (ToldAt.new2 w _)
  have t0 := hT.c0; have t1 := hT.c1; have t2 := hT.c2; have t3 := hT.c3; have z0 := hT.f 0; have z1 := hT.f 1; have z2 := hT.f 2; have z3 := hT.f 3
  have HT := Lib.hid hT
  clear hT
  have HS := Lib.hid S1
  have HSRC := Lib.hid (Src.first A1 size (g.all.length - g.off) (by omega))
  clear S1 F1 A1
  have hcs : ∀ w', Src w' (.slice (cutA g.row g.off g.all.length) size (g.all.length - g.off)) (g.txt.take size) → (convert 52 9 (.slice (cutA g.row g.off g.all.length) size (g.all.length - g.off))).run Tryd.prog w' = .ok (.string ⟨(g.txt.take size).toArray⟩) w' := fun w' h => conv_str h
  go_wp2_with fail
  go_region_held3 (fun w' => Src w' (.slice (cutA g.row g.off g.all.length) size (g.all.length - g.off)) (g.txt.take size)) (first | exact HSRC.out.of_heap rfl | exact HSRC.out.told HT.out rfl _ _ _ _) ((go_at_call 25; refine (said_nil _).mono ?_; rintro e w2 ⟨rfl, rfl⟩))
  all_goals
    go_wp2_with fail
    refine bodyPost_ret (v := Td.val ⟨0, g.txt.take size, 0, 0⟩) (by simp [results, Tryd.results17, go_sem, t0, t1, t2, t3, Td.val, Td.cells]) rfl ?_
    exact ⟨_, rfl, HS.out.skip (((Fr.refl (fun _ => False) w).alloc _).alloc _) (by omega) HT.out (by first | exact just4 _ _ _ _ _ _ | exact (((Fr.refl (Just _) _).drew).trans (just4 _ _ _ _ _ _))), rfl⟩
set_option maxHeartbeats 1600000 in
set_option maxRecDepth 100000 in
theorem read_12n (b : Nat) (g : Gh) (w : World) (h : BufAt w b g) (ea : Addr) (ca : Array Value) (ta : TypeId) (he : w.cell? ⟨0, 0, none⟩ = some (errV ea)) (hba : w.heap[ea.block]? = some (.cells ca ta (0, 0))) (eu : Addr) (cu : Array Value) (tu : TypeId) (hu : w.cell? ⟨1, 0, none⟩ = some (errV eu)) (hbu : w.heap[eu.block]? = some (.cells cu tu (0, 0))) (hne : eu ≠ ea) (hlr : g.lr = 0) :
    Calls Tryd.prog 17 #[.pointer (some ⟨b, 0, none⟩), .agg #[.int .i64 12, .int .i64 a, .int .i64 bb, .int .u16 (size : Int), .int .i64 n, .int .u8 (sign.toNat : Int), .int .i32 char, .string ⟨text.toArray⟩, .slice ad cuts.length cap]] w (WDPost w b g ⟨0, [], 0, 2⟩ (fun g' => g' = g)) := by
  have H := Lib.hid h
  have HB := Lib.hid (h.fr (((Fr.refl (fun _ => False) w).alloc _).alloc _) (fun _ _ q => q) : BufAt ((w.alloc (.cells #[.int .i64 12, .int .i64 a, .int .i64 bb, .int .u16 (size : Int), .int .i64 n, .int .u8 (sign.toNat : Int), .int .i32 char, .string ⟨text.toArray⟩, .slice ad cuts.length cap] 26)).alloc (.cells #[.int .i64 0, .string ⟨#[]⟩, .int .i32 0, .int .i64 0] 35)) b g)
  clear h
  have he0 : ((w.alloc (.cells #[.int .i64 12, .int .i64 a, .int .i64 bb, .int .u16 (size : Int), .int .i64 n, .int .u8 (sign.toNat : Int), .int .i32 char, .string ⟨text.toArray⟩, .slice ad cuts.length cap] 26)).alloc (.cells #[.int .i64 0, .string ⟨#[]⟩, .int .i32 0, .int .i64 0] 35)).cell? ⟨0, 0, none⟩ = some (errV ea) := (((((Fr.refl (fun _ => False) w).alloc _).alloc _) : Fr _ w ((w.alloc (.cells #[.int .i64 12, .int .i64 a, .int .i64 bb, .int .u16 (size : Int), .int .i64 n, .int .u8 (sign.toNat : Int), .int .i32 char, .string ⟨text.toArray⟩, .slice ad cuts.length cap] 26)).alloc (.cells #[.int .i64 0, .string ⟨#[]⟩, .int .i32 0, .int .i64 0] 35))).cell (World.block_lt_of_cell? _ _ he) (fun q => q)).trans he
  have hba0 := ((((Fr.refl (fun _ => False) w).alloc _).alloc _) : Fr _ w ((w.alloc (.cells #[.int .i64 12, .int .i64 a, .int .i64 bb, .int .u16 (size : Int), .int .i64 n, .int .u8 (sign.toNat : Int), .int .i32 char, .string ⟨text.toArray⟩, .slice ad cuts.length cap] 26)).alloc (.cells #[.int .i64 0, .string ⟨#[]⟩, .int .i32 0, .int .i64 0] 35))).blk hba (fun q => q)
  have HE0 := Lib.hid he0
  have HA0 := Lib.hid hba0
  have hal : ea.block < w.heap.size := lt_of_blk hba
  clear he he0 hba hba0
  have hu0 : ((w.alloc (.cells #[.int .i64 12, .int .i64 a, .int .i64 bb, .int .u16 (size : Int), .int .i64 n, .int .u8 (sign.toNat : Int), .int .i32 char, .string ⟨text.toArray⟩, .slice ad cuts.length cap] 26)).alloc (.cells #[.int .i64 0, .string ⟨#[]⟩, .int .i32 0, .int .i64 0] 35)).cell? ⟨1, 0, none⟩ = some (errV eu) := (((((Fr.refl (fun _ => False) w).alloc _).alloc _) : Fr _ w ((w.alloc (.cells #[.int .i64 12, .int .i64 a, .int .i64 bb, .int .u16 (size : Int), .int .i64 n, .int .u8 (sign.toNat : Int), .int .i32 char, .string ⟨text.toArray⟩, .slice ad cuts.length cap] 26)).alloc (.cells #[.int .i64 0, .string ⟨#[]⟩, .int .i32 0, .int .i64 0] 35))).cell (World.block_lt_of_cell? _ _ hu) (fun q => q)).trans hu
  have hbu0 := ((((Fr.refl (fun _ => False) w).alloc _).alloc _) : Fr _ w ((w.alloc (.cells #[.int .i64 12, .int .i64 a, .int .i64 bb, .int .u16 (size : Int), .int .i64 n, .int .u8 (sign.toNat : Int), .int .i32 char, .string ⟨text.toArray⟩, .slice ad cuts.length cap] 26)).alloc (.cells #[.int .i64 0, .string ⟨#[]⟩, .int .i32 0, .int .i64 0] 35))).blk hbu (fun q => q)
  have HU0 := Lib.hid hu0
  have HBU := Lib.hid hbu0
  clear hu hu0 hbu hbu0
  go_enter Tryd.func17, Tryd.ntmps17
  go_wp2_with fail
  refine (buf_unreadByte_no _ b g eu HB.out hlr HU0.out).mono ?_
  rintro e w1 ⟨rfl, hw⟩
  have hT : ToldAt w1 (w.heap.size + 1) := by rw [hw]; exact ToldAt.new2 w _
  have HS := Lib.hid (show BufStep ((w.alloc (.cells #[.int .i64 12, .int .i64 a, .int .i64 bb, .int .u16 (size : Int), .int .i64 n, .int .u8 (sign.toNat : Int), .int .i32 char, .string ⟨text.toArray⟩, .slice ad cuts.length cap] 26)).alloc (.cells #[.int .i64 0, .string ⟨#[]⟩, .int .i32 0, .int .i64 0] 35)) b g w1 g by rw [hw]; exact BufStep.refl HB.out)
  have HE1 := Lib.hid (show w1.cell? ⟨0, 0, none⟩ = some (errV ea) by rw [hw]; exact HE0.out)
  have HA1 := Lib.hid (show w1.heap[ea.block]? = some (.cells ca ta (0, 0)) by rw [hw]; exact HA0.out)
  have HU1 := Lib.hid (show w1.heap[eu.block]? = some (.cells cu tu (0, 0)) by rw [hw]; exact HBU.out)
  clear hw
  have t0 := hT.c0; have t1 := hT.c1; have t2 := hT.c2; have t3 := hT.c3; have z0 := hT.f 0; have z1 := hT.f 1; have z2 := hT.f 2; have z3 := hT.f 3
  have HT := Lib.hid hT
  clear hT
  go_wp2_with fail
  refine (said_other _ eu ea cu ca tu ta HE1.out hne HU1.out HA1.out).mono ?_
  rintro e w2 ⟨rfl, rfl⟩
  go_wp2_with fail
  refine bodyPost_ret (v := Td.val ⟨0, [], 0, 2⟩) (by simp [results, Tryd.results17, go_sem, t0, t1, t2, t3, Td.val, Td.cells]) rfl ?_
  exact ⟨_, rfl, HS.out.skip (((Fr.refl (fun _ => False) w).alloc _).alloc _) (by omega) HT.out (just4 _ _ _ _ _ _), rfl⟩
set_option maxHeartbeats 1600000 in
set_option maxRecDepth 100000 in
theorem read_13n (b : Nat) (g : Gh) (w : World) (h : BufAt w b g) (ea : Addr) (ca : Array Value) (ta : TypeId) (he : w.cell? ⟨0, 0, none⟩ = some (errV ea)) (hba : w.heap[ea.block]? = some (.cells ca ta (0, 0))) (hlr : g.lr ≤ 0) :
    Calls Tryd.prog 17 #[.pointer (some ⟨b, 0, none⟩), .agg #[.int .i64 13, .int .i64 a, .int .i64 bb, .int .u16 (size : Int), .int .i64 n, .int .u8 (sign.toNat : Int), .int .i32 char, .string ⟨text.toArray⟩, .slice ad cuts.length cap]] w (WDPost w b g ⟨0, [], 0, 2⟩ (fun g' => g' = g)) := by
  have H := Lib.hid h
  have HB := Lib.hid (h.fr (((Fr.refl (fun _ => False) w).alloc _).alloc _) (fun _ _ q => q) : BufAt ((w.alloc (.cells #[.int .i64 13, .int .i64 a, .int .i64 bb, .int .u16 (size : Int), .int .i64 n, .int .u8 (sign.toNat : Int), .int .i32 char, .string ⟨text.toArray⟩, .slice ad cuts.length cap] 26)).alloc (.cells #[.int .i64 0, .string ⟨#[]⟩, .int .i32 0, .int .i64 0] 35)) b g)
  clear h
  have he0 : ((w.alloc (.cells #[.int .i64 13, .int .i64 a, .int .i64 bb, .int .u16 (size : Int), .int .i64 n, .int .u8 (sign.toNat : Int), .int .i32 char, .string ⟨text.toArray⟩, .slice ad cuts.length cap] 26)).alloc (.cells #[.int .i64 0, .string ⟨#[]⟩, .int .i32 0, .int .i64 0] 35)).cell? ⟨0, 0, none⟩ = some (errV ea) := (((((Fr.refl (fun _ => False) w).alloc _).alloc _) : Fr _ w ((w.alloc (.cells #[.int .i64 13, .int .i64 a, .int .i64 bb, .int .u16 (size : Int), .int .i64 n, .int .u8 (sign.toNat : Int), .int .i32 char, .string ⟨text.toArray⟩, .slice ad cuts.length cap] 26)).alloc (.cells #[.int .i64 0, .string ⟨#[]⟩, .int .i32 0, .int .i64 0] 35))).cell (World.block_lt_of_cell? _ _ he) (fun q => q)).trans he
  have hba0 := ((((Fr.refl (fun _ => False) w).alloc _).alloc _) : Fr _ w ((w.alloc (.cells #[.int .i64 13, .int .i64 a, .int .i64 bb, .int .u16 (size : Int), .int .i64 n, .int .u8 (sign.toNat : Int), .int .i32 char, .string ⟨text.toArray⟩, .slice ad cuts.length cap] 26)).alloc (.cells #[.int .i64 0, .string ⟨#[]⟩, .int .i32 0, .int .i64 0] 35))).blk hba (fun q => q)
  have HE0 := Lib.hid he0
  have HA0 := Lib.hid hba0
  have hal : ea.block < w.heap.size := lt_of_blk hba
  clear he he0 hba hba0
  go_enter Tryd.func17, Tryd.ntmps17
  go_wp2_with fail
  refine (buf_unreadRune_no _ b g HB.out hlr).mono ?_
  rintro e w1 ⟨s, rfl, hw⟩
  have hF1 : Fr (fun _ => False) ((w.alloc (.cells #[.int .i64 13, .int .i64 a, .int .i64 bb, .int .u16 (size : Int), .int .i64 n, .int .u8 (sign.toNat : Int), .int .i32 char, .string ⟨text.toArray⟩, .slice ad cuts.length cap] 26)).alloc (.cells #[.int .i64 0, .string ⟨#[]⟩, .int .i32 0, .int .i64 0] 35)) w1 := by rw [hw]; exact (Fr.refl _ _).alloc _
  have hT : ToldAt w1 (w.heap.size + 1) := (ToldAt.new2 w _).fr hF1 (fun q => q)
  have HS := Lib.hid (BufStep.of_none HB.out hF1)
  have HE1 := Lib.hid ((hF1.cell (World.block_lt_of_cell? _ _ HE0.out) (fun q => q)).trans HE0.out)
  have HA1 := Lib.hid (hF1.blk HA0.out (fun q => q))
  have hsz : ((w.alloc (.cells #[.int .i64 13, .int .i64 a, .int .i64 bb, .int .u16 (size : Int), .int .i64 n, .int .u8 (sign.toNat : Int), .int .i32 char, .string ⟨text.toArray⟩, .slice ad cuts.length cap] 26)).alloc (.cells #[.int .i64 0, .string ⟨#[]⟩, .int .i32 0, .int .i64 0] 35)).heap.size = w.heap.size + 1 + 1 := by simp
  rw [hsz]
  have HN1 := Lib.hid (show w1.heap[w.heap.size + 1 + 1]? = some (.cells #[.string s] 121 (0, 0)) by rw [hw, ← hsz]; exact heap_alloc_new _ _)
  clear hF1 hw hsz
  have t0 := hT.c0; have t1 := hT.c1; have t2 := hT.c2; have t3 := hT.c3; have z0 := hT.f 0; have z1 := hT.f 1; have z2 := hT.f 2; have z3 := hT.f 3
  have HT := Lib.hid hT
  clear hT
  go_wp2_with fail
  refine (said_other _ ⟨w.heap.size + 1 + 1, 0, none⟩ ea _ ca _ ta HE1.out (fun q => by have := congrArg Addr.block q; simp only at this; omega) HN1.out HA1.out).mono ?_
  rintro e w2 ⟨rfl, rfl⟩
  go_wp2_with fail
  refine bodyPost_ret (v := Td.val ⟨0, [], 0, 2⟩) (by simp [results, Tryd.results17, go_sem, t0, t1, t2, t3, Td.val, Td.cells]) rfl ?_
  exact ⟨_, rfl, HS.out.skip (((Fr.refl (fun _ => False) w).alloc _).alloc _) (by omega) HT.out (just4 _ _ _ _ _ _), rfl⟩
end
end Go.Proofs.YtimigjjokdnfbaaDoor
