/- Give, DoY, Opened. -/
import Derived.Test.YtbodbajgpgaoeaaGreatDoorQ10
import Derived.Test.YtbodbajgpgaoeaaGreatDoorQ04
import Derived.Deep.RegionLaw
import Derived.Test.YtbodbajgpgaoeaaGreatDoorQ06
import Derived.Test.YtbodbajgpgaoeaaGreatDoorQ03
namespace Go.Proofs.YtbodbajgpgaoeaaGreatDoor
open Go Go.RowKit

/-- The yard behind a call of two buffers. -/
def GPost (w : World) (base yb : Nat) (bs : List (Nat × Gh)) (ds : List (Nat × BG)) (i b j b2 : Nat) (t : Td) (R : Gh → Gh → Prop) (e : Ending) (w' : World) : Prop :=
  ∃ g' g2', e = .returned t.val ∧ YardStep w base yb w' ((bs.set i (b, g')).set j (b2, g2')) ds ∧ R g' g2'
theorem Typed.fr' {S : Nat → Prop} {w w' : World} {x : Nat} {T : TypeId} (h : Typed w x T) (hf : Fr S w w') (hn : ¬ S x) : Typed w' x T := by
  obtain ⟨cs, fz, k⟩ := h
  exact ⟨cs, fz, hf.blk k hn⟩
theorem YardStep.late {w0 w w' : World} {base yb : Nat} {bs : List (Nat × Gh)} {ds : List (Nat × BG)} (S : YardStep w base yb w' bs ds) (h0 : Fr (fun _ => False) w0 w) : YardStep w0 base yb w' bs ds := ⟨S.at', Fr.yd' h0 S.fr⟩
theorem YardStep.kept {w0 w w' : World} {base yb : Nat} {bs : List (Nat × Gh)} {ds : List (Nat × BG)} (S : YardStep w base yb w' bs ds) (h0 : Fr (fun _ => False) w0 w) (x o : Nat) (T : TypeId) (hT : Typed w0 x T) (h1 : T ≠ 96) (h2 : T ≠ 90) (h3 : T ≠ 5) (v : Value) (hv : w0.cell? ⟨x, o, none⟩ = some v) : w'.cell? ⟨x, o, none⟩ = some v := by
  have e := (h0.cell (World.block_lt_of_cell? _ _ hv) (fun q => q)).trans hv
  exact (S.fr.cell (World.block_lt_of_cell? _ _ e) (fun q => q.not_typed (hT.fr' h0 (fun q => q)) h1 h2 h3)).trans e
theorem writeTo_any (w : World) (b : Nat) (g : Gh) (b2 : Nat) (g2 : Gh) (h : BufAt w b g) (h2 : BufAt w b2 g2) (hap : Apart b g b2 g2) (hsz : g2.txt.length + g.txt.length ≤ 1099511627776) :
    Calls Tryz.prog 86 #[.pointer (some ⟨b, 0, none⟩), .iface 72 (.pointer (some ⟨b2, 0, none⟩))] w (WriteToPost w b g b2 g2) := by
  by_cases ht : g.txt = []
  · exact writeTo_buf_empty w b g b2 g2 h h2 hap ht
  · exact writeTo_buf_some w b g b2 g2 h h2 hap ht hsz
section
variable (size : Nat) (n : Int) (sign : UInt8) (char : Int) (text : List UInt8) (cuts : List Nat) (ad : Option Addr) (cap : Nat)

set_option maxHeartbeats 1600000 in
set_option maxRecDepth 100000 in
theorem flow_23 (w : World) (base yb i b j b2 : Nat) (g g2 : Gh) (bs : List (Nat × Gh)) (ds : List (Nat × BG)) (hY : YardAt w base yb bs ds) (hi : bs[i]? = some (b, g)) (hj : bs[j]? = some (b2, g2)) (hij : i ≠ j) (hsz : g2.txt.length + g.txt.length ≤ 1099511627776) :
    Calls Tryz.prog 51 #[.pointer (some ⟨yb, 0, none⟩), .pointer (some ⟨b, 0, none⟩), .agg #[.int .i64 23, .int .i64 (i : Int), .int .i64 (j : Int), .int .u16 (size : Int), .int .i64 n, .int .u8 (sign.toNat : Int), .int .i32 char, .string ⟨text.toArray⟩, .slice ad cuts.length cap]] w (GPost w base yb bs ds i b j b2 ⟨g.txt.length, [], 0, 0⟩ (fun g' g2' => g'.txt = [] ∧ (g.txt = [] → g2' = g2) ∧ (g.txt ≠ [] → Wrote g2 g.txt g2'))) := by
  obtain ⟨A, cp, A', cp', lab, hC⟩ := hY
  obtain ⟨rb, rfl, hrt, hrc⟩ := hC.bp j _ hj
  have hil : i < bs.length := (List.getElem?_eq_some_iff.1 hi).1
  have hjl : j < bs.length := (List.getElem?_eq_some_iff.1 hj).1
  have hap := hC.apart hi hj hij
  simp only at hap
  have y0 : w.cell? ⟨yb, 0, none⟩ = some (.slice (some ⟨rb, 0, none⟩) bs.length cp) := by rw [cell_of_row w yb 0 _ _ _ hC.st]; rfl
  have hj0 : (0 : Int) ≤ (j : Int) := by omega
  have hj1 : (j : Int) < (bs.length : Int) := by omega
  have hijb : ((i : Int) == (j : Int)) = false := by simp; omega
  simp only at hrc
  have hY : YardAt w base yb bs ds := ⟨_, _, _, _, _, hC⟩
  obtain ⟨w0, hw0⟩ : ∃ w0, w0 = ((w.alloc (.cells #[.int .i64 23, .int .i64 (i : Int), .int .i64 (j : Int), .int .u16 (size : Int), .int .i64 n, .int .u8 (sign.toNat : Int), .int .i32 char, .string ⟨text.toArray⟩, .slice ad cuts.length cap] 36)).alloc (.cells #[.int .i64 0, .string ⟨#[]⟩, .int .i32 0, .int .i64 0] 39)) := ⟨_, rfl⟩
  have hF0 : Fr (fun _ => False) w w0 := by rw [hw0]; exact (((Fr.refl (fun _ => False) w).alloc _).alloc _)
  have e0 : w0.cell? ⟨w.heap.size, 0, none⟩ = some (.int .i64 23) := by rw [hw0]; simp
  have e1 : w0.cell? ⟨w.heap.size, 1, none⟩ = some (.int .i64 (i : Int)) := by rw [hw0]; simp
  have e2 : w0.cell? ⟨w.heap.size, 2, none⟩ = some (.int .i64 (j : Int)) := by rw [hw0]; simp
  have e3 : w0.cell? ⟨w.heap.size, 3, none⟩ = some (.int .u16 (size : Int)) := by rw [hw0]; simp
  have e4 : w0.cell? ⟨w.heap.size, 4, none⟩ = some (.int .i64 n) := by rw [hw0]; simp
  have e5 : w0.cell? ⟨w.heap.size, 5, none⟩ = some (.int .u8 (sign.toNat : Int)) := by rw [hw0]; simp
  have e6 : w0.cell? ⟨w.heap.size, 6, none⟩ = some (.int .i32 char) := by rw [hw0]; simp
  have e7 : w0.cell? ⟨w.heap.size, 7, none⟩ = some (.string ⟨text.toArray⟩) := by rw [hw0]; simp
  have e8 : w0.cell? ⟨w.heap.size, 8, none⟩ = some (.slice ad cuts.length cap) := by rw [hw0]; simp
  have y1 : w0.cell? ⟨yb, 0, none⟩ = some (.slice (some ⟨rb, 0, none⟩) bs.length cp) := (hF0.cell (World.block_lt_of_cell? _ _ y0) (fun q => q)).trans y0
  have r1 : w0.cell? ⟨rb, j, none⟩ = some (.pointer (some ⟨b2, 0, none⟩)) := (hF0.cell (World.block_lt_of_cell? _ _ hrc) (fun q => q)).trans hrc
  have HTY := Lib.hid (show Typed w0 yb 71 from ⟨_, _, hF0.blk hC.st (fun q => q)⟩)
  have HTR := Lib.hid (show Typed w0 rb 72 from Typed.fr' hrt hF0 (fun q => q))
  have HTC := Lib.hid (show Typed w0 w.heap.size 36 by rw [hw0]; exact ⟨_, _, ((Fr.refl (fun _ => False) _).alloc _).blk (heap_alloc_new w _) (fun q => q)⟩)
  have HT0 := Lib.hid (show ToldAt w0 (w.heap.size + 1) by rw [hw0]; exact ToldAt.new2 w _)
  have HY := Lib.hid (hY.fr0 hF0)
  have HF0 := Lib.hid hF0
  have HI := Lib.hid hi
  have HJ := Lib.hid hj
  have HAP := Lib.hid hap
  have HW0 := Lib.hid hw0
  clear hC hi hj hrt hY hF0 y0 hrc hw0 hap
  go_enter Tryz.func51, Tryz.ntmps51
  go_wp2_with fail
  rw [← HW0.out]
  go_quiet ((go_at_call 47; exact Calls.quiet_of_same (among_yes j bs.length hjl _)))
  go_wp2_with fail
  go_region_held3 (fun w' => w'.cell? ⟨yb, 0, none⟩ = some (.slice (some ⟨rb, 0, none⟩) bs.length cp) ∧ w'.cell? ⟨rb, j, none⟩ = some (.pointer (some ⟨b2, 0, none⟩)) ∧ w'.cell? ⟨w.heap.size, 2, none⟩ = some (.int .i64 (j : Int))) (go_keep) ((go_at_call 86; refine (writeTo_any _ b g b2 g2 ((HY.out.fr0 ((Fr.refl (fun _ => False) w0).drewN _)).bufAt HI.out) ((HY.out.fr0 ((Fr.refl (fun _ => False) w0).drewN _)).bufAt HJ.out) HAP.out hsz).mono ?_; rintro e w1 ⟨g2', rfl, B1, B2, hrow, hE, hS, F1⟩; have S2 := (HY.out.fr0 ((Fr.refl (fun _ => False) w0).drewN _)).two HJ.out HI.out (Ne.symm hij) B2 B1 hrow rfl (F1.mono (fun x _ q => q.elim (fun q => .inr (.inl q)) .inl)); rw [List.set_comm _ _ (Ne.symm hij)] at S2; have hR : g.rs.txt = [] ∧ (g.txt = [] → g2' = g2) ∧ (g.txt ≠ [] → Wrote g2 g.txt g2') := ⟨g.rs_txt, hE, hS⟩; clear B1 B2 hrow hE hS F1; have hK := YardStep.kept S2 ((Fr.refl (fun _ => False) w0).drewN _); have p0 := hK yb 0 71 HTY.out (by decide) (by decide) (by decide) _ y1; have p1 := hK rb j 72 HTR.out (by decide) (by decide) (by decide) _ r1; have p2 := hK w.heap.size 2 36 HTC.out (by decide) (by decide) (by decide) _ e2; have hT : ToldAt w1 (w.heap.size + 1) := S2.told (HT0.out.fr ((Fr.refl (fun _ => False) w0).drewN _) (fun q => q)); have HS := Lib.hid (YardStep.late S2 ((Fr.refl (fun _ => False) w0).drewN _)); have HR := Lib.hid hR; clear S2 hK hR))
  have t0 := hT.c0; have t1 := hT.c1; have t2 := hT.c2; have t3 := hT.c3; have z0 := hT.f 0; have z1 := hT.f 1; have z2 := hT.f 2; have z3 := hT.f 3
  have HT := Lib.hid hT
  clear hT
  go_wp2_with fail
  refine (said_nil _).mono ?_
  rintro e w2 ⟨rfl, rfl⟩
  go_wp2_with fail
  refine bodyPost_ret (v := Td.val ⟨g.txt.length, [], 0, 0⟩) (by simp [results, Tryz.results51, go_sem, t0, t1, t2, t3, Td.val, Td.cells]) rfl ?_
  exact ⟨_, _, rfl, HS.out.skip HF0.out (by omega) HT.out (just4 _ _ _ _ _ _), HR.out⟩
set_option maxHeartbeats 1600000 in
set_option maxRecDepth 100000 in
theorem flow_24 (w : World) (base yb i b j b2 : Nat) (g g2 : Gh) (bs : List (Nat × Gh)) (ds : List (Nat × BG)) (hY : YardAt w base yb bs ds) (hi : bs[i]? = some (b, g)) (hj : bs[j]? = some (b2, g2)) (hij : i ≠ j) (ea : Addr) (he : w.cell? ⟨0, 0, none⟩ = some (errV ea)) (hsz : g.txt.length + g2.txt.length + 512 ≤ 1099511627776) :
    Calls Tryz.prog 51 #[.pointer (some ⟨yb, 0, none⟩), .pointer (some ⟨b, 0, none⟩), .agg #[.int .i64 24, .int .i64 (i : Int), .int .i64 (j : Int), .int .u16 (size : Int), .int .i64 n, .int .u8 (sign.toNat : Int), .int .i32 char, .string ⟨text.toArray⟩, .slice ad cuts.length cap]] w (GPost w base yb bs ds i b j b2 ⟨g2.txt.length, [], 0, 0⟩ (fun g' g2' => g'.txt = g.txt ++ g2.txt ∧ g2'.txt = [])) := by
  obtain ⟨A, cp, A', cp', lab, hC⟩ := hY
  obtain ⟨rb, rfl, hrt, hrc⟩ := hC.bp j _ hj
  have hil : i < bs.length := (List.getElem?_eq_some_iff.1 hi).1
  have hjl : j < bs.length := (List.getElem?_eq_some_iff.1 hj).1
  have hap := hC.apart hi hj hij
  simp only at hap
  have y0 : w.cell? ⟨yb, 0, none⟩ = some (.slice (some ⟨rb, 0, none⟩) bs.length cp) := by rw [cell_of_row w yb 0 _ _ _ hC.st]; rfl
  have hj0 : (0 : Int) ≤ (j : Int) := by omega
  have hj1 : (j : Int) < (bs.length : Int) := by omega
  have hijb : ((i : Int) == (j : Int)) = false := by simp; omega
  simp only at hrc
  have hY : YardAt w base yb bs ds := ⟨_, _, _, _, _, hC⟩
  obtain ⟨w0, hw0⟩ : ∃ w0, w0 = ((w.alloc (.cells #[.int .i64 24, .int .i64 (i : Int), .int .i64 (j : Int), .int .u16 (size : Int), .int .i64 n, .int .u8 (sign.toNat : Int), .int .i32 char, .string ⟨text.toArray⟩, .slice ad cuts.length cap] 36)).alloc (.cells #[.int .i64 0, .string ⟨#[]⟩, .int .i32 0, .int .i64 0] 39)) := ⟨_, rfl⟩
  have hF0 : Fr (fun _ => False) w w0 := by rw [hw0]; exact (((Fr.refl (fun _ => False) w).alloc _).alloc _)
  have e0 : w0.cell? ⟨w.heap.size, 0, none⟩ = some (.int .i64 24) := by rw [hw0]; simp
  have e1 : w0.cell? ⟨w.heap.size, 1, none⟩ = some (.int .i64 (i : Int)) := by rw [hw0]; simp
  have e2 : w0.cell? ⟨w.heap.size, 2, none⟩ = some (.int .i64 (j : Int)) := by rw [hw0]; simp
  have e3 : w0.cell? ⟨w.heap.size, 3, none⟩ = some (.int .u16 (size : Int)) := by rw [hw0]; simp
  have e4 : w0.cell? ⟨w.heap.size, 4, none⟩ = some (.int .i64 n) := by rw [hw0]; simp
  have e5 : w0.cell? ⟨w.heap.size, 5, none⟩ = some (.int .u8 (sign.toNat : Int)) := by rw [hw0]; simp
  have e6 : w0.cell? ⟨w.heap.size, 6, none⟩ = some (.int .i32 char) := by rw [hw0]; simp
  have e7 : w0.cell? ⟨w.heap.size, 7, none⟩ = some (.string ⟨text.toArray⟩) := by rw [hw0]; simp
  have e8 : w0.cell? ⟨w.heap.size, 8, none⟩ = some (.slice ad cuts.length cap) := by rw [hw0]; simp
  have y1 : w0.cell? ⟨yb, 0, none⟩ = some (.slice (some ⟨rb, 0, none⟩) bs.length cp) := (hF0.cell (World.block_lt_of_cell? _ _ y0) (fun q => q)).trans y0
  have r1 : w0.cell? ⟨rb, j, none⟩ = some (.pointer (some ⟨b2, 0, none⟩)) := (hF0.cell (World.block_lt_of_cell? _ _ hrc) (fun q => q)).trans hrc
  have HTY := Lib.hid (show Typed w0 yb 71 from ⟨_, _, hF0.blk hC.st (fun q => q)⟩)
  have HTR := Lib.hid (show Typed w0 rb 72 from Typed.fr' hrt hF0 (fun q => q))
  have HTC := Lib.hid (show Typed w0 w.heap.size 36 by rw [hw0]; exact ⟨_, _, ((Fr.refl (fun _ => False) _).alloc _).blk (heap_alloc_new w _) (fun q => q)⟩)
  have HT0 := Lib.hid (show ToldAt w0 (w.heap.size + 1) by rw [hw0]; exact ToldAt.new2 w _)
  have HY := Lib.hid (hY.fr0 hF0)
  have HF0 := Lib.hid hF0
  have HI := Lib.hid hi
  have HJ := Lib.hid hj
  have HAP := Lib.hid hap
  have HW0 := Lib.hid hw0
  clear hC hi hj hrt hY hF0 y0 hrc hw0 hap
  have HE := Lib.hid ((HF0.out.cell (World.block_lt_of_cell? _ _ he) (fun q => q)).trans he)
  clear he
  go_enter Tryz.func51, Tryz.ntmps51
  go_wp2_with fail
  rw [← HW0.out]
  go_quiet ((go_at_call 47; exact Calls.quiet_of_same (among_yes j bs.length hjl _)))
  go_wp2_with fail
  go_region_held3 (fun w' => w'.cell? ⟨yb, 0, none⟩ = some (.slice (some ⟨rb, 0, none⟩) bs.length cp) ∧ w'.cell? ⟨rb, j, none⟩ = some (.pointer (some ⟨b2, 0, none⟩)) ∧ w'.cell? ⟨w.heap.size, 2, none⟩ = some (.int .i64 (j : Int))) (go_keep) ((go_at_call 87; refine (readFrom_buf _ b g b2 g2 ea ((HY.out.fr0 ((Fr.refl (fun _ => False) w0).drewN _)).bufAt HI.out) ((HY.out.fr0 ((Fr.refl (fun _ => False) w0).drewN _)).bufAt HJ.out) HAP.out (((((Fr.refl (fun _ => False) w0).drewN _)).cell (World.block_lt_of_cell? _ _ HE.out) (fun q => q)).trans HE.out) hsz).mono ?_; rintro e w1 ⟨g', g2', rfl, B1, B2, hrow, hrow2, hE, hS, F1⟩; have S2 := (HY.out.fr0 ((Fr.refl (fun _ => False) w0).drewN _)).two HI.out HJ.out hij B1 B2 hrow hrow2 F1; have hR : g'.txt = g.txt ++ g2.txt ∧ g2'.txt = [] := ⟨hE, hS⟩; clear B1 B2 hrow hrow2 hE hS F1; have hK := YardStep.kept S2 ((Fr.refl (fun _ => False) w0).drewN _); have p0 := hK yb 0 71 HTY.out (by decide) (by decide) (by decide) _ y1; have p1 := hK rb j 72 HTR.out (by decide) (by decide) (by decide) _ r1; have p2 := hK w.heap.size 2 36 HTC.out (by decide) (by decide) (by decide) _ e2; have hT : ToldAt w1 (w.heap.size + 1) := S2.told (HT0.out.fr ((Fr.refl (fun _ => False) w0).drewN _) (fun q => q)); have HS := Lib.hid (YardStep.late S2 ((Fr.refl (fun _ => False) w0).drewN _)); have HR := Lib.hid hR; clear S2 hK hR))
  have t0 := hT.c0; have t1 := hT.c1; have t2 := hT.c2; have t3 := hT.c3; have z0 := hT.f 0; have z1 := hT.f 1; have z2 := hT.f 2; have z3 := hT.f 3
  have HT := Lib.hid hT
  clear hT
  go_wp2_with fail
  refine (said_nil _).mono ?_
  rintro e w2 ⟨rfl, rfl⟩
  go_wp2_with fail
  refine bodyPost_ret (v := Td.val ⟨g2.txt.length, [], 0, 0⟩) (by simp [results, Tryz.results51, go_sem, t0, t1, t2, t3, Td.val, Td.cells]) rfl ?_
  exact ⟨_, _, rfl, HS.out.skip HF0.out (by omega) HT.out (just4 _ _ _ _ _ _), HR.out⟩
set_option maxHeartbeats 1600000 in
set_option maxRecDepth 100000 in
theorem call_g (op : Int) (hop : op = 23 ∨ op = 24) (w : World) (base yb i b j b2 : Nat) (g : Gh) (bs : List (Nat × Gh)) (ds : List (Nat × BG)) (tn : Int) (tt : List UInt8) (tc ts : Int) (R : Gh → Gh → Prop) (hY : YardAt w base yb bs ds) (hi : bs[i]? = some (b, g))
    (hc : ∀ w1, Fr (fun _ => False) w w1 → Calls Tryz.prog 51 #[.pointer (some ⟨yb, 0, none⟩), .pointer (some ⟨b, 0, none⟩), .agg #[.int .i64 op, .int .i64 (i : Int), .int .i64 (j : Int), .int .u16 (size : Int), .int .i64 n, .int .u8 (sign.toNat : Int), .int .i32 char, .string ⟨text.toArray⟩, .slice ad cuts.length cap]] w1 (GPost w1 base yb bs ds i b j b2 ⟨tn, tt, tc, ts⟩ R)) :
    Calls Tryz.prog 34 #[.pointer (some ⟨yb, 0, none⟩), .agg #[.int .i64 op, .int .i64 (i : Int), .int .i64 (j : Int), .int .u16 (size : Int), .int .i64 n, .int .u8 (sign.toNat : Int), .int .i32 char, .string ⟨text.toArray⟩, .slice ad cuts.length cap]] w (GPost w base yb bs ds i b j b2 ⟨tn, tt, tc, ts⟩ R) := by
  obtain ⟨A, cp, A', cp', lab, hC⟩ := hY
  obtain ⟨rb, rfl, hrt, hrc⟩ := hC.bp i _ hi
  have hil : i < bs.length := (List.getElem?_eq_some_iff.1 hi).1
  have y0 : w.cell? ⟨yb, 0, none⟩ = some (.slice (some ⟨rb, 0, none⟩) bs.length cp) := by rw [cell_of_row w yb 0 _ _ _ hC.st]; rfl
  have hi0 : (0 : Int) ≤ (i : Int) := by omega
  have hi1 : (i : Int) < (bs.length : Int) := by omega
  simp only at hrc
  have hY : YardAt w base yb bs ds := ⟨_, _, _, _, _, hC⟩
  obtain ⟨w0, hw0⟩ : ∃ w0, w0 = ((w.alloc (.cells #[.int .i64 op, .int .i64 (i : Int), .int .i64 (j : Int), .int .u16 (size : Int), .int .i64 n, .int .u8 (sign.toNat : Int), .int .i32 char, .string ⟨text.toArray⟩, .slice ad cuts.length cap] 36)).alloc (.cells #[.int .i64 0, .string ⟨#[]⟩, .int .i32 0, .int .i64 0] 39)) := ⟨_, rfl⟩
  have hF0 : Fr (fun _ => False) w w0 := by rw [hw0]; exact (((Fr.refl (fun _ => False) w).alloc _).alloc _)
  have e0 : w0.cell? ⟨w.heap.size, 0, none⟩ = some (.int .i64 op) := by rw [hw0]; simp
  have e1 : w0.cell? ⟨w.heap.size, 1, none⟩ = some (.int .i64 (i : Int)) := by rw [hw0]; simp
  have e2 : w0.cell? ⟨w.heap.size, 2, none⟩ = some (.int .i64 (j : Int)) := by rw [hw0]; simp
  have e3 : w0.cell? ⟨w.heap.size, 3, none⟩ = some (.int .u16 (size : Int)) := by rw [hw0]; simp
  have e4 : w0.cell? ⟨w.heap.size, 4, none⟩ = some (.int .i64 n) := by rw [hw0]; simp
  have e5 : w0.cell? ⟨w.heap.size, 5, none⟩ = some (.int .u8 (sign.toNat : Int)) := by rw [hw0]; simp
  have e6 : w0.cell? ⟨w.heap.size, 6, none⟩ = some (.int .i32 char) := by rw [hw0]; simp
  have e7 : w0.cell? ⟨w.heap.size, 7, none⟩ = some (.string ⟨text.toArray⟩) := by rw [hw0]; simp
  have e8 : w0.cell? ⟨w.heap.size, 8, none⟩ = some (.slice ad cuts.length cap) := by rw [hw0]; simp
  have y1 : w0.cell? ⟨yb, 0, none⟩ = some (.slice (some ⟨rb, 0, none⟩) bs.length cp) := (hF0.cell (World.block_lt_of_cell? _ _ y0) (fun q => q)).trans y0
  have r1 : w0.cell? ⟨rb, i, none⟩ = some (.pointer (some ⟨b, 0, none⟩)) := (hF0.cell (World.block_lt_of_cell? _ _ hrc) (fun q => q)).trans hrc
  have HT0 := Lib.hid (show ToldAt w0 (w.heap.size + 1) by rw [hw0]; exact ToldAt.new2 w _)
  have HY := Lib.hid (hY.fr0 hF0)
  have HF0 := Lib.hid hF0
  have HC := Lib.hid hc
  have HW0 := Lib.hid hw0
  clear hC hc hrt hY hF0 y0 hrc hw0
  rcases hop with rfl | rfl
  all_goals
    go_enter Tryz.func34, Tryz.ntmps34
    go_wp2_with fail
    rw [← HW0.out]
    go_quiet ((go_at_call 47; exact Calls.quiet_of_same (among_yes i bs.length hil _)))
    go_wp2_with fail
    go_quiet (fail)
    go_wp2_with fail
    refine (HC.out _ (HF0.out.drewN _)).mono ?_
    rintro e w1 ⟨g', g2', rfl, S2, hR⟩
    have hT : ToldAt w1 (w.heap.size + 1) := S2.told (HT0.out.fr ((Fr.refl (fun _ => False) w0).drewN _) (fun q => q))
    have t0 := hT.c0; have t1 := hT.c1; have t2 := hT.c2; have t3 := hT.c3; have z0 := hT.f 0; have z1 := hT.f 1; have z2 := hT.f 2; have z3 := hT.f 3
    have HT := Lib.hid hT
    have HS := Lib.hid S2
    have HR := Lib.hid hR
    clear hT S2 hR
    simp only [Td.val, Td.cells]
    go_wp2_with fail
    refine bodyPost_ret (v := Td.val ⟨tn, tt, tc, ts⟩) (by simp [results, Tryz.results34, go_sem, t0, t1, t2, t3, Td.val, Td.cells]) rfl ?_
    exact ⟨g', g2', rfl, HS.out.skip (HF0.out.drewN _) (by omega) HT.out (just4 _ _ _ _ _ _), HR.out⟩
end
end Go.Proofs.YtbodbajgpgaoeaaGreatDoor

namespace Go.Proofs.YtbodbajgpgaoeaaGreatDoor
open Go Go.RowKit

theorem sb_any (w : World) (base yb i b : Nat) (g : Gh) (bs : List (Nat × Gh)) (ds : List (Nat × BG)) (s : SB) (c : Cl) (ea eu : Addr)
    (hY : YardAt w base yb bs ds) (hi : bs[i]? = some (b, g)) (hrel : BRel g s) (ha : c.a = (i : Int)) (hok : ClOk w c) (hsz : g.txt.length + c.text.length + 66000 ≤ 1099511627776) (hG : Gl base ea eu w)
    (h1 : 1 ≤ c.op) (h22 : c.op ≤ 22) (hset : (s.do c).2.2 = true) (hns : (s.do c).2.1.said ≠ 3) :
    Calls Tryz.prog 34 #[.pointer (some ⟨yb, 0, none⟩), c.val] w (SBPost w base yb bs ds i b s c) := by
  have hop : c.op = 1 ∨ c.op = 2 ∨ c.op = 3 ∨ c.op = 4 ∨ c.op = 5 ∨ c.op = 6 ∨ c.op = 7 ∨ c.op = 8 ∨ c.op = 9 ∨ c.op = 10 ∨ c.op = 11 ∨ c.op = 12 ∨ c.op = 13 ∨ c.op = 14 ∨ c.op = 15 ∨ c.op = 16 ∨ c.op = 17 ∨ c.op = 18 ∨ c.op = 19 ∨ c.op = 20 ∨ c.op = 21 ∨ c.op = 22 := by omega
  rcases hop with hop | hop | hop | hop | hop | hop | hop | hop | hop | hop | hop | hop | hop | hop | hop | hop | hop | hop | hop | hop | hop | hop
  · exact do_1 w base yb i b g bs ds s c ea eu hY hi hrel ha hok hsz hG hop
  · exact do_2 w base yb i b g bs ds s c ea eu hY hi hrel ha hok hsz hG hop
  · exact do_3 w base yb i b g bs ds s c ea eu hY hi hrel ha hok hsz hG hop
  · refine do_4 w base yb i b g bs ds s c ea eu hY hi hrel ha hok hsz hG hop (fun hb => ?_)
    simp [SB.do, hop, enc, hb] at hset
  · exact do_5 w base yb i b g bs ds s c ea eu hY hi hrel ha hok hsz hG hop
  · by_cases ht : s.text = []
    · rcases Nat.eq_zero_or_pos c.size with hp | hp
      · exact do_6z w base yb i b g bs ds s c ea eu hY hi hrel ha hok hsz hG hop ht hp
      · exact do_6e w base yb i b g bs ds s c ea eu hY hi hrel ha hok hsz hG hop ht hp
    · exact do_6 w base yb i b g bs ds s c ea eu hY hi hrel ha hok hsz hG hop ht
  · exact do_7 w base yb i b g bs ds s c ea eu hY hi hrel ha hok hsz hG hop
  · cases ht : s.text with
    | nil => exact do_8e w base yb i b g bs ds s c ea eu hY hi hrel ha hok hsz hG hop ht
    | cons x l => exact do_8 w base yb i b g bs ds s c ea eu hY hi hrel ha hok hsz hG hop x l ht
  · cases hk : upTo c.sign s.text with
    | some k => exact do_9 w base yb i b g bs ds s c ea eu hY hi hrel ha hok hsz hG hop k hk
    | none =>
      by_cases ht : s.text = []
      · exact do_9e w base yb i b g bs ds s c ea eu hY hi hrel ha hok hsz hG hop hk ht
      · exact do_9n w base yb i b g bs ds s c ea eu hY hi hrel ha hok hsz hG hop hk ht
  · cases hk : upTo c.sign s.text with
    | some k => exact do_10 w base yb i b g bs ds s c ea eu hY hi hrel ha hok hsz hG hop k hk
    | none =>
      by_cases ht : s.text = []
      · exact do_10e w base yb i b g bs ds s c ea eu hY hi hrel ha hok hsz hG hop hk ht
      · exact do_10n w base yb i b g bs ds s c ea eu hY hi hrel ha hok hsz hG hop hk ht
  · by_cases ht : s.text = []
    · exact do_11e w base yb i b g bs ds s c ea eu hY hi hrel ha hok hsz hG hop ht
    · exact do_11 w base yb i b g bs ds s c ea eu hY hi hrel ha hok hsz hG hop ht
  · by_cases h12 : s.recent = 1 ∨ s.recent = 2
    · exact do_12 w base yb i b g bs ds s c ea eu hY hi hrel ha hok hsz hG hop h12
    · by_cases h34 : s.recent = 3 ∨ s.recent = 4
      · exact do_12n w base yb i b g bs ds s c ea eu hY hi hrel ha hok hsz hG hop h34
      · simp only [not_or] at h12 h34
        simp [SB.do, SB.back, hop, h12, h34] at hset
  · by_cases h2 : s.recent = 2
    · exact do_13 w base yb i b g bs ds s c ea eu hY hi hrel ha hok hsz hG hop h2
    · refine do_13n w base yb i b g bs ds s c ea eu hY hi hrel ha hok hsz hG hop h2 (fun q => ?_)
      simp [SB.do, SB.back, hop, q] at hset
  · refine do_14 w base yb i b g bs ds s c ea eu hY hi hrel ha hok hsz hG hop (Nat.le_of_not_lt fun q => ?_)
    simp [SB.do, SB.look, hop, q] at hset
  · by_cases hr : 0 ≤ c.n ∧ c.n ≤ s.text.length
    · obtain ⟨k, hk⟩ := Int.eq_ofNat_of_zero_le hr.1
      rcases Nat.eq_zero_or_pos k with h0 | h0
      · exact do_15z w base yb i b g bs ds s c ea eu hY hi hrel ha hok hsz hG hop (by rw [hk, h0]; rfl)
      · exact do_15 w base yb i b g bs ds s c ea eu hY hi hrel ha hok hsz hG hop k hk h0 (by omega)
    · exfalso
      simp [SB.do, hop, hr, Td.said'] at hns
  · exact do_16 w base yb i b g bs ds s c ea eu hY hi hrel ha hok hsz hG hop
  · have hn : ¬ c.n < 0 := fun q => by simp [SB.do, hop, q, Td.said'] at hns
    have hk : c.n ≤ 65536 := by simpa [SB.do, hop, hn] using hset
    obtain ⟨k, hk'⟩ := Int.eq_ofNat_of_zero_le (show 0 ≤ c.n by omega)
    exact do_17 w base yb i b g bs ds s c ea eu hY hi hrel ha hok hsz hG hop k hk' (by omega)
  · exact do_18 w base yb i b g bs ds s c ea eu hY hi hrel ha hok hsz hG hop
  · exact do_19 w base yb i b g bs ds s c ea eu hY hi hrel ha hok hsz hG hop
  · exact do_20 w base yb i b g bs ds s c ea eu hY hi hrel ha hok hsz hG hop
  · rcases Nat.lt_or_ge c.size s.text.length with h | h
    · exact do_21 w base yb i b g bs ds s c ea eu hY hi hrel ha hok hsz hG hop h
    · exact do_21n w base yb i b g bs ds s c ea eu hY hi hrel ha hok hsz hG hop h
  · rcases Nat.eq_zero_or_pos c.size with hz | hz
    · exact do_22z w base yb i b g bs ds s c ea eu hY hi hrel ha hok hsz hG hop hz
    · refine do_22 w base yb i b g bs ds s c ea eu hY hi hrel ha hok hsz hG hop (c.size - 1) (by omega) (Nat.le_of_not_lt fun q => ?_)
      simp [SB.do, SB.look, hop, q] at hset

/-- The calls that the laws play here. -/
def Cl.plays (c : Cl) : Prop := c.op < 23 ∨ (c.op = 23 ∨ c.op = 24) ∨ c.op = 26 ∨ (c.op = 27 ∧ c.n = 0) ∨ 28 ≤ c.op
/-- The buffer or builder that is called is there, and so is the other one of two. -/
def Cl.there (c : Cl) (y : Yd) : Prop := if 28 ≤ c.op then inR c.a y.blds.length else inR c.a y.bufs.length ∧ (c.op = 23 ∨ c.op = 24 → inR c.b y.bufs.length ∧ c.a ≠ c.b)
def CallPost (w : World) (base yb : Nat) (ds : List (Nat × BG)) (y : Yd) (c : Cl) (e : Ending) (w' : World) : Prop :=
  ∃ bs' ds', e = .returned (y.do c).2.1.val ∧ YardStep w base yb w' bs' ds' ∧ Rel bs' ds' (y.do c).1 ∧ (28 ≤ c.op → ∀ d g, ds[c.a.toNat]? = some (d, g) → ∃ g', ds'[c.a.toNat]? = some (d, g') ∧ BCap c g g')

theorem call_any (w : World) (base yb : Nat) (bs : List (Nat × Gh)) (ds : List (Nat × BG)) (y : Yd) (c : Cl) (ea eu : Addr)
    (hY : YardAt w base yb bs ds) (hrel : Rel bs ds y) (hok : ClOk w c) (hsz : y.tot + c.text.length + 66000 ≤ 1099511627776) (hG : Gl base ea eu w)
    (hpl : c.plays) (hth : c.there y) (hset : (y.do c).2.2 = true) (hns : (y.do c).2.1.said ≠ 3) :
    Calls Tryz.prog 34 #[.pointer (some ⟨yb, 0, none⟩), c.val] w (CallPost w base yb ds y c) := by
  by_cases h28 : 28 ≤ c.op
  · have hin : inR c.a y.blds.length := by unfold Cl.there at hth; rw [if_pos h28] at hth; exact hth
    obtain ⟨d, g, hi, htx⟩ := hrel.getBld hin
    have ha : c.a = (c.a.toNat : Int) := by have := hin.1; omega
    by_cases h36 : 36 ≤ c.op
    · have e : y.do c = (y, Td.said' 4, true) := by simp [Yd.do, h36]
      have hB := hY.bldAt hi
      have hw := call_p c.b c.size c.n c.sign c.char c.text c.cuts c.ad c.cap c.op h28 w base yb c.a.toNat d g bs ds _ _ _ _ (fun g' => g' = g) hY hi (fun w1 hf => put_36 _ c.b c.size c.n c.sign c.char c.text c.cuts c.ad c.cap c.op h36 d g w1 (hB.fr hf (fun _ _ q => q)))
      rw [← ha] at hw
      refine Calls.mono hw ?_
      rintro e' w' ⟨g', rfl, S, rfl⟩
      unfold CallPost
      rw [e]
      have hset : ds.set c.a.toNat (d, g') = ds := by
        obtain ⟨hl, e⟩ := List.getElem?_eq_some_iff.1 hi
        rw [← e]
        exact List.set_getElem_self hl
      rw [hset] at S
      refine ⟨bs, ds, rfl, S, hrel, fun _ d' g'' hd => ⟨g'', hd, ⟨fun h1 h2 => by omega, fun q => by omega⟩⟩⟩
    · have e : y.do c = (y.setBld c.a (putS (y.bld c.a) c).1, (putS (y.bld c.a) c).2.1, (putS (y.bld c.a) c).2.2) := by
        unfold Yd.do
        rw [if_neg (by omega), if_pos h28, if_pos hin]
      rw [e] at hset hns
      simp only [← htx] at hset hns
      have hle := Yd.bld_le hin
      refine (pb_any w base yb c.a.toNat d g bs ds c hY hi ha (by rw [htx]; omega) h28 (by omega) hset hns).mono ?_
      rintro e' w' ⟨g', rfl, S, hg, hcap⟩
      unfold CallPost
      rw [e, ← htx]
      refine ⟨bs, _, rfl, S, hrel.setBld c.a hg, fun _ d' g'' hd => ?_⟩
      rw [hi] at hd
      injection hd with hd
      injection hd with h1 h2
      subst h1 h2
      exact ⟨g', List.getElem?_set_self (List.getElem?_eq_some_iff.1 hi).1, hcap⟩
  · unfold Cl.there at hth
    rw [if_neg h28] at hth
    obtain ⟨hin, hth2⟩ := hth
    obtain ⟨b, g, hi, hr⟩ := hrel.getBuf hin
    have ha : c.a = (c.a.toNat : Int) := by have := hin.1; omega
    have hB := hY.bufAt hi
    have hle := Yd.buf_le hin
    have htl := hr.txt
    by_cases h1 : c.op < 1
    · have e : y.do c = (y, Td.said' 4, true) := by simp [Yd.do, h1]
      have hw := call_0 c.b c.size c.n c.sign c.char c.text c.cuts c.ad c.cap c.op h1 w base yb c.a.toNat b g bs ds _ _ _ _ (fun g' => g' = g) hY hi (fun w1 hf => look_0 _ c.b c.size c.n c.sign c.char c.text c.cuts c.ad c.cap c.op h1 b g w1 (hB.fr hf (fun _ _ q => q)))
      rw [← ha] at hw
      refine Calls.mono hw ?_
      rintro e' w' ⟨g', rfl, S, rfl⟩
      unfold CallPost
      rw [e]
      have hset : bs.set c.a.toNat (b, g') = bs := by
        obtain ⟨hl, e⟩ := List.getElem?_eq_some_iff.1 hi
        rw [← e]
        exact List.set_getElem_self hl
      rw [hset] at S
      exact ⟨bs, ds, rfl, S, hrel, fun q => absurd q h28⟩
    · by_cases h23 : c.op < 23
      · have e : y.do c = (y.setBuf c.a ((y.buf c.a).do c).1, ((y.buf c.a).do c).2.1, ((y.buf c.a).do c).2.2) := by
          unfold Yd.do
          rw [if_neg (by omega), if_neg h28, if_pos hin, if_neg (by omega)]
        rw [e] at hset hns
        refine (sb_any w base yb c.a.toNat b g bs ds (y.buf c.a) c ea eu hY hi hr ha hok (by rw [htl]; omega) hG (by omega) (by omega) hset hns).mono ?_
        rintro e' w' ⟨g', rfl, S, hg⟩
        unfold CallPost
        rw [e]
        exact ⟨_, ds, rfl, S, hrel.setBuf c.a hg, fun q => absurd q h28⟩
      · have e : y.do c = y.flow c := by
          unfold Yd.do
          rw [if_neg (by omega), if_neg h28, if_pos hin, if_pos (by omega)]
        rcases hpl with q | q | q | ⟨q, hn⟩ | q
        · omega
        · obtain ⟨hb, hne⟩ := hth2 q
          obtain ⟨b2, g2, hj, hr2⟩ := hrel.getBuf hb
          have hbn : c.b = (c.b.toNat : Int) := by have := hb.1; omega
          have hij : c.a.toNat ≠ c.b.toNat := by omega
          have htl2 := hr2.txt
          have h2s := Yd.two_le hin hb hne
          rcases q with q | q
          · have e2 : y.flow c = ((y.setBuf c.a ((y.buf c.a).other [])).setBuf c.b (if (y.buf c.a).text = [] then (y.buf c.b).other (y.buf c.b).text else (y.buf c.b).write (y.buf c.a).text), Td.ofN (y.buf c.a).text.length, true) := by simp [Yd.flow, q, hb, hne]
            have hw := call_g c.size c.n c.sign c.char c.text c.cuts c.ad c.cap 23 (by simp) w base yb c.a.toNat b c.b.toNat b2 g bs ds _ _ _ _ _ hY hi (fun w1 hf => flow_23 c.size c.n c.sign c.char c.text c.cuts c.ad c.cap w1 base yb c.a.toNat b c.b.toNat b2 g g2 bs ds (hY.fr0 hf) hi hj hij (by rw [htl, htl2]; omega))
            rw [← ha, ← hbn, ← q] at hw
            refine Calls.mono hw ?_
            rintro e' w' ⟨g', g2', rfl, S, k1, k2, k3⟩
            unfold CallPost
            rw [e, e2, ← htl]
            refine ⟨_, ds, rfl, S, (hrel.setBuf c.a (BRel.other k1)).setBuf c.b ?_, fun q => absurd q h28⟩
            split
            · rename_i h0
              rw [k2 h0]
              exact BRel.other htl2
            · rename_i h0
              exact BRel.write hr2 (k3 h0).txt (k3 h0).lr
          · have e2 : y.flow c = ((y.setBuf c.a ((y.buf c.a).other ((y.buf c.a).text ++ (y.buf c.b).text))).setBuf c.b ((y.buf c.b).other []), Td.ofN (y.buf c.b).text.length, true) := by simp [Yd.flow, q, hb, hne]
            have hw := call_g c.size c.n c.sign c.char c.text c.cuts c.ad c.cap 24 (by simp) w base yb c.a.toNat b c.b.toNat b2 g bs ds _ _ _ _ _ hY hi (fun w1 hf => flow_24 c.size c.n c.sign c.char c.text c.cuts c.ad c.cap w1 base yb c.a.toNat b c.b.toNat b2 g g2 bs ds (hY.fr0 hf) hi hj hij ea ((hG.fr0 hY.bw hf).eof) (by rw [htl, htl2]; omega))
            rw [← ha, ← hbn, ← q] at hw
            refine Calls.mono hw ?_
            rintro e' w' ⟨g', g2', rfl, S, k1, k2⟩
            unfold CallPost
            rw [e, e2, ← htl, ← htl2]
            exact ⟨_, ds, rfl, S, (hrel.setBuf c.a (BRel.other k1)).setBuf c.b (BRel.other k2), fun q => absurd q h28⟩
        · have hsm : ¬ (c.size < (y.buf c.a).text.length) := fun k => by rw [e] at hset; simp [Yd.flow, q, k] at hset
          have e2 : y.flow c = (y.setBuf c.a ((y.buf c.a).other []), ⟨(y.buf c.a).text.length, (y.buf c.a).text, 0, 0⟩, true) := by simp [Yd.flow, q, hsm]
          have hw := call_f c.b c.size c.n c.sign c.char c.text c.cuts c.ad c.cap 26 (by simp) w base yb c.a.toNat b g bs ds _ _ _ _ (fun g' => g' = g.rs) hY hi (fun w1 hf => flow_26 _ c.b c.size c.n c.sign c.char c.text c.cuts c.ad c.cap _ b g w1 (hB.fr hf (fun _ _ q => q)) hok.size (by rw [htl]; omega))
          rw [← ha, ← q] at hw
          refine Calls.mono hw ?_
          rintro e' w' ⟨g', rfl, S, rfl⟩
          unfold CallPost
          rw [e, e2, ← htl]
          exact ⟨_, ds, rfl, S, hrel.setBuf c.a (BRel.other g.rs_txt), fun q => absurd q h28⟩
        · have e2 : y.flow c = (y.setBuf c.a ((y.buf c.a).other ((y.buf c.a).text ++ c.text)), ⟨c.text.length, [], 0, 0⟩, true) := by simp [Yd.flow, q, hn]
          have hw := call_f c.b c.size c.n c.sign c.char c.text c.cuts c.ad c.cap 27 (by simp) w base yb c.a.toNat b g bs ds c.text.length [] 0 0 (fun g' => g'.txt = g.txt ++ c.text) hY hi (fun w1 hf => by rw [hn]; exact flow_27 _ c.b c.size c.sign c.char c.text c.cuts c.ad c.cap _ b g w1 (hB.fr hf (fun _ _ q => q)) ea ((hG.fr0 hY.bw hf).eof) (hok.cuts.fr hf (fun _ _ _ q => q)) (by rw [htl]; omega) hok.text hok.few)
          rw [← ha, ← q] at hw
          refine Calls.mono hw ?_
          rintro e' w' ⟨g', rfl, S, hg⟩
          unfold CallPost
          rw [e, e2]
          exact ⟨_, ds, rfl, S, hrel.setBuf c.a (BRel.other (by rw [hg, htl])), fun q => absurd q h28⟩
        · omega
end Go.Proofs.YtbodbajgpgaoeaaGreatDoor

namespace Go.Proofs.YtbodbajgpgaoeaaGreatDoor
open Go Go.RowKit

theorem begin_any' (s : St) (w : World) (hl : s.text.length ≤ 1099511627776) (hs : s.space ≤ 65535) :
    Calls Tryz.prog 46 #[startV s.text s.way s.space] w (BeginPost w s.text) := by
  obtain ⟨text, way, space⟩ := s
  by_cases h1 : way = 1
  · subst h1
    exact begin_slice text space w hl hs
  · by_cases h2 : way = 2
    · subst h2
      exact begin_write text space w hl
    · exact begin_string text way space w (by simpa using h1) (by simpa using h2) hl

theorem elem_bufp : ElemOk Tryz.prog 68 72 1 8 := by
  obtain ⟨i0, hi, hz0, hz1, hz2⟩ := info_parts (show (Tryz.prog.info? 72).map (fun i => (i.zero, i.size, i.bytes)) = some (some (.pointer none), 1, 8) by kernel_rfl)
  exact ⟨Tryz.underlying68, ⟨i0, _, hi, hz0, hz1, hz2, rfl⟩, by decide, by decide⟩
theorem elem_bldp : ElemOk Tryz.prog 69 74 1 8 := by
  obtain ⟨i0, hi, hz0, hz1, hz2⟩ := info_parts (show (Tryz.prog.info? 74).map (fun i => (i.zero, i.size, i.bytes)) = some (some (.pointer none), 1, 8) by kernel_rfl)
  exact ⟨Tryz.underlying69, ⟨i0, _, hi, hz0, hz1, hz2, rfl⟩, by decide, by decide⟩

def bptr (p : Nat × Gh) : Value := .pointer (some ⟨p.1, 0, none⟩)
def dptr (p : Nat × BG) : Value := .pointer (some ⟨p.1, 0, none⟩)
/-- A yard in the making. -/
structure YardO (w : World) (base yb : Nat) (v v' : Value) (lab : Nat → Nat) (bs : List (Nat × Gh)) (ds : List (Nat × BG)) : Prop where
  bb : base ≤ yb
  bw : base ≤ w.heap.size
  st : w.heap[yb]? = some (.cells #[v, v'] 71 (0, 0))
  ob : Own 72 1 w base v bs.length (bs.map bptr)
  od : Own 74 1 w base v' ds.length (ds.map dptr)
  ba : ∀ (i : Nat) (p : Nat × Gh), bs[i]? = some p → BufAt w p.1 p.2
  da : ∀ (i : Nat) (p : Nat × BG), ds[i]? = some p → BldAt w p.1 p.2
  bl : ∀ (i : Nat) (p : Nat × Gh) (x : Nat), bs[i]? = some p → p.2.foot p.1 x → base ≤ x ∧ lab x = 2 * i
  dl : ∀ (i : Nat) (p : Nat × BG) (x : Nat), ds[i]? = some p → p.2.foot p.1 x → base ≤ x ∧ lab x = 2 * i + 1

theorem Own.cellAt {E : TypeId} {w : World} {base : Nat} {v : Value} {n : Nat} {xs : List Value} (h : Own E 1 w base v n xs) {i : Nat} {x : Value} (hx : xs[i]? = some x) : ∃ r cap, v = .slice (some ⟨r, 0, none⟩) n cap ∧ Typed w r E ∧ w.cell? ⟨r, i, none⟩ = some x := by
  rcases h.2 with ⟨rfl, h0⟩ | ⟨g, cap, cur, rfl, h1, h2, h3, h4, h5, h6⟩
  · have := h.1
    have hl := (List.getElem?_eq_some_iff.1 hx).1
    omega
  · refine ⟨g, cap, rfl, ⟨_, _, h2⟩, ?_⟩
    have hl := (List.getElem?_eq_some_iff.1 hx).1
    have hxl := h.1
    rw [cell_of_row w g i _ _ _ h2]
    rw [← h6, List.getElem?_take_of_lt (by omega)] at hx
    simpa using hx
theorem YardO.yard {w : World} {base yb : Nat} {v v' : Value} {lab : Nat → Nat} {bs : List (Nat × Gh)} {ds : List (Nat × BG)} (h : YardO w base yb v v' lab bs ds) : YardAt w base yb bs ds := by
  obtain ⟨A, cap, hv⟩ := h.ob.value
  obtain ⟨A', cap', hv'⟩ := h.od.value
  have hob := h.ob
  have hod := h.od
  have hst := h.st
  rw [hv] at hob hst
  rw [hv'] at hod hst
  refine ⟨A, cap, A', cap', lab, h.bb, h.bw, hst, fun i p hp => ?_, fun i p hp => ?_, h.ba, h.da, h.bl, h.dl⟩
  · obtain ⟨r, c, e, h1, h2⟩ := hob.cellAt (i := i) (x := bptr p) (by simp [hp])
    injection e with e
    exact ⟨r, e, h1, h2⟩
  · obtain ⟨r, c, e, h1, h2⟩ := hod.cellAt (i := i) (x := dptr p) (by simp [hp])
    injection e with e
    exact ⟨r, e, h1, h2⟩
theorem BufAt.typed_fr {S : Nat → Prop} {w w' : World} {b : Nat} {g : Gh} (h : BufAt w b g) (hf : Fr S w w') (hS : ∀ x, S x → ¬ Typed w x 96 ∧ ¬ Typed w x 5) : BufAt w' b g :=
  h.fr hf fun x hx q => (h.foot_typed hx).elim (hS x q).1 (hS x q).2
theorem BldAt.typed_fr {S : Nat → Prop} {w w' : World} {b : Nat} {g : BG} (h : BldAt w b g) (hf : Fr S w w') (hS : ∀ x, S x → ¬ Typed w x 90 ∧ ¬ Typed w x 5) : BldAt w' b g :=
  h.fr hf fun x hx q => (h.foot_typed hx).elim (hS x q).1 (hS x q).2
theorem Own.typed {E : TypeId} {size : Nat} {w : World} {base : Nat} {v : Value} {n : Nat} {xs : List Value} (h : Own E size w base v n xs) {x : Nat} (hx : v.ownBlock = some x) : Typed w x E := by
  rcases h.2 with ⟨rfl, _⟩ | ⟨g, cap, cur, rfl, _, h2, _⟩
  · cases hx
  · injection hx with hx
    subst hx
    exact ⟨_, _, h2⟩
theorem Own.typed_fr {S : Nat → Prop} {E : TypeId} {size : Nat} {w w' : World} {base : Nat} {v : Value} {n : Nat} {xs : List Value} (h : Own E size w base v n xs) (hf : Fr S w w') (hS : ∀ x, S x → ¬ Typed w x E) : Own E size w' base v n xs :=
  h.fr hf fun _ hg q => hS _ q (h.typed hg)
theorem Typed.fr {S : Nat → Prop} {w w' : World} {x : Nat} {T : TypeId} (h : Typed w x T) (hf : Fr S w w') (hn : ¬ S x) : Typed w' x T := by
  obtain ⟨cs, fz, k⟩ := h
  exact ⟨cs, fz, hf.blk k hn⟩

section
variable {w w1 w2 : World} {base yb : Nat} {v v' v2 : Value} {lab : Nat → Nat} {bs : List (Nat × Gh)} {ds : List (Nat × BG)}
/-- A buffer more. -/
theorem YardO.addBuf {b : Nat} {g : Gh} (h : YardO w base yb v v' lab bs ds) (hf1 : Fr (fun _ => False) w w1) (hB : BufAt w1 b g) (hb : w.heap.size ≤ b) (hr : ∀ r, g.row = some r → w.heap.size ≤ r)
    (hf2 : Fr (fun x => v.ownBlock = some x) w1 w2) (hown : Own 72 1 w2 base v2 (bs.length + 1) (bs.map bptr ++ [bptr (b, g)])) :
    YardO (w2.setCell ⟨yb, 0, none⟩ v2) base yb v2 v' (labNew w lab (2 * bs.length)) (bs ++ [(b, g)]) ds := by
  have ob1 := h.ob.fr hf1 (fun _ _ q => q)
  have hS2 : ∀ {T : TypeId}, T ≠ 72 → ∀ x, v.ownBlock = some x → ¬ Typed w1 x T := fun hT x q => (ob1.typed q).ne (Ne.symm hT)
  have st1 := hf1.blk h.st (fun q => q)
  have st2 : w2.heap[yb]? = some (.cells #[v, v'] 71 (0, 0)) := hf2.blk st1 (fun q => hS2 (by decide) yb q ⟨_, _, st1⟩)
  have hf3 : Fr (Just yb) w2 (w2.setCell ⟨yb, 0, none⟩ v2) := (Fr.refl _ w2).setCell (fun _ => just_self yb) _
  have hS3 : ∀ {T : TypeId}, T ≠ 71 → ∀ x, Just yb x → ¬ Typed w2 x T := fun hT x q => by
    obtain rfl : x = yb := q
    exact Typed.ne ⟨_, _, st2⟩ (Ne.symm hT)
  refine ⟨h.bb, Nat.le_trans h.bw (Nat.le_trans hf1.size (Nat.le_trans hf2.size hf3.size)), ?_, ?_, ?_, fun i p hp => ?_, fun i p hp => ?_, fun i p x hp hx => ?_, fun i p x hp hx => ?_⟩
  · simp [World.setCell, Array.getElem?_modify, st2]
  · simp only [List.length_append, List.length_singleton, List.map_append, List.map_cons, List.map_nil]
    exact hown.typed_fr hf3 (hS3 (by decide))
  · exact ((h.od.fr hf1 (fun _ _ q => q)).typed_fr hf2 (hS2 (by decide))).typed_fr hf3 (hS3 (by decide))
  · rcases Nat.lt_or_ge i bs.length with hl | hl
    · rw [List.getElem?_append_left hl] at hp
      exact (((h.ba i p hp).fr hf1 (fun _ _ q => q)).typed_fr hf2 (fun x q => ⟨hS2 (by decide) x q, hS2 (by decide) x q⟩)).typed_fr hf3 (fun x q => ⟨hS3 (by decide) x q, hS3 (by decide) x q⟩)
    · rw [List.getElem?_append_right hl] at hp
      have h0 : i - bs.length = 0 := by have := (List.getElem?_eq_some_iff.1 hp).1; simp at this; omega
      rw [h0] at hp
      simp only [List.getElem?_cons_zero, Option.some.injEq] at hp
      subst hp
      exact (hB.typed_fr hf2 (fun x q => ⟨hS2 (by decide) x q, hS2 (by decide) x q⟩)).typed_fr hf3 (fun x q => ⟨hS3 (by decide) x q, hS3 (by decide) x q⟩)
  · exact (((h.da i p hp).fr hf1 (fun _ _ q => q)).typed_fr hf2 (fun x q => ⟨hS2 (by decide) x q, hS2 (by decide) x q⟩)).typed_fr hf3 (fun x q => ⟨hS3 (by decide) x q, hS3 (by decide) x q⟩)
  · rcases Nat.lt_or_ge i bs.length with hl | hl
    · rw [List.getElem?_append_left hl] at hp
      rw [labNew_old ((h.ba i p hp).foot_lt hx)]
      exact h.bl i p x hp hx
    · rw [List.getElem?_append_right hl] at hp
      have h0 : i - bs.length = 0 := by have := (List.getElem?_eq_some_iff.1 hp).1; simp at this; omega
      rw [h0] at hp
      simp only [List.getElem?_cons_zero, Option.some.injEq] at hp
      subst hp
      have hxl : w.heap.size ≤ x := by
        rcases hx with hx | hx
        · rw [hx]; exact hb
        · exact hr x hx
      rw [labNew_new hxl]
      have := h.bw
      exact ⟨by omega, by omega⟩
  · rw [labNew_old ((h.da i p hp).foot_lt hx)]
    exact h.dl i p x hp hx
/-- A builder more. -/
theorem YardO.addBld {b : Nat} {g : BG} (h : YardO w base yb v v' lab bs ds) (hf1 : Fr (fun _ => False) w w1) (hB : BldAt w1 b g) (hb : w.heap.size ≤ b) (hr : ∀ r, g.row = some r → w.heap.size ≤ r)
    (hf2 : Fr (fun x => v'.ownBlock = some x) w1 w2) (hown : Own 74 1 w2 base v2 (ds.length + 1) (ds.map dptr ++ [dptr (b, g)])) :
    YardO (w2.setCell ⟨yb, 1, none⟩ v2) base yb v v2 (labNew w lab (2 * ds.length + 1)) bs (ds ++ [(b, g)]) := by
  have od1 := h.od.fr hf1 (fun _ _ q => q)
  have hS2 : ∀ {T : TypeId}, T ≠ 74 → ∀ x, v'.ownBlock = some x → ¬ Typed w1 x T := fun hT x q => (od1.typed q).ne (Ne.symm hT)
  have st1 := hf1.blk h.st (fun q => q)
  have st2 : w2.heap[yb]? = some (.cells #[v, v'] 71 (0, 0)) := hf2.blk st1 (fun q => hS2 (by decide) yb q ⟨_, _, st1⟩)
  have hf3 : Fr (Just yb) w2 (w2.setCell ⟨yb, 1, none⟩ v2) := (Fr.refl _ w2).setCell (fun _ => just_self yb) _
  have hS3 : ∀ {T : TypeId}, T ≠ 71 → ∀ x, Just yb x → ¬ Typed w2 x T := fun hT x q => by
    obtain rfl : x = yb := q
    exact Typed.ne ⟨_, _, st2⟩ (Ne.symm hT)
  refine ⟨h.bb, Nat.le_trans h.bw (Nat.le_trans hf1.size (Nat.le_trans hf2.size hf3.size)), ?_, ?_, ?_, fun i p hp => ?_, fun i p hp => ?_, fun i p x hp hx => ?_, fun i p x hp hx => ?_⟩
  · simp [World.setCell, Array.getElem?_modify, st2]
  · exact ((h.ob.fr hf1 (fun _ _ q => q)).typed_fr hf2 (hS2 (by decide))).typed_fr hf3 (hS3 (by decide))
  · simp only [List.length_append, List.length_singleton, List.map_append, List.map_cons, List.map_nil]
    exact hown.typed_fr hf3 (hS3 (by decide))
  · exact (((h.ba i p hp).fr hf1 (fun _ _ q => q)).typed_fr hf2 (fun x q => ⟨hS2 (by decide) x q, hS2 (by decide) x q⟩)).typed_fr hf3 (fun x q => ⟨hS3 (by decide) x q, hS3 (by decide) x q⟩)
  · rcases Nat.lt_or_ge i ds.length with hl | hl
    · rw [List.getElem?_append_left hl] at hp
      exact (((h.da i p hp).fr hf1 (fun _ _ q => q)).typed_fr hf2 (fun x q => ⟨hS2 (by decide) x q, hS2 (by decide) x q⟩)).typed_fr hf3 (fun x q => ⟨hS3 (by decide) x q, hS3 (by decide) x q⟩)
    · rw [List.getElem?_append_right hl] at hp
      have h0 : i - ds.length = 0 := by have := (List.getElem?_eq_some_iff.1 hp).1; simp at this; omega
      rw [h0] at hp
      simp only [List.getElem?_cons_zero, Option.some.injEq] at hp
      subst hp
      exact (hB.typed_fr hf2 (fun x q => ⟨hS2 (by decide) x q, hS2 (by decide) x q⟩)).typed_fr hf3 (fun x q => ⟨hS3 (by decide) x q, hS3 (by decide) x q⟩)
  · rw [labNew_old ((h.ba i p hp).foot_lt hx)]
    exact h.bl i p x hp hx
  · rcases Nat.lt_or_ge i ds.length with hl | hl
    · rw [List.getElem?_append_left hl] at hp
      rw [labNew_old ((h.da i p hp).foot_lt hx)]
      exact h.dl i p x hp hx
    · rw [List.getElem?_append_right hl] at hp
      have h0 : i - ds.length = 0 := by have := (List.getElem?_eq_some_iff.1 hp).1; simp at this; omega
      rw [h0] at hp
      simp only [List.getElem?_cons_zero, Option.some.injEq] at hp
      subst hp
      have hxl : w.heap.size ≤ x := by
        rcases hx with hx | hx
        · rw [hx]; exact hb
        · exact hr x hx
      rw [labNew_new hxl]
      have := h.bw
      exact ⟨by omega, by omega⟩
end

/-- A slice of elements of so many cells each that reads as xs. -/
structure Reads {α : Type} (cells : α → List Value) (size : Nat) (w : World) (A : Option Addr) (xs : List α) : Prop where
  at' : ∀ (j : Nat) (x : α), xs[j]? = some x → ∃ r o, A = some ⟨r, o, none⟩ ∧ ∀ (k : Nat) (v : Value), (cells x)[k]? = some v → w.cell? ⟨r, o + j * size + k, none⟩ = some v
theorem Reads.fr {α : Type} {cells : α → List Value} {size : Nat} {w w' : World} {A : Option Addr} {xs : List α} {S : Nat → Prop} (h : Reads cells size w A xs) (hf : Fr S w w') (hS : ∀ r o, A = some ⟨r, o, none⟩ → ¬ S r) : Reads cells size w' A xs := by
  refine ⟨fun j x hx => ?_⟩
  obtain ⟨r, o, e, hc⟩ := h.at' j x hx
  exact ⟨r, o, e, fun k v hv => (hf.cell (World.block_lt_of_cell? _ _ (hc k v hv)) (hS r o e)).trans (hc k v hv)⟩
theorem Reads.nil {α : Type} (cells : α → List Value) (size : Nat) (w : World) (A : Option Addr) : Reads cells size w A [] := ⟨fun j x hx => by simp at hx⟩
theorem Reads.fr0 {α : Type} {cells : α → List Value} {size : Nat} {w w' : World} {A : Option Addr} {xs : List α} (h : Reads cells size w A xs) (hf : Fr (fun _ => False) w w') : Reads cells size w' A xs := h.fr hf (fun _ _ _ q => q)
def St.cells (s : St) : List Value := [.string ⟨s.text.toArray⟩, .int .i64 s.way, .int .u16 (s.space : Int)]

def OpenPost (w : World) (starts : List St) (nb : Nat) (e : Ending) (w' : World) : Prop :=
  ∃ yb bs ds, e = .returned (.pointer (some ⟨yb, 0, none⟩)) ∧ YardAt w' w.heap.size yb bs ds ∧ Rel bs ds (Yd.begin starts nb) ∧ Fr (fun _ => False) w w'

/-- How far the first loop has come. -/
structure OpI (w : World) (starts : List St) (k : Nat) (wr : World) (v : Value) (lab : Nat → Nat) (bs : List (Nat × Gh)) : Prop where
  yo : YardO wr w.heap.size w.heap.size v (.slice none 0 0) lab bs []
  len : bs.length = k
  rel : ∀ (j : Nat) (p : Nat × Gh) (s : St), bs[j]? = some p → starts[j]? = some s → p.2.txt = s.text ∧ p.2.lr = 0
  fr : Fr (fun _ => False) w wr
/-- How far the second loop has come. -/
structure OpJ (w : World) (starts : List St) (wr : World) (v v' : Value) (lab : Nat → Nat) (bs : List (Nat × Gh)) (ds : List (Nat × BG)) (j : Nat) : Prop where
  yo : YardO wr w.heap.size w.heap.size v v' lab bs ds
  len : bs.length = starts.length
  rel : ∀ (j : Nat) (p : Nat × Gh) (s : St), bs[j]? = some p → starts[j]? = some s → p.2.txt = s.text ∧ p.2.lr = 0
  dlen : ds.length = j
  emp : ∀ (i : Nat) (p : Nat × BG), ds[i]? = some p → p.2.txt = []
  fr : Fr (fun _ => False) w wr
theorem YardO.cell0 {w : World} {base yb : Nat} {v v' : Value} {lab : Nat → Nat} {bs : List (Nat × Gh)} {ds : List (Nat × BG)} (h : YardO w base yb v v' lab bs ds) : w.cell? ⟨yb, 0, none⟩ = some v ∧ w.cell? ⟨yb, 1, none⟩ = some v' ∧ ∀ i, w.frozen? ⟨yb, i, none⟩ = false := by
  refine ⟨?_, ?_, fun i => by simp [World.frozen?, h.st]⟩
  · rw [cell_of_row w yb 0 _ _ _ h.st]; rfl
  · rw [cell_of_row w yb 1 _ _ _ h.st]; rfl

set_option maxHeartbeats 1600000 in
set_option maxRecDepth 100000 in
theorem opened_any (starts : List St) (nb : Nat) (A : Option Addr) (c : Nat) (w : World) (hR : Reads St.cells 3 w A starts) (hst : ∀ s ∈ starts, s.text.length ≤ 1099511627776 ∧ s.space ≤ 65535) (hn : starts.length ≤ 4294967296) (hnb : nb ≤ 255) :
    Calls Tryz.prog 33 #[.slice A starts.length c, .int .u8 (nb : Int)] w (OpenPost w starts nb) := by
  have HR := Lib.hid hR
  have HST := Lib.hid hst
  clear hR hst
  go_enter Tryz.func33, Tryz.ntmps33
  go_wp2_with fail
  go_loopw [12] (fun i wr => ∃ (k : Nat) (v : Value) (lab : Nat → Nat) (bs : List (Nat × Gh)), k ≤ starts.length ∧ i = .int .i64 (k : Int) ∧ OpI w starts k wr v lab bs) (fun i _ => starts.length - (intOf i).toNat)
  case atStart =>
    refine ⟨0, .slice none 0 0, fun _ => 0, [], Nat.zero_le _, rfl, ⟨Nat.le_refl _, by simp, heap_alloc_new w _, Own.nil _ _ _ _, Own.nil _ _ _ _, ?_, ?_, ?_, ?_⟩, rfl, ?_, (Fr.refl _ w).alloc _⟩ <;> simp
  case round =>
    obtain ⟨k, v, lab, bs, hk, rfl, hI⟩ := hrel
    by_cases hlt : k < starts.length
    · obtain ⟨r, o, rfl, hc⟩ := HR.out.at' k starts[k] (List.getElem?_eq_getElem hlt)
      have hm := HST.out starts[k] (List.getElem_mem _)
      generalize hs : starts[k] = s at *
      obtain ⟨text, way, space⟩ := s
      have hfr := hI.fr
      have c0 : wr.cell? ⟨r, o + k * 3, none⟩ = some (.string ⟨text.toArray⟩) := (hfr.cell (World.block_lt_of_cell? _ _ (hc 0 _ rfl)) (fun q => q)).trans (hc 0 _ rfl)
      have c1 : wr.cell? ⟨r, o + k * 3 + 1, none⟩ = some (.int .i64 way) := (hfr.cell (World.block_lt_of_cell? _ _ (hc 1 _ rfl)) (fun q => q)).trans (hc 1 _ rfl)
      have c2 : wr.cell? ⟨r, o + k * 3 + 2, none⟩ = some (.int .u16 (space : Int)) := (hfr.cell (World.block_lt_of_cell? _ _ (hc 2 _ rfl)) (fun q => q)).trans (hc 2 _ rfl)
      have hki : (k : Int) < (starts.length : Int) := by omega
      have hk0 : (0 : Int) ≤ (k : Int) := by omega
      have hml := hm.1
      have hms := hm.2
      simp only at hml hms
      obtain ⟨y0, y1, yz⟩ := hI.yo.cell0
      have yz0 := yz 0
      have HI := Lib.hid hI
      have HS := Lib.hid hs
      obtain ⟨sb, hsb⟩ : ∃ sb, sb = wr.heap.size := ⟨_, rfl⟩
      obtain ⟨w1, hw1⟩ : ∃ w1, w1 = wr.alloc (.cells #[.string ⟨text.toArray⟩, .int .i64 way, .int .u16 (space : Int)] 24) := ⟨_, rfl⟩
      have hF1 : Fr (fun _ => False) wr w1 := by rw [hw1]; exact (Fr.refl _ wr).alloc _
      have s0 : w1.cell? ⟨sb, 0, none⟩ = some (.string ⟨text.toArray⟩) := by rw [hw1, hsb]; simp
      have s1 : w1.cell? ⟨sb, 1, none⟩ = some (.int .i64 way) := by rw [hw1, hsb]; simp
      have s2 : w1.cell? ⟨sb, 2, none⟩ = some (.int .u16 (space : Int)) := by rw [hw1, hsb]; simp
      have y01 : w1.cell? ⟨w.heap.size, 0, none⟩ = some v := (hF1.cell (World.block_lt_of_cell? _ _ y0) (fun q => q)).trans y0
      have HW1 := Lib.hid hw1
      have HSB := Lib.hid hsb
      have HF1 := Lib.hid hF1
      obtain ⟨A5, cap5, hv5⟩ := hI.yo.ob.value
      have HV := Lib.hid hv5
      clear hfr hc hI hm hs yz hw1 hsb hF1 y1 hv5
      go_wp2_with fail
      rw [← HW1.out, ← HSB.out]
      go_region_law ((first | (go_simp; go_at_call 46; refine (begin_any' ⟨text, way, space⟩ _ hml hms).mono ?_; rintro e w2 ⟨b, g, rfl, hFr, htx, hlr⟩; have hf2 := hFr.fr; have e0 : w2.cell? ⟨w.heap.size, 0, none⟩ = some v := (hf2.cell (World.block_lt_of_cell? _ _ y01) (fun q => q)).trans y01; have e1 : w2.cell? ⟨sb, 0, none⟩ = some (.string ⟨text.toArray⟩) := (hf2.cell (World.block_lt_of_cell? _ _ s0) (fun q => q)).trans s0; have e2 : w2.cell? ⟨sb, 1, none⟩ = some (.int .i64 way) := (hf2.cell (World.block_lt_of_cell? _ _ s1) (fun q => q)).trans s1; have e3 : w2.cell? ⟨sb, 2, none⟩ = some (.int .u16 (space : Int)) := (hf2.cell (World.block_lt_of_cell? _ _ s2) (fun q => q)).trans s2; have e0' : (w2.alloc (.cells #[.pointer (some ⟨b, 0, none⟩)] 72)).cell? ⟨w.heap.size, 0, none⟩ = some v := (((Fr.refl (fun _ => False) w2).alloc _).cell (World.block_lt_of_cell? _ _ e0) (fun q => q)).trans e0; have n0 := World.new_ne w2 _ e0; have n1 := World.new_ne w2 _ e1; have hf12 : Fr (fun _ => False) wr w2 := (by first | exact HF1.out.trans hf2 | exact HF1.out.drew.trans hf2 | exact (HF1.out.drewN _).trans hf2); have HFR := Lib.hid hFr; have HTX := Lib.hid htx; have HLR := Lib.hid hlr; have HF12 := Lib.hid hf12; clear hFr htx hlr hf2 hf12) | (refine step_app rfl elem_bufp (.tmp 20) (.tmp 23) rfl w.heap.size v bs.length _ rfl (HI.out.yo.ob.fr (HF12.out.alloc _) (fun _ _ q => q)) w2.heap.size [bptr (b, g)] 72 rfl (by exact heap_alloc_new w2 _) rfl (by simp [bptr, Value.oneCell']) (by have := HI.out.len; omega) (by have := (HI.out.fr.trans HF12.out).size; simp; omega) ?_; intro gb cap w3 hown hfr hat hlt1; have hst3 : w3.heap[w.heap.size]? = some (.cells #[v, .slice none 0 0] 71 (0, 0)) := hfr.blk ((HF12.out.alloc _).blk HI.out.yo.st (fun q => q)) (fun q => HI.out.yo.ob.ne_blk HI.out.yo.st (by decide) q rfl); have hsb3 : ∀ j u, w2.cell? ⟨sb, j, none⟩ = some u → w3.cell? ⟨sb, j, none⟩ = some u := (fun j u hu => (hfr.cell (Nat.lt_of_lt_of_le (World.block_lt_of_cell? _ _ hu) (by simp)) (fun q => by have k1 := HI.out.yo.ob.blk_lt q; have k2 := HSB.out; simp only at k1; omega)).trans ((((Fr.refl (fun _ => False) w2).alloc _).cell (World.block_lt_of_cell? _ _ hu) (fun q => q)).trans hu)); have g1 := hsb3 0 _ e1; have g2 := hsb3 1 _ e2; have g3 := hsb3 2 _ e3; have g0 : w3.cell? ⟨w.heap.size, 0, none⟩ = some v := (by rw [cell_of_row w3 _ 0 _ _ _ hst3]; rfl); have gz : w3.frozen? ⟨w.heap.size, 0, none⟩ = false := (by simp [World.frozen?, hst3]); have hne : sb ≠ w.heap.size := (by have := HSB.out; have := HI.out.fr.size; have := lt_of_blk HI.out.yo.st; omega); have hne' : w.heap.size ≠ sb := Ne.symm hne; have HN := HI.out.yo.addBuf (HF12.out.alloc _) (HFR.out.at'.fr ((Fr.refl (fun _ => False) w2).alloc _) (fun _ _ q => q)) (by have k1 := HFR.out.blk; have k2 := HF1.out.size; simp at k1; omega) (fun r hr => by have k1 := HFR.out.row r hr; have k2 := HF1.out.size; simp at k1; omega) hfr hown; have HNH := Lib.hid HN; have HFF := Lib.hid (((HI.out.fr.trans HF12.out).alloc _).trans' hfr (fun x hx q => by have := HI.out.yo.ob.blk_ge q; omega)); clear HN hown hfr hat hlt1 hst3 hsb3)))
      all_goals
        go_wp2_with fail
        go_roundw
        case rel =>
          refine ⟨k + 1, _, _, _, by omega, by go_num, HNH.out, by simp [HI.out.len], fun j p s hp hsj => ?_, HFF.out.setCell (fun q => by simp at q) _⟩
          rcases Nat.lt_or_ge j bs.length with hl | hl
          · rw [List.getElem?_append_left hl] at hp
            exact HI.out.rel j p s hp hsj
          · rw [List.getElem?_append_right hl] at hp
            have h0 : j - bs.length = 0 := by have := (List.getElem?_eq_some_iff.1 hp).1; simp at this; omega
            have hjk : j = k := by have := HI.out.len; omega
            rw [h0] at hp
            simp only [List.getElem?_cons_zero, Option.some.injEq] at hp
            subst hp hjk
            rw [List.getElem?_eq_getElem hlt, HS.out] at hsj
            injection hsj with hsj
            subst hsj
            exact ⟨HTX.out, HLR.out⟩
        case measure => simp [intOf]; omega
    · obtain rfl : k = starts.length := by omega
      have HI := Lib.hid hI
      clear hI hlt
      go_wp2_with fail
      go_loopw [29] (fun i wr2 => ∃ (j : Nat) (v' : Value) (lab' : Nat → Nat) (ds : List (Nat × BG)), j ≤ nb ∧ i = .int .u8 (j : Int) ∧ OpJ w starts wr2 v v' lab' bs ds j) (fun i _ => nb - (intOf i).toNat)
      case atStart => exact ⟨0, _, _, [], Nat.zero_le _, rfl, HI.out.yo, HI.out.len, HI.out.rel, rfl, (fun i p hp => by simp at hp), HI.out.fr⟩
      case round =>
        obtain ⟨j, v', lab', ds, hj, rfl, hJ⟩ := hrel
        by_cases hjl : j < nb
        · obtain ⟨y0, y1, yz⟩ := hJ.yo.cell0
          have yz1 := yz 1
          have hji : (j : Int) < (nb : Int) := by omega
          have HJ := Lib.hid hJ
          obtain ⟨A5, cap5, hv5⟩ := HJ.out.yo.od.value
          rw [hv5] at y1
          have HV := Lib.hid hv5
          clear hJ yz hv5
          go_wp2_with (refine wpList_app rfl elem_bldp (.tmp 35) (.tmp 38) rfl w.heap.size (.slice A5 ds.length cap5) ds.length _ (by rfl) (by have h0 := HJ.out.yo.od.fr (((Fr.refl (fun _ => False) wr).alloc (.cells #[.pointer none, .slice none 0 0] 90)).alloc (.cells #[.pointer (some ⟨wr.heap.size, 0, none⟩)] 74)) (fun _ _ q => q); rw [HV.out] at h0; exact h0) (wr.heap.size + 1) [dptr (wr.heap.size, ⟨none, [], 0, false⟩)] 74 (by rfl) (by have h0 := heap_alloc_new (wr.alloc (.cells #[.pointer none, .slice none 0 0] 90)) (.cells #[.pointer (some ⟨wr.heap.size, 0, none⟩)] 74); simpa [dptr] using h0) rfl (by simp [dptr, Value.oneCell']) (by have := HJ.out.dlen; omega) (by have := HJ.out.fr.size; simp; omega) ?_)
          intro gb cap w3 hown hfr hat hlt1
          have hF1 : Fr (fun _ => False) wr ((wr.alloc (.cells #[.pointer none, .slice none 0 0] 90)).alloc (.cells #[.pointer (some ⟨wr.heap.size, 0, none⟩)] 74)) := ((Fr.refl _ wr).alloc _).alloc _
          have hB : BldAt (wr.alloc (.cells #[.pointer none, .slice none 0 0] 90)) wr.heap.size ⟨none, [], 0, false⟩ := ⟨heap_alloc_new wr _, fun r hr => (by cases hr), fun r hr => (by cases hr), fun _ => ⟨rfl, rfl⟩, by simp⟩
          have hB1 := hB.fr ((Fr.refl (fun _ => False) _).alloc (.cells #[.pointer (some ⟨wr.heap.size, 0, none⟩)] 74)) (fun _ _ q => q)
          rw [← HV.out] at hfr
          have hst3 : w3.heap[w.heap.size]? = some (.cells #[v, v'] 71 (0, 0)) := hfr.blk (hF1.blk HJ.out.yo.st (fun q => q)) (fun q => HJ.out.yo.od.ne_blk HJ.out.yo.st (by decide) q rfl)
          have g1 : w3.cell? ⟨w.heap.size, 1, none⟩ = some v' := by rw [cell_of_row w3 _ 1 _ _ _ hst3]; rfl
          have gz : w3.frozen? ⟨w.heap.size, 1, none⟩ = false := by simp [World.frozen?, hst3]
          have HN := Lib.hid (HJ.out.yo.addBld hF1 hB1 (Nat.le_refl _) (fun r hr => by cases hr) hfr hown)
          have HFF := Lib.hid ((HJ.out.fr.trans hF1).trans' hfr (fun x hx q => by have := HJ.out.yo.od.blk_ge q; omega))
          clear hown hfr hat hlt1 hst3 hF1 hB hB1
          go_wp2_with fail
          go_roundw
          case rel =>
            refine ⟨j + 1, _, _, _, by omega, by go_num, HN.out, HJ.out.len, HJ.out.rel, by simp [HJ.out.dlen], fun i p hp => ?_, HFF.out.setCell (fun q => by simp at q) _⟩
            rcases Nat.lt_or_ge i ds.length with hl | hl
            · rw [List.getElem?_append_left hl] at hp
              exact HJ.out.emp i p hp
            · rw [List.getElem?_append_right hl] at hp
              have h0 : i - ds.length = 0 := by have := (List.getElem?_eq_some_iff.1 hp).1; simp at this; omega
              rw [h0] at hp
              simp only [List.getElem?_cons_zero, Option.some.injEq] at hp
              subst hp
              rfl
          case measure => simp [intOf]; omega
        · obtain rfl : j = nb := by omega
          have HJ := Lib.hid hJ
          clear hJ hjl
          go_wp2_with fail
          go_ret
          refine ⟨w.heap.size, bs, ds, rfl, HJ.out.yo.yard, ⟨?_, ?_, fun i p s hp hs => ?_, fun i p s hp hs => ?_⟩, HJ.out.fr⟩
          · simp [Yd.begin, HJ.out.len]
          · simp [Yd.begin, HJ.out.dlen]
          · simp only [Yd.begin, List.getElem?_map, Option.map_eq_some_iff] at hs
            obtain ⟨s0, h0, rfl⟩ := hs
            obtain ⟨h1, h2⟩ := HJ.out.rel i p s0 hp h0
            refine ⟨h1, fun q => ?_, fun q => ?_, fun _ => h2, fun q => ?_, ?_⟩
            · simp only at q; split at q <;> simp at q
            · simp only at q; split at q <;> simp at q
            · simp only at q; split at q <;> simp at q
            · simp only; split <;> simp
          · rw [HJ.out.emp i p hp]
            simp only [Yd.begin, List.getElem?_replicate] at hs
            split at hs
            · injection hs
            · cases hs
end Go.Proofs.YtbodbajgpgaoeaaGreatDoor
