/- DoB, Give. -/
import Derived.Test.YtkggebhkjgjijaaGreatDoorQ23
import Derived.Test.YtkggebhkjgjijaaGreatDoorQ09
namespace Go.Proofs.YtkggebhkjgjijaaGreatDoor
open Go Go.RowKit

/-- What a call writes. -/
def textOfF (c : Cl) : List UInt8 := if c.op = 3 ∨ c.op = 30 then [c.sign] else if c.op = 4 ∨ c.op = 31 then enc c.char else c.text
/-- What a call of a builder does to its capacity. -/
structure BCap (c : Cl) (g g' : BG) : Prop where
  w : 28 ≤ c.op → c.op ≤ 31 → g.txt.length + (textOfF c).length ≤ g.cap → g'.cap = g.cap
  r : c.op = 32 → g.txt.length + c.n.toNat ≤ g'.cap
def PBPost (w : World) (base yb : Nat) (bs : List (Nat × Gh)) (ds : List (Nat × BG)) (i d : Nat) (g : BG) (c : Cl) (e : Ending) (w' : World) : Prop :=
  ∃ g', e = .returned (putS g.txt c).2.1.val ∧ YardStep w base yb w' bs (ds.set i (d, g')) ∧ g'.txt = (putS g.txt c).1 ∧ BCap c g g'


theorem pb_28 (w : World) (base yb i d : Nat) (g : BG) (bs : List (Nat × Gh)) (ds : List (Nat × BG)) (c : Cl) (hY : YardAt w base yb bs ds) (hi : ds[i]? = some (d, g)) (ha : c.a = (i : Int)) (_hsz : g.txt.length + c.text.length + 66000 ≤ 1099511627776) (hop : c.op = 28) : Calls Tryz.prog 14 #[.pointer (some ⟨yb, 0, none⟩), c.val] w (PBPost w base yb bs ds i d g c) := by
  have hB := hY.bldAt hi
  have e : putS g.txt c = (g.txt ++ c.text, Td.ofN c.text.length, true) := by simp [putS, hop]
  unfold PBPost
  rw [e]
  unfold Cl.val Cl.cells
  rw [hop, ha]
  refine (call_p c.b c.size c.n c.sign c.char c.text c.cuts c.ad c.cap 28 (by simp) w base yb i d g bs ds _ _ _ _ (fun g' => Built g c.text g') hY hi (fun w1 hf => put_28 (i : Int) c.b c.size c.n c.sign c.char c.text c.cuts c.ad c.cap d g w1 (hB.fr hf (fun _ _ q => q)) (by omega))).mono ?_
  rintro e w' ⟨g', rfl, S, hR⟩
  exact ⟨g', rfl, S, hR.txt, ⟨fun _ _ q => hR.cap (by simpa [textOfF, hop] using q), fun q => by omega⟩⟩
theorem pb_29 (w : World) (base yb i d : Nat) (g : BG) (bs : List (Nat × Gh)) (ds : List (Nat × BG)) (c : Cl) (hY : YardAt w base yb bs ds) (hi : ds[i]? = some (d, g)) (ha : c.a = (i : Int)) (_hsz : g.txt.length + c.text.length + 66000 ≤ 1099511627776) (hop : c.op = 29) : Calls Tryz.prog 14 #[.pointer (some ⟨yb, 0, none⟩), c.val] w (PBPost w base yb bs ds i d g c) := by
  have hB := hY.bldAt hi
  have e : putS g.txt c = (g.txt ++ c.text, Td.ofN c.text.length, true) := by simp [putS, hop]
  unfold PBPost
  rw [e]
  unfold Cl.val Cl.cells
  rw [hop, ha]
  refine (call_p c.b c.size c.n c.sign c.char c.text c.cuts c.ad c.cap 29 (by simp) w base yb i d g bs ds _ _ _ _ (fun g' => Built g c.text g') hY hi (fun w1 hf => put_29 (i : Int) c.b c.size c.n c.sign c.char c.text c.cuts c.ad c.cap d g w1 (hB.fr hf (fun _ _ q => q)) (by omega))).mono ?_
  rintro e w' ⟨g', rfl, S, hR⟩
  exact ⟨g', rfl, S, hR.txt, ⟨fun _ _ q => hR.cap (by simpa [textOfF, hop] using q), fun q => by omega⟩⟩
theorem pb_30 (w : World) (base yb i d : Nat) (g : BG) (bs : List (Nat × Gh)) (ds : List (Nat × BG)) (c : Cl) (hY : YardAt w base yb bs ds) (hi : ds[i]? = some (d, g)) (ha : c.a = (i : Int)) (_hsz : g.txt.length + c.text.length + 66000 ≤ 1099511627776) (hop : c.op = 30) : Calls Tryz.prog 14 #[.pointer (some ⟨yb, 0, none⟩), c.val] w (PBPost w base yb bs ds i d g c) := by
  have hB := hY.bldAt hi
  have e : putS g.txt c = (g.txt ++ [c.sign], Td.zero, true) := by simp [putS, hop]
  unfold PBPost
  rw [e]
  unfold Cl.val Cl.cells
  rw [hop, ha]
  refine (call_p c.b c.size c.n c.sign c.char c.text c.cuts c.ad c.cap 30 (by simp) w base yb i d g bs ds _ _ _ _ (fun g' => Built g [c.sign] g') hY hi (fun w1 hf => put_30 (i : Int) c.b c.size c.n c.sign c.char c.text c.cuts c.ad c.cap d g w1 (hB.fr hf (fun _ _ q => q)) (by omega))).mono ?_
  rintro e w' ⟨g', rfl, S, hR⟩
  exact ⟨g', rfl, S, hR.txt, ⟨fun _ _ q => hR.cap (by simpa [textOfF, hop] using q), fun q => by omega⟩⟩
theorem pb_31 (w : World) (base yb i d : Nat) (g : BG) (bs : List (Nat × Gh)) (ds : List (Nat × BG)) (c : Cl) (hY : YardAt w base yb bs ds) (hi : ds[i]? = some (d, g)) (ha : c.a = (i : Int)) (_hsz : g.txt.length + c.text.length + 66000 ≤ 1099511627776) (hop : c.op = 31) (hgood : ¬ badRune c.char) : Calls Tryz.prog 14 #[.pointer (some ⟨yb, 0, none⟩), c.val] w (PBPost w base yb bs ds i d g c) := by
  have hB := hY.bldAt hi
  have e : putS g.txt c = (g.txt ++ enc c.char, Td.ofN (enc c.char).length, decide (enc c.char ≠ [])) := by simp [putS, hop]
  unfold PBPost
  rw [e]
  unfold Cl.val Cl.cells
  rw [hop, ha]
  refine (call_p c.b c.size c.n c.sign c.char c.text c.cuts c.ad c.cap 31 (by simp) w base yb i d g bs ds _ _ _ _ (fun g' => Built g (enc c.char) g') hY hi (fun w1 hf => put_31 (i : Int) c.b c.size c.n c.sign c.char c.text c.cuts c.ad c.cap d g w1 (hB.fr hf (fun _ _ q => q)) hgood (by omega))).mono ?_
  rintro e w' ⟨g', rfl, S, hR⟩
  exact ⟨g', rfl, S, hR.txt, ⟨fun _ _ q => hR.cap (by simpa [textOfF, hop] using q), fun q => by omega⟩⟩
theorem pb_32 (w : World) (base yb i d : Nat) (g : BG) (bs : List (Nat × Gh)) (ds : List (Nat × BG)) (c : Cl) (hY : YardAt w base yb bs ds) (hi : ds[i]? = some (d, g)) (ha : c.a = (i : Int)) (_hsz : g.txt.length + c.text.length + 66000 ≤ 1099511627776) (hop : c.op = 32) (k : Nat) (hn : c.n = (k : Int)) (hk : k ≤ 65536) : Calls Tryz.prog 14 #[.pointer (some ⟨yb, 0, none⟩), c.val] w (PBPost w base yb bs ds i d g c) := by
  have hB := hY.bldAt hi
  have e : putS g.txt c = (g.txt, Td.zero, decide (c.n ≤ 65536)) := by
    have hk0 : ¬ ((k : Int) < 0) := by omega
    simp [putS, hop, hn, hk0]
  unfold PBPost
  rw [e]
  unfold Cl.val Cl.cells
  rw [hop, ha, hn]
  refine (call_p c.b c.size (k : Int) c.sign c.char c.text c.cuts c.ad c.cap 32 (by simp) w base yb i d g bs ds _ _ _ _ (fun g' => Roomy g k g') hY hi (fun w1 hf => put_32 (i : Int) c.b c.size c.sign c.char c.text c.cuts c.ad c.cap d g w1 (hB.fr hf (fun _ _ q => q)) k (by omega))).mono ?_
  rintro e w' ⟨g', rfl, S, hR⟩
  exact ⟨g', rfl, S, hR.txt, ⟨fun h1 h2 => by omega, fun _ => by rw [hn]; exact hR.room⟩⟩
theorem pb_33 (w : World) (base yb i d : Nat) (g : BG) (bs : List (Nat × Gh)) (ds : List (Nat × BG)) (c : Cl) (hY : YardAt w base yb bs ds) (hi : ds[i]? = some (d, g)) (ha : c.a = (i : Int)) (_hsz : g.txt.length + c.text.length + 66000 ≤ 1099511627776) (hop : c.op = 33) : Calls Tryz.prog 14 #[.pointer (some ⟨yb, 0, none⟩), c.val] w (PBPost w base yb bs ds i d g c) := by
  have hB := hY.bldAt hi
  have e : putS g.txt c = ([], Td.zero, true) := by simp [putS, hop]
  unfold PBPost
  rw [e]
  unfold Cl.val Cl.cells
  rw [hop, ha]
  refine (call_p c.b c.size c.n c.sign c.char c.text c.cuts c.ad c.cap 33 (by simp) w base yb i d g bs ds _ _ _ _ (fun g' => g' = ⟨none, [], 0, false⟩) hY hi (fun w1 hf => put_33 (i : Int) c.b c.size c.n c.sign c.char c.text c.cuts c.ad c.cap d g w1 (hB.fr hf (fun _ _ q => q)) )).mono ?_
  rintro e w' ⟨g', rfl, S, hR⟩
  exact ⟨g', rfl, S, by rw [hR], ⟨fun h1 h2 => by omega, fun q => by omega⟩⟩
theorem pb_34 (w : World) (base yb i d : Nat) (g : BG) (bs : List (Nat × Gh)) (ds : List (Nat × BG)) (c : Cl) (hY : YardAt w base yb bs ds) (hi : ds[i]? = some (d, g)) (ha : c.a = (i : Int)) (_hsz : g.txt.length + c.text.length + 66000 ≤ 1099511627776) (hop : c.op = 34) : Calls Tryz.prog 14 #[.pointer (some ⟨yb, 0, none⟩), c.val] w (PBPost w base yb bs ds i d g c) := by
  have hB := hY.bldAt hi
  have e : putS g.txt c = (g.txt, Td.ofN g.txt.length, true) := by simp [putS, hop]
  unfold PBPost
  rw [e]
  unfold Cl.val Cl.cells
  rw [hop, ha]
  refine (call_p c.b c.size c.n c.sign c.char c.text c.cuts c.ad c.cap 34 (by simp) w base yb i d g bs ds _ _ _ _ (fun g' => g' = g) hY hi (fun w1 hf => put_34 (i : Int) c.b c.size c.n c.sign c.char c.text c.cuts c.ad c.cap d g w1 (hB.fr hf (fun _ _ q => q)) )).mono ?_
  rintro e w' ⟨g', rfl, S, hR⟩
  exact ⟨g', rfl, S, by rw [hR], ⟨fun h1 h2 => by omega, fun q => by omega⟩⟩
theorem pb_35 (w : World) (base yb i d : Nat) (g : BG) (bs : List (Nat × Gh)) (ds : List (Nat × BG)) (c : Cl) (hY : YardAt w base yb bs ds) (hi : ds[i]? = some (d, g)) (ha : c.a = (i : Int)) (_hsz : g.txt.length + c.text.length + 66000 ≤ 1099511627776) (hop : c.op = 35) : Calls Tryz.prog 14 #[.pointer (some ⟨yb, 0, none⟩), c.val] w (PBPost w base yb bs ds i d g c) := by
  have hB := hY.bldAt hi
  have e : putS g.txt c = (g.txt, Td.ofText g.txt, true) := by simp [putS, hop]
  unfold PBPost
  rw [e]
  unfold Cl.val Cl.cells
  rw [hop, ha]
  refine (call_p c.b c.size c.n c.sign c.char c.text c.cuts c.ad c.cap 35 (by simp) w base yb i d g bs ds _ _ _ _ (fun g' => g' = g) hY hi (fun w1 hf => put_35 (i : Int) c.b c.size c.n c.sign c.char c.text c.cuts c.ad c.cap d g w1 (hB.fr hf (fun _ _ q => q)) )).mono ?_
  rintro e w' ⟨g', rfl, S, hR⟩
  exact ⟨g', rfl, S, by rw [hR], ⟨fun h1 h2 => by omega, fun q => by omega⟩⟩
theorem pb_any (w : World) (base yb i d : Nat) (g : BG) (bs : List (Nat × Gh)) (ds : List (Nat × BG)) (c : Cl) (hY : YardAt w base yb bs ds) (hi : ds[i]? = some (d, g)) (ha : c.a = (i : Int)) (hsz : g.txt.length + c.text.length + 66000 ≤ 1099511627776) (h28 : 28 ≤ c.op) (h35 : c.op ≤ 35) (hset : (putS g.txt c).2.2 = true) (hns : (putS g.txt c).2.1.said ≠ 3) :
    Calls Tryz.prog 14 #[.pointer (some ⟨yb, 0, none⟩), c.val] w (PBPost w base yb bs ds i d g c) := by
  have hop : c.op = 28 ∨ c.op = 29 ∨ c.op = 30 ∨ c.op = 31 ∨ c.op = 32 ∨ c.op = 33 ∨ c.op = 34 ∨ c.op = 35 := by omega
  rcases hop with hop | hop | hop | hop | hop | hop | hop | hop
  · exact pb_28 w base yb i d g bs ds c hY hi ha hsz hop
  · exact pb_29 w base yb i d g bs ds c hY hi ha hsz hop
  · exact pb_30 w base yb i d g bs ds c hY hi ha hsz hop
  · refine pb_31 w base yb i d g bs ds c hY hi ha hsz hop (fun hb => ?_)
    simp [putS, hop, enc, hb] at hset
  · have hn : ¬ c.n < 0 := fun q => by simp [putS, hop, q, Td.said'] at hns
    have hk : c.n ≤ 65536 := by simpa [putS, hop, hn] using hset
    obtain ⟨k, hk'⟩ := Int.eq_ofNat_of_zero_le (show 0 ≤ c.n by omega)
    exact pb_32 w base yb i d g bs ds c hY hi ha hsz hop k hk' (by omega)
  · exact pb_33 w base yb i d g bs ds c hY hi ha hsz hop
  · exact pb_34 w base yb i d g bs ds c hY hi ha hsz hop
  · exact pb_35 w base yb i d g bs ds c hY hi ha hsz hop
end Go.Proofs.YtkggebhkjgjijaaGreatDoor

namespace Go.Proofs.YtkggebhkjgjijaaGreatDoor
open Go Go.RowKit

/-- The yard behind a call of two buffers. -/
def GPost (w : World) (base yb : Nat) (bs : List (Nat × Gh)) (ds : List (Nat × BG)) (i b j b2 : Nat) (t : Td) (R : Gh → Gh → Prop) (e : Ending) (w' : World) : Prop :=
  ∃ g' g2', e = .returned t.val ∧ YardStep w base yb w' ((bs.set i (b, g')).set j (b2, g2')) ds ∧ R g' g2'
theorem Typed.fr' {S : Nat → Prop} {w w' : World} {x : Nat} {T : TypeId} (h : Typed w x T) (hf : Fr S w w') (hn : ¬ S x) : Typed w' x T := by
  obtain ⟨cs, fz, k⟩ := h
  exact ⟨cs, fz, hf.blk k hn⟩
theorem YardStep.late {w0 w w' : World} {base yb : Nat} {bs : List (Nat × Gh)} {ds : List (Nat × BG)} (S : YardStep w base yb w' bs ds) (h0 : Fr (fun _ => False) w0 w) : YardStep w0 base yb w' bs ds := ⟨S.at', Fr.yd' h0 S.fr⟩
theorem YardStep.kept {w0 w w' : World} {base yb : Nat} {bs : List (Nat × Gh)} {ds : List (Nat × BG)} (S : YardStep w base yb w' bs ds) (h0 : Fr (fun _ => False) w0 w) (x o : Nat) (T : TypeId) (hT : Typed w0 x T) (h1 : T ≠ 84) (h2 : T ≠ 74) (h3 : T ≠ 5) (v : Value) (hv : w0.cell? ⟨x, o, none⟩ = some v) : w'.cell? ⟨x, o, none⟩ = some v := by
  have e := (h0.cell (World.block_lt_of_cell? _ _ hv) (fun q => q)).trans hv
  exact (S.fr.cell (World.block_lt_of_cell? _ _ e) (fun q => q.not_typed (hT.fr' h0 (fun q => q)) h1 h2 h3)).trans e
theorem writeTo_any (w : World) (b : Nat) (g : Gh) (b2 : Nat) (g2 : Gh) (h : BufAt w b g) (h2 : BufAt w b2 g2) (hap : Apart b g b2 g2) (hsz : g2.txt.length + g.txt.length ≤ 1099511627776) :
    Calls Tryz.prog 60 #[.pointer (some ⟨b, 0, none⟩), .iface 70 (.pointer (some ⟨b2, 0, none⟩))] w (WriteToPost w b g b2 g2) := by
  by_cases ht : g.txt = []
  · exact writeTo_buf_empty w b g b2 g2 h h2 hap ht
  · exact writeTo_buf_some w b g b2 g2 h h2 hap ht hsz
section
variable (size : Nat) (n : Int) (sign : UInt8) (char : Int) (text : List UInt8) (cuts : List Nat) (ad : Option Addr) (cap : Nat)

set_option maxHeartbeats 1600000 in
set_option maxRecDepth 100000 in
theorem flow_23 (w : World) (base yb i b j b2 : Nat) (g g2 : Gh) (bs : List (Nat × Gh)) (ds : List (Nat × BG)) (hY : YardAt w base yb bs ds) (hi : bs[i]? = some (b, g)) (hj : bs[j]? = some (b2, g2)) (hij : i ≠ j) (hsz : g2.txt.length + g.txt.length ≤ 1099511627776) :
    Calls Tryz.prog 28 #[.pointer (some ⟨yb, 0, none⟩), .pointer (some ⟨b, 0, none⟩), .agg #[.int .i64 23, .int .i64 (i : Int), .int .i64 (j : Int), .int .u16 (size : Int), .int .i64 n, .int .u8 (sign.toNat : Int), .int .i32 char, .string ⟨text.toArray⟩, .slice ad cuts.length cap]] w (GPost w base yb bs ds i b j b2 ⟨g.txt.length, [], 0, 0⟩ (fun g' g2' => g'.txt = [] ∧ (g.txt = [] → g2' = g2) ∧ (g.txt ≠ [] → Wrote g2 g.txt g2'))) := by
  obtain ⟨A, cp, A', cp', lab, hC⟩ := hY
  obtain ⟨rb, rfl, hrt, hrc⟩ := hC.bp j _ hj
  have hil : i < bs.length := (List.getElem?_eq_some_iff.1 hi).1
  have hjl : j < bs.length := (List.getElem?_eq_some_iff.1 hj).1
  have hap := hC.apart hi hj hij
  simp only at hap
  have y0 : w.cell? ⟨yb, 0, none⟩ = some (.slice (some ⟨rb, 0, none⟩) bs.length cp) := by rw [cell_of_row w yb 0 _ _ _ hC.st]; rfl
  have hj0 : (0 : Int) ≤ (j : Int) := by omega
  have hj1 : (j : Int) < (bs.length : Int) := by omega
  have hijb : ((i : Int) == (j : Int)) = false := by simp; omega
  simp only at hrc
  have hY : YardAt w base yb bs ds := ⟨_, _, _, _, _, hC⟩
  obtain ⟨w0, hw0⟩ : ∃ w0, w0 = ((w.alloc (.cells #[.int .i64 23, .int .i64 (i : Int), .int .i64 (j : Int), .int .u16 (size : Int), .int .i64 n, .int .u8 (sign.toNat : Int), .int .i32 char, .string ⟨text.toArray⟩, .slice ad cuts.length cap] 27)).alloc (.cells #[.int .i64 0, .string ⟨#[]⟩, .int .i32 0, .int .i64 0] 45)) := ⟨_, rfl⟩
  have hF0 : Fr (fun _ => False) w w0 := by rw [hw0]; exact (((Fr.refl (fun _ => False) w).alloc _).alloc _)
  have e0 : w0.cell? ⟨w.heap.size, 0, none⟩ = some (.int .i64 23) := by rw [hw0]; simp
  have e1 : w0.cell? ⟨w.heap.size, 1, none⟩ = some (.int .i64 (i : Int)) := by rw [hw0]; simp
  have e2 : w0.cell? ⟨w.heap.size, 2, none⟩ = some (.int .i64 (j : Int)) := by rw [hw0]; simp
  have e3 : w0.cell? ⟨w.heap.size, 3, none⟩ = some (.int .u16 (size : Int)) := by rw [hw0]; simp
  have e4 : w0.cell? ⟨w.heap.size, 4, none⟩ = some (.int .i64 n) := by rw [hw0]; simp
  have e5 : w0.cell? ⟨w.heap.size, 5, none⟩ = some (.int .u8 (sign.toNat : Int)) := by rw [hw0]; simp
  have e6 : w0.cell? ⟨w.heap.size, 6, none⟩ = some (.int .i32 char) := by rw [hw0]; simp
  have e7 : w0.cell? ⟨w.heap.size, 7, none⟩ = some (.string ⟨text.toArray⟩) := by rw [hw0]; simp
  have e8 : w0.cell? ⟨w.heap.size, 8, none⟩ = some (.slice ad cuts.length cap) := by rw [hw0]; simp
  have y1 : w0.cell? ⟨yb, 0, none⟩ = some (.slice (some ⟨rb, 0, none⟩) bs.length cp) := (hF0.cell (World.block_lt_of_cell? _ _ y0) (fun q => q)).trans y0
  have r1 : w0.cell? ⟨rb, j, none⟩ = some (.pointer (some ⟨b2, 0, none⟩)) := (hF0.cell (World.block_lt_of_cell? _ _ hrc) (fun q => q)).trans hrc
  have HTY := Lib.hid (show Typed w0 yb 69 from ⟨_, _, hF0.blk hC.st (fun q => q)⟩)
  have HTR := Lib.hid (show Typed w0 rb 70 from Typed.fr' hrt hF0 (fun q => q))
  have HTC := Lib.hid (show Typed w0 w.heap.size 27 by rw [hw0]; exact ⟨_, _, ((Fr.refl (fun _ => False) _).alloc _).blk (heap_alloc_new w _) (fun q => q)⟩)
  have HT0 := Lib.hid (show ToldAt w0 (w.heap.size + 1) by rw [hw0]; exact ToldAt.new2 w _)
  have HY := Lib.hid (hY.fr0 hF0)
  have HF0 := Lib.hid hF0
  have HI := Lib.hid hi
  have HJ := Lib.hid hj
  have HAP := Lib.hid hap
  have HW0 := Lib.hid hw0
  clear hC hi hj hrt hY hF0 y0 hrc hw0 hap
  go_enter Tryz.func28, Tryz.ntmps28
  go_wp2_with fail
  rw [← HW0.out]
  go_quiet ((go_at_call 24; exact Calls.quiet_of_same (among_yes j bs.length hjl _)))
  go_wp2_with fail
  go_region_held3 (fun w' => w'.cell? ⟨yb, 0, none⟩ = some (.slice (some ⟨rb, 0, none⟩) bs.length cp) ∧ w'.cell? ⟨rb, j, none⟩ = some (.pointer (some ⟨b2, 0, none⟩)) ∧ w'.cell? ⟨w.heap.size, 2, none⟩ = some (.int .i64 (j : Int))) (go_keep) ((go_at_call 60; refine (writeTo_any _ b g b2 g2 ((HY.out.fr0 ((Fr.refl (fun _ => False) w0).drewN _)).bufAt HI.out) ((HY.out.fr0 ((Fr.refl (fun _ => False) w0).drewN _)).bufAt HJ.out) HAP.out hsz).mono ?_; rintro e w1 ⟨g2', rfl, B1, B2, hrow, hE, hS, F1⟩; have S2 := (HY.out.fr0 ((Fr.refl (fun _ => False) w0).drewN _)).two HJ.out HI.out (Ne.symm hij) B2 B1 hrow rfl (F1.mono (fun x _ q => q.elim (fun q => .inr (.inl q)) .inl)); rw [List.set_comm _ _ (Ne.symm hij)] at S2; have hR : g.rs.txt = [] ∧ (g.txt = [] → g2' = g2) ∧ (g.txt ≠ [] → Wrote g2 g.txt g2') := ⟨g.rs_txt, hE, hS⟩; clear B1 B2 hrow hE hS F1; have hK := YardStep.kept S2 ((Fr.refl (fun _ => False) w0).drewN _); have p0 := hK yb 0 69 HTY.out (by decide) (by decide) (by decide) _ y1; have p1 := hK rb j 70 HTR.out (by decide) (by decide) (by decide) _ r1; have p2 := hK w.heap.size 2 27 HTC.out (by decide) (by decide) (by decide) _ e2; have hT : ToldAt w1 (w.heap.size + 1) := S2.told (HT0.out.fr ((Fr.refl (fun _ => False) w0).drewN _) (fun q => q)); have HS := Lib.hid (YardStep.late S2 ((Fr.refl (fun _ => False) w0).drewN _)); have HR := Lib.hid hR; clear S2 hK hR))
  have t0 := hT.c0; have t1 := hT.c1; have t2 := hT.c2; have t3 := hT.c3; have z0 := hT.f 0; have z1 := hT.f 1; have z2 := hT.f 2; have z3 := hT.f 3
  have HT := Lib.hid hT
  clear hT
  go_wp2_with fail
  refine (said_nil _).mono ?_
  rintro e w2 ⟨rfl, rfl⟩
  go_wp2_with fail
  refine bodyPost_ret (v := Td.val ⟨g.txt.length, [], 0, 0⟩) (by simp [results, Tryz.results28, go_sem, t0, t1, t2, t3, Td.val, Td.cells]) rfl ?_
  exact ⟨_, _, rfl, HS.out.skip HF0.out (by omega) HT.out (just4 _ _ _ _ _ _), HR.out⟩
set_option maxHeartbeats 1600000 in
set_option maxRecDepth 100000 in
theorem flow_24 (w : World) (base yb i b j b2 : Nat) (g g2 : Gh) (bs : List (Nat × Gh)) (ds : List (Nat × BG)) (hY : YardAt w base yb bs ds) (hi : bs[i]? = some (b, g)) (hj : bs[j]? = some (b2, g2)) (hij : i ≠ j) (ea : Addr) (he : w.cell? ⟨0, 0, none⟩ = some (errV ea)) (hsz : g.txt.length + g2.txt.length + 512 ≤ 1099511627776) :
    Calls Tryz.prog 28 #[.pointer (some ⟨yb, 0, none⟩), .pointer (some ⟨b, 0, none⟩), .agg #[.int .i64 24, .int .i64 (i : Int), .int .i64 (j : Int), .int .u16 (size : Int), .int .i64 n, .int .u8 (sign.toNat : Int), .int .i32 char, .string ⟨text.toArray⟩, .slice ad cuts.length cap]] w (GPost w base yb bs ds i b j b2 ⟨g2.txt.length, [], 0, 0⟩ (fun g' g2' => g'.txt = g.txt ++ g2.txt ∧ g2'.txt = [])) := by
  obtain ⟨A, cp, A', cp', lab, hC⟩ := hY
  obtain ⟨rb, rfl, hrt, hrc⟩ := hC.bp j _ hj
  have hil : i < bs.length := (List.getElem?_eq_some_iff.1 hi).1
  have hjl : j < bs.length := (List.getElem?_eq_some_iff.1 hj).1
  have hap := hC.apart hi hj hij
  simp only at hap
  have y0 : w.cell? ⟨yb, 0, none⟩ = some (.slice (some ⟨rb, 0, none⟩) bs.length cp) := by rw [cell_of_row w yb 0 _ _ _ hC.st]; rfl
  have hj0 : (0 : Int) ≤ (j : Int) := by omega
  have hj1 : (j : Int) < (bs.length : Int) := by omega
  have hijb : ((i : Int) == (j : Int)) = false := by simp; omega
  simp only at hrc
  have hY : YardAt w base yb bs ds := ⟨_, _, _, _, _, hC⟩
  obtain ⟨w0, hw0⟩ : ∃ w0, w0 = ((w.alloc (.cells #[.int .i64 24, .int .i64 (i : Int), .int .i64 (j : Int), .int .u16 (size : Int), .int .i64 n, .int .u8 (sign.toNat : Int), .int .i32 char, .string ⟨text.toArray⟩, .slice ad cuts.length cap] 27)).alloc (.cells #[.int .i64 0, .string ⟨#[]⟩, .int .i32 0, .int .i64 0] 45)) := ⟨_, rfl⟩
  have hF0 : Fr (fun _ => False) w w0 := by rw [hw0]; exact (((Fr.refl (fun _ => False) w).alloc _).alloc _)
  have e0 : w0.cell? ⟨w.heap.size, 0, none⟩ = some (.int .i64 24) := by rw [hw0]; simp
  have e1 : w0.cell? ⟨w.heap.size, 1, none⟩ = some (.int .i64 (i : Int)) := by rw [hw0]; simp
  have e2 : w0.cell? ⟨w.heap.size, 2, none⟩ = some (.int .i64 (j : Int)) := by rw [hw0]; simp
  have e3 : w0.cell? ⟨w.heap.size, 3, none⟩ = some (.int .u16 (size : Int)) := by rw [hw0]; simp
  have e4 : w0.cell? ⟨w.heap.size, 4, none⟩ = some (.int .i64 n) := by rw [hw0]; simp
  have e5 : w0.cell? ⟨w.heap.size, 5, none⟩ = some (.int .u8 (sign.toNat : Int)) := by rw [hw0]; simp
  have e6 : w0.cell? ⟨w.heap.size, 6, none⟩ = some (.int .i32 char) := by rw [hw0]; simp
  have e7 : w0.cell? ⟨w.heap.size, 7, none⟩ = some (.string ⟨text.toArray⟩) := by rw [hw0]; simp
  have e8 : w0.cell? ⟨w.heap.size, 8, none⟩ = some (.slice ad cuts.length cap) := by rw [hw0]; simp
  have y1 : w0.cell? ⟨yb, 0, none⟩ = some (.slice (some ⟨rb, 0, none⟩) bs.length cp) := (hF0.cell (World.block_lt_of_cell? _ _ y0) (fun q => q)).trans y0
  have r1 : w0.cell? ⟨rb, j, none⟩ = some (.pointer (some ⟨b2, 0, none⟩)) := (hF0.cell (World.block_lt_of_cell? _ _ hrc) (fun q => q)).trans hrc
  have HTY := Lib.hid (show Typed w0 yb 69 from ⟨_, _, hF0.blk hC.st (fun q => q)⟩)
  have HTR := Lib.hid (show Typed w0 rb 70 from Typed.fr' hrt hF0 (fun q => q))
  have HTC := Lib.hid (show Typed w0 w.heap.size 27 by rw [hw0]; exact ⟨_, _, ((Fr.refl (fun _ => False) _).alloc _).blk (heap_alloc_new w _) (fun q => q)⟩)
  have HT0 := Lib.hid (show ToldAt w0 (w.heap.size + 1) by rw [hw0]; exact ToldAt.new2 w _)
  have HY := Lib.hid (hY.fr0 hF0)
  have HF0 := Lib.hid hF0
  have HI := Lib.hid hi
  have HJ := Lib.hid hj
  have HAP := Lib.hid hap
  have HW0 := Lib.hid hw0
  clear hC hi hj hrt hY hF0 y0 hrc hw0 hap
  have HE := Lib.hid ((HF0.out.cell (World.block_lt_of_cell? _ _ he) (fun q => q)).trans he)
  clear he
  go_enter Tryz.func28, Tryz.ntmps28
  go_wp2_with fail
  rw [← HW0.out]
  go_quiet ((go_at_call 24; exact Calls.quiet_of_same (among_yes j bs.length hjl _)))
  go_wp2_with fail
  go_region_held3 (fun w' => w'.cell? ⟨yb, 0, none⟩ = some (.slice (some ⟨rb, 0, none⟩) bs.length cp) ∧ w'.cell? ⟨rb, j, none⟩ = some (.pointer (some ⟨b2, 0, none⟩)) ∧ w'.cell? ⟨w.heap.size, 2, none⟩ = some (.int .i64 (j : Int))) (go_keep) ((go_at_call 61; refine (readFrom_buf _ b g b2 g2 ea ((HY.out.fr0 ((Fr.refl (fun _ => False) w0).drewN _)).bufAt HI.out) ((HY.out.fr0 ((Fr.refl (fun _ => False) w0).drewN _)).bufAt HJ.out) HAP.out (((((Fr.refl (fun _ => False) w0).drewN _)).cell (World.block_lt_of_cell? _ _ HE.out) (fun q => q)).trans HE.out) hsz).mono ?_; rintro e w1 ⟨g', g2', rfl, B1, B2, hrow, hrow2, hE, hS, F1⟩; have S2 := (HY.out.fr0 ((Fr.refl (fun _ => False) w0).drewN _)).two HI.out HJ.out hij B1 B2 hrow hrow2 F1; have hR : g'.txt = g.txt ++ g2.txt ∧ g2'.txt = [] := ⟨hE, hS⟩; clear B1 B2 hrow hrow2 hE hS F1; have hK := YardStep.kept S2 ((Fr.refl (fun _ => False) w0).drewN _); have p0 := hK yb 0 69 HTY.out (by decide) (by decide) (by decide) _ y1; have p1 := hK rb j 70 HTR.out (by decide) (by decide) (by decide) _ r1; have p2 := hK w.heap.size 2 27 HTC.out (by decide) (by decide) (by decide) _ e2; have hT : ToldAt w1 (w.heap.size + 1) := S2.told (HT0.out.fr ((Fr.refl (fun _ => False) w0).drewN _) (fun q => q)); have HS := Lib.hid (YardStep.late S2 ((Fr.refl (fun _ => False) w0).drewN _)); have HR := Lib.hid hR; clear S2 hK hR))
  have t0 := hT.c0; have t1 := hT.c1; have t2 := hT.c2; have t3 := hT.c3; have z0 := hT.f 0; have z1 := hT.f 1; have z2 := hT.f 2; have z3 := hT.f 3
  have HT := Lib.hid hT
  clear hT
  go_wp2_with fail
  refine (said_nil _).mono ?_
  rintro e w2 ⟨rfl, rfl⟩
  go_wp2_with fail
  refine bodyPost_ret (v := Td.val ⟨g2.txt.length, [], 0, 0⟩) (by simp [results, Tryz.results28, go_sem, t0, t1, t2, t3, Td.val, Td.cells]) rfl ?_
  exact ⟨_, _, rfl, HS.out.skip HF0.out (by omega) HT.out (just4 _ _ _ _ _ _), HR.out⟩
set_option maxHeartbeats 1600000 in
set_option maxRecDepth 100000 in
theorem call_g (op : Int) (hop : op = 23 ∨ op = 24) (w : World) (base yb i b j b2 : Nat) (g : Gh) (bs : List (Nat × Gh)) (ds : List (Nat × BG)) (tn : Int) (tt : List UInt8) (tc ts : Int) (R : Gh → Gh → Prop) (hY : YardAt w base yb bs ds) (hi : bs[i]? = some (b, g))
    (hc : ∀ w1, Fr (fun _ => False) w w1 → Calls Tryz.prog 28 #[.pointer (some ⟨yb, 0, none⟩), .pointer (some ⟨b, 0, none⟩), .agg #[.int .i64 op, .int .i64 (i : Int), .int .i64 (j : Int), .int .u16 (size : Int), .int .i64 n, .int .u8 (sign.toNat : Int), .int .i32 char, .string ⟨text.toArray⟩, .slice ad cuts.length cap]] w1 (GPost w1 base yb bs ds i b j b2 ⟨tn, tt, tc, ts⟩ R)) :
    Calls Tryz.prog 14 #[.pointer (some ⟨yb, 0, none⟩), .agg #[.int .i64 op, .int .i64 (i : Int), .int .i64 (j : Int), .int .u16 (size : Int), .int .i64 n, .int .u8 (sign.toNat : Int), .int .i32 char, .string ⟨text.toArray⟩, .slice ad cuts.length cap]] w (GPost w base yb bs ds i b j b2 ⟨tn, tt, tc, ts⟩ R) := by
  obtain ⟨A, cp, A', cp', lab, hC⟩ := hY
  obtain ⟨rb, rfl, hrt, hrc⟩ := hC.bp i _ hi
  have hil : i < bs.length := (List.getElem?_eq_some_iff.1 hi).1
  have y0 : w.cell? ⟨yb, 0, none⟩ = some (.slice (some ⟨rb, 0, none⟩) bs.length cp) := by rw [cell_of_row w yb 0 _ _ _ hC.st]; rfl
  have hi0 : (0 : Int) ≤ (i : Int) := by omega
  have hi1 : (i : Int) < (bs.length : Int) := by omega
  simp only at hrc
  have hY : YardAt w base yb bs ds := ⟨_, _, _, _, _, hC⟩
  obtain ⟨w0, hw0⟩ : ∃ w0, w0 = ((w.alloc (.cells #[.int .i64 op, .int .i64 (i : Int), .int .i64 (j : Int), .int .u16 (size : Int), .int .i64 n, .int .u8 (sign.toNat : Int), .int .i32 char, .string ⟨text.toArray⟩, .slice ad cuts.length cap] 27)).alloc (.cells #[.int .i64 0, .string ⟨#[]⟩, .int .i32 0, .int .i64 0] 45)) := ⟨_, rfl⟩
  have hF0 : Fr (fun _ => False) w w0 := by rw [hw0]; exact (((Fr.refl (fun _ => False) w).alloc _).alloc _)
  have e0 : w0.cell? ⟨w.heap.size, 0, none⟩ = some (.int .i64 op) := by rw [hw0]; simp
  have e1 : w0.cell? ⟨w.heap.size, 1, none⟩ = some (.int .i64 (i : Int)) := by rw [hw0]; simp
  have e2 : w0.cell? ⟨w.heap.size, 2, none⟩ = some (.int .i64 (j : Int)) := by rw [hw0]; simp
  have e3 : w0.cell? ⟨w.heap.size, 3, none⟩ = some (.int .u16 (size : Int)) := by rw [hw0]; simp
  have e4 : w0.cell? ⟨w.heap.size, 4, none⟩ = some (.int .i64 n) := by rw [hw0]; simp
  have e5 : w0.cell? ⟨w.heap.size, 5, none⟩ = some (.int .u8 (sign.toNat : Int)) := by rw [hw0]; simp
  have e6 : w0.cell? ⟨w.heap.size, 6, none⟩ = some (.int .i32 char) := by rw [hw0]; simp
  have e7 : w0.cell? ⟨w.heap.size, 7, none⟩ = some (.string ⟨text.toArray⟩) := by rw [hw0]; simp
  have e8 : w0.cell? ⟨w.heap.size, 8, none⟩ = some (.slice ad cuts.length cap) := by rw [hw0]; simp
  have y1 : w0.cell? ⟨yb, 0, none⟩ = some (.slice (some ⟨rb, 0, none⟩) bs.length cp) := (hF0.cell (World.block_lt_of_cell? _ _ y0) (fun q => q)).trans y0
  have r1 : w0.cell? ⟨rb, i, none⟩ = some (.pointer (some ⟨b, 0, none⟩)) := (hF0.cell (World.block_lt_of_cell? _ _ hrc) (fun q => q)).trans hrc
  have HT0 := Lib.hid (show ToldAt w0 (w.heap.size + 1) by rw [hw0]; exact ToldAt.new2 w _)
  have HY := Lib.hid (hY.fr0 hF0)
  have HF0 := Lib.hid hF0
  have HC := Lib.hid hc
  have HW0 := Lib.hid hw0
  clear hC hc hrt hY hF0 y0 hrc hw0
  rcases hop with rfl | rfl
  all_goals
    go_enter Tryz.func14, Tryz.ntmps14
    go_wp2_with fail
    rw [← HW0.out]
    go_quiet ((go_at_call 24; exact Calls.quiet_of_same (among_yes i bs.length hil _)))
    go_wp2_with fail
    go_quiet (fail)
    go_wp2_with fail
    refine (HC.out _ (HF0.out.drewN _)).mono ?_
    rintro e w1 ⟨g', g2', rfl, S2, hR⟩
    have hT : ToldAt w1 (w.heap.size + 1) := S2.told (HT0.out.fr ((Fr.refl (fun _ => False) w0).drewN _) (fun q => q))
    have t0 := hT.c0; have t1 := hT.c1; have t2 := hT.c2; have t3 := hT.c3; have z0 := hT.f 0; have z1 := hT.f 1; have z2 := hT.f 2; have z3 := hT.f 3
    have HT := Lib.hid hT
    have HS := Lib.hid S2
    have HR := Lib.hid hR
    clear hT S2 hR
    simp only [Td.val, Td.cells]
    go_wp2_with fail
    refine bodyPost_ret (v := Td.val ⟨tn, tt, tc, ts⟩) (by simp [results, Tryz.results14, go_sem, t0, t1, t2, t3, Td.val, Td.cells]) rfl ?_
    exact ⟨g', g2', rfl, HS.out.skip (HF0.out.drewN _) (by omega) HT.out (just4 _ _ _ _ _ _), HR.out⟩
end
end Go.Proofs.YtkggebhkjgjijaaGreatDoor
