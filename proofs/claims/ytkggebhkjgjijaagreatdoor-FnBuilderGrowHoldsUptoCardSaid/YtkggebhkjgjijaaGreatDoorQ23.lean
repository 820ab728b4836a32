/- Do. -/
import Derived.Test.YtkggebhkjgjijaaGreatDoorQ22
namespace Go.Proofs.YtkggebhkjgjijaaGreatDoor
open Go Go.RowKit

/-- What is known of a call's numbers. -/
structure ClOk (w : World) (c : Cl) : Prop where
  size : c.size ≤ 65535
  cuts : U16s w c.ad c.cuts
  few : c.cuts.length ≤ 1073741824
  text : c.text.length ≤ 2147483647
theorem ClOk.fr {w w' : World} {c : Cl} (h : ClOk w c) (hf : Fr (fun _ => False) w w') : ClOk w' c := ⟨h.size, h.cuts.fr hf (fun _ _ _ q => q), h.few, h.text⟩

/-- The yard behind a call of the buffer number i. -/
def SBPost (w : World) (base yb : Nat) (bs : List (Nat × Gh)) (ds : List (Nat × BG)) (i b : Nat) (s : SB) (c : Cl) (e : Ending) (w' : World) : Prop :=
  ∃ g', e = .returned (s.do c).2.1.val ∧ YardStep w base yb w' (bs.set i (b, g')) ds ∧ BRel g' (s.do c).1

theorem YardAt.bufAt {w : World} {base yb i b : Nat} {g : Gh} {bs : List (Nat × Gh)} {ds : List (Nat × BG)} (hY : YardAt w base yb bs ds) (hi : bs[i]? = some (b, g)) : BufAt w b g := by
  obtain ⟨_, _, _, _, _, hC⟩ := hY
  exact hC.ba i _ hi
theorem YardAt.bldAt {w : World} {base yb i b : Nat} {g : BG} {bs : List (Nat × Gh)} {ds : List (Nat × BG)} (hY : YardAt w base yb bs ds) (hi : ds[i]? = some (b, g)) : BldAt w b g := by
  obtain ⟨_, _, _, _, _, hC⟩ := hY
  exact hC.da i _ hi
theorem YardAt.bw {w : World} {base yb : Nat} {bs : List (Nat × Gh)} {ds : List (Nat × BG)} (hY : YardAt w base yb bs ds) : base ≤ w.heap.size := by
  obtain ⟨_, _, _, _, _, hC⟩ := hY
  exact hC.bw
theorem Gl.fr0 {base : Nat} {ea eu : Addr} {w w' : World} (h : Gl base ea eu w) (hb : base ≤ w.heap.size) (hf : Fr (fun _ => False) w w') : Gl base ea eu w' := h.fr hb hf (fun _ _ q => q)

theorem txt_poke (g : Gh) (k : Nat) (x : UInt8) (hl : g.len ≤ g.all.length) (hk : k < g.txt.length) : ({ g with all := g.all.set (g.off + k) x } : Gh).txt = g.txt.take k ++ x :: g.txt.drop (k + 1) := by
  have htl := g.txt_length hl
  have e : ({ g with all := g.all.set (g.off + k) x } : Gh).txt = g.txt.set k x := by
    simp only [Gh.txt]
    rw [List.take_set, List.drop_set, if_neg (by omega), Nat.add_sub_cancel_left]
  rw [e, List.set_eq_take_append_cons_drop, if_pos hk]


theorem do_1 (w : World) (base yb i b : Nat) (g : Gh) (bs : List (Nat × Gh)) (ds : List (Nat × BG)) (s : SB) (c : Cl) (ea eu : Addr) (hY : YardAt w base yb bs ds) (hi : bs[i]? = some (b, g)) (hrel : BRel g s) (ha : c.a = (i : Int)) (_hok : ClOk w c) (_hsz : g.txt.length + c.text.length + 66000 ≤ 1099511627776) (_hG : Gl base ea eu w) (hop : c.op = 1) : Calls Tryz.prog 14 #[.pointer (some ⟨yb, 0, none⟩), c.val] w (SBPost w base yb bs ds i b s c) := by
  have hB := hY.bufAt hi
  have hbw := hY.bw
  have hol := hB.ol
  have htl := g.txt_length hB.lc
  have htx := hrel.txt
  have hlx : s.text.length = g.len - g.off := by rw [← htx]; exact htl
  rw [htx] at _hsz
  have e : s.do c = (s.write c.text, Td.ofN c.text.length, true) := by simp [SB.do, hop]
  unfold SBPost
  rw [e]
  unfold Cl.val Cl.cells
  rw [hop, ha]
  refine (call_w c.b c.size c.n c.sign c.char c.text c.cuts c.ad c.cap 1 (by simp) w base yb i b g bs ds _ _ _ _ (Wrote g c.text) hY hi (fun w1 hf => write_1 (i : Int) c.b c.size c.n c.sign c.char c.text c.cuts c.ad c.cap b g w1 (hB.fr hf (fun _ _ q => q)) (by rw [htx]; omega))).mono ?_
  rintro e w' ⟨g', rfl, S, hR⟩
  refine ⟨g', by first | rfl | (rw [htx]; done) | (rw [htx]; rfl), S, ?_⟩
  exact hrel.write hR.txt hR.lr
theorem do_2 (w : World) (base yb i b : Nat) (g : Gh) (bs : List (Nat × Gh)) (ds : List (Nat × BG)) (s : SB) (c : Cl) (ea eu : Addr) (hY : YardAt w base yb bs ds) (hi : bs[i]? = some (b, g)) (hrel : BRel g s) (ha : c.a = (i : Int)) (_hok : ClOk w c) (_hsz : g.txt.length + c.text.length + 66000 ≤ 1099511627776) (_hG : Gl base ea eu w) (hop : c.op = 2) : Calls Tryz.prog 14 #[.pointer (some ⟨yb, 0, none⟩), c.val] w (SBPost w base yb bs ds i b s c) := by
  have hB := hY.bufAt hi
  have hbw := hY.bw
  have hol := hB.ol
  have htl := g.txt_length hB.lc
  have htx := hrel.txt
  have hlx : s.text.length = g.len - g.off := by rw [← htx]; exact htl
  rw [htx] at _hsz
  have e : s.do c = (s.write c.text, Td.ofN c.text.length, true) := by simp [SB.do, hop]
  unfold SBPost
  rw [e]
  unfold Cl.val Cl.cells
  rw [hop, ha]
  refine (call_w c.b c.size c.n c.sign c.char c.text c.cuts c.ad c.cap 2 (by simp) w base yb i b g bs ds _ _ _ _ (Wrote g c.text) hY hi (fun w1 hf => write_2 (i : Int) c.b c.size c.n c.sign c.char c.text c.cuts c.ad c.cap b g w1 (hB.fr hf (fun _ _ q => q)) (by rw [htx]; omega))).mono ?_
  rintro e w' ⟨g', rfl, S, hR⟩
  refine ⟨g', by first | rfl | (rw [htx]; done) | (rw [htx]; rfl), S, ?_⟩
  exact hrel.write hR.txt hR.lr
theorem do_3 (w : World) (base yb i b : Nat) (g : Gh) (bs : List (Nat × Gh)) (ds : List (Nat × BG)) (s : SB) (c : Cl) (ea eu : Addr) (hY : YardAt w base yb bs ds) (hi : bs[i]? = some (b, g)) (hrel : BRel g s) (ha : c.a = (i : Int)) (_hok : ClOk w c) (_hsz : g.txt.length + c.text.length + 66000 ≤ 1099511627776) (_hG : Gl base ea eu w) (hop : c.op = 3) : Calls Tryz.prog 14 #[.pointer (some ⟨yb, 0, none⟩), c.val] w (SBPost w base yb bs ds i b s c) := by
  have hB := hY.bufAt hi
  have hbw := hY.bw
  have hol := hB.ol
  have htl := g.txt_length hB.lc
  have htx := hrel.txt
  have hlx : s.text.length = g.len - g.off := by rw [← htx]; exact htl
  rw [htx] at _hsz
  have e : s.do c = (s.write [c.sign], Td.zero, true) := by simp [SB.do, hop]
  unfold SBPost
  rw [e]
  unfold Cl.val Cl.cells
  rw [hop, ha]
  refine (call_w c.b c.size c.n c.sign c.char c.text c.cuts c.ad c.cap 3 (by simp) w base yb i b g bs ds _ _ _ _ (Wrote g [c.sign]) hY hi (fun w1 hf => write_3 (i : Int) c.b c.size c.n c.sign c.char c.text c.cuts c.ad c.cap b g w1 (hB.fr hf (fun _ _ q => q)) (by rw [htx]; omega))).mono ?_
  rintro e w' ⟨g', rfl, S, hR⟩
  refine ⟨g', by first | rfl | (rw [htx]; done) | (rw [htx]; rfl), S, ?_⟩
  exact hrel.write hR.txt hR.lr
theorem do_4 (w : World) (base yb i b : Nat) (g : Gh) (bs : List (Nat × Gh)) (ds : List (Nat × BG)) (s : SB) (c : Cl) (ea eu : Addr) (hY : YardAt w base yb bs ds) (hi : bs[i]? = some (b, g)) (hrel : BRel g s) (ha : c.a = (i : Int)) (_hok : ClOk w c) (_hsz : g.txt.length + c.text.length + 66000 ≤ 1099511627776) (_hG : Gl base ea eu w) (hop : c.op = 4) (hgood : ¬ badRune c.char) : Calls Tryz.prog 14 #[.pointer (some ⟨yb, 0, none⟩), c.val] w (SBPost w base yb bs ds i b s c) := by
  have hB := hY.bufAt hi
  have hbw := hY.bw
  have hol := hB.ol
  have htl := g.txt_length hB.lc
  have htx := hrel.txt
  have hlx : s.text.length = g.len - g.off := by rw [← htx]; exact htl
  rw [htx] at _hsz
  have e : s.do c = (s.write (enc c.char), Td.ofN (enc c.char).length, decide (enc c.char ≠ [])) := by simp [SB.do, hop]
  unfold SBPost
  rw [e]
  unfold Cl.val Cl.cells
  rw [hop, ha]
  refine (call_w c.b c.size c.n c.sign c.char c.text c.cuts c.ad c.cap 4 (by simp) w base yb i b g bs ds _ _ _ _ (Wrote0 g (enc c.char)) hY hi (fun w1 hf => write_4 (i : Int) c.b c.size c.n c.sign c.char c.text c.cuts c.ad c.cap b g w1 (hB.fr hf (fun _ _ q => q)) hgood (by rw [htx]; omega))).mono ?_
  rintro e w' ⟨g', rfl, S, hR⟩
  refine ⟨g', by first | rfl | (rw [htx]; done) | (rw [htx]; rfl), S, ?_⟩
  exact hrel.write hR.txt hR.lr
theorem do_5 (w : World) (base yb i b : Nat) (g : Gh) (bs : List (Nat × Gh)) (ds : List (Nat × BG)) (s : SB) (c : Cl) (ea eu : Addr) (hY : YardAt w base yb bs ds) (hi : bs[i]? = some (b, g)) (hrel : BRel g s) (ha : c.a = (i : Int)) (_hok : ClOk w c) (_hsz : g.txt.length + c.text.length + 66000 ≤ 1099511627776) (_hG : Gl base ea eu w) (hop : c.op = 5) : Calls Tryz.prog 14 #[.pointer (some ⟨yb, 0, none⟩), c.val] w (SBPost w base yb bs ds i b s c) := by
  have hB := hY.bufAt hi
  have hbw := hY.bw
  have hol := hB.ol
  have htl := g.txt_length hB.lc
  have htx := hrel.txt
  have hlx : s.text.length = g.len - g.off := by rw [← htx]; exact htl
  rw [htx] at _hsz
  have e : s.do c = (s.write c.text, Td.ofN c.text.length, true) := by simp [SB.do, hop]
  unfold SBPost
  rw [e]
  unfold Cl.val Cl.cells
  rw [hop, ha]
  refine (call_w c.b c.size c.n c.sign c.char c.text c.cuts c.ad c.cap 5 (by simp) w base yb i b g bs ds _ _ _ _ (Wrote0 g c.text) hY hi (fun w1 hf => write_5 (i : Int) c.b c.size c.n c.sign c.char c.text c.cuts c.ad c.cap b g w1 (hB.fr hf (fun _ _ q => q)) (by rw [htx]; omega))).mono ?_
  rintro e w' ⟨g', rfl, S, hR⟩
  refine ⟨g', by first | rfl | (rw [htx]; done) | (rw [htx]; rfl), S, ?_⟩
  exact hrel.write hR.txt hR.lr
theorem do_6e (w : World) (base yb i b : Nat) (g : Gh) (bs : List (Nat × Gh)) (ds : List (Nat × BG)) (s : SB) (c : Cl) (ea eu : Addr) (hY : YardAt w base yb bs ds) (hi : bs[i]? = some (b, g)) (hrel : BRel g s) (ha : c.a = (i : Int)) (hok : ClOk w c) (_hsz : g.txt.length + c.text.length + 66000 ≤ 1099511627776) (hG : Gl base ea eu w) (hop : c.op = 6) (ht : s.text = []) (hp : 0 < c.size) : Calls Tryz.prog 14 #[.pointer (some ⟨yb, 0, none⟩), c.val] w (SBPost w base yb bs ds i b s c) := by
  have hB := hY.bufAt hi
  have hbw := hY.bw
  have hol := hB.ol
  have htl := g.txt_length hB.lc
  have htx := hrel.txt
  have hlx : s.text.length = g.len - g.off := by rw [← htx]; exact htl
  rw [htx] at _hsz
  have e : s.do c = (s.read 0 1, Td.said' 1, true) := by simp [SB.do, SB.reads, hop, ht, hp]
  unfold SBPost
  rw [e]
  unfold Cl.val Cl.cells
  rw [hop, ha]
  refine (call_r c.b c.size c.n c.sign c.char c.text c.cuts c.ad c.cap 6 (by simp) w base yb i b g bs ds _ _ _ _ (fun g' => g' = g.rs) hY hi (fun w1 hf => read_6e (i : Int) c.b c.size c.n c.sign c.char c.text c.cuts c.ad c.cap b g w1 (hB.fr hf (fun _ _ q => q)) hok.size hp (by rw [htx, ht]) ea ((hG.fr0 hbw hf).eof))).mono ?_
  rintro e w' ⟨g', rfl, S, hR⟩
  refine ⟨g', by first | rfl | (rw [htx]; done) | (rw [htx]; rfl), S, ?_⟩
  subst hR
  exact (hrel.read0 1 (by rw [g.rs_txt, htx, ht]) rfl : BRel g.rs (s.read 0 1))
theorem do_6z (w : World) (base yb i b : Nat) (g : Gh) (bs : List (Nat × Gh)) (ds : List (Nat × BG)) (s : SB) (c : Cl) (ea eu : Addr) (hY : YardAt w base yb bs ds) (hi : bs[i]? = some (b, g)) (hrel : BRel g s) (ha : c.a = (i : Int)) (hok : ClOk w c) (_hsz : g.txt.length + c.text.length + 66000 ≤ 1099511627776) (_hG : Gl base ea eu w) (hop : c.op = 6) (ht : s.text = []) (hp : c.size = 0) : Calls Tryz.prog 14 #[.pointer (some ⟨yb, 0, none⟩), c.val] w (SBPost w base yb bs ds i b s c) := by
  have hB := hY.bufAt hi
  have hbw := hY.bw
  have hol := hB.ol
  have htl := g.txt_length hB.lc
  have htx := hrel.txt
  have hlx : s.text.length = g.len - g.off := by rw [← htx]; exact htl
  rw [htx] at _hsz
  have e : s.do c = (s.read 0 1, Td.zero, true) := by simp [SB.do, SB.reads, hop, ht, hp, Td.zero]
  unfold SBPost
  rw [e]
  unfold Cl.val Cl.cells
  rw [hop, ha]
  refine (call_r c.b c.size c.n c.sign c.char c.text c.cuts c.ad c.cap 6 (by simp) w base yb i b g bs ds _ _ _ _ (fun g' => g' = g.rs) hY hi (fun w1 hf => read_6z (i : Int) c.b c.size c.n c.sign c.char c.text c.cuts c.ad c.cap b g w1 (hB.fr hf (fun _ _ q => q)) hok.size hp (by rw [htx, ht]))).mono ?_
  rintro e w' ⟨g', rfl, S, hR⟩
  refine ⟨g', by first | rfl | (rw [htx]; done) | (rw [htx]; rfl), S, ?_⟩
  subst hR
  exact (hrel.read0 1 (by rw [g.rs_txt, htx, ht]) rfl : BRel g.rs (s.read 0 1))
theorem do_6 (w : World) (base yb i b : Nat) (g : Gh) (bs : List (Nat × Gh)) (ds : List (Nat × BG)) (s : SB) (c : Cl) (ea eu : Addr) (hY : YardAt w base yb bs ds) (hi : bs[i]? = some (b, g)) (hrel : BRel g s) (ha : c.a = (i : Int)) (hok : ClOk w c) (_hsz : g.txt.length + c.text.length + 66000 ≤ 1099511627776) (_hG : Gl base ea eu w) (hop : c.op = 6) (ht : s.text ≠ []) : Calls Tryz.prog 14 #[.pointer (some ⟨yb, 0, none⟩), c.val] w (SBPost w base yb bs ds i b s c) := by
  have hB := hY.bufAt hi
  have hbw := hY.bw
  have hol := hB.ol
  have htl := g.txt_length hB.lc
  have htx := hrel.txt
  have hlx : s.text.length = g.len - g.off := by rw [← htx]; exact htl
  rw [htx] at _hsz
  have e : s.do c = (s.read (min c.size s.text.length) 1, ⟨((min c.size s.text.length : Nat) : Int), s.text.take c.size, 0, 0⟩, true) := by simp [SB.do, SB.reads, hop, ht, ← List.take_eq_take_min]
  unfold SBPost
  rw [e]
  unfold Cl.val Cl.cells
  rw [hop, ha]
  refine (call_r c.b c.size c.n c.sign c.char c.text c.cuts c.ad c.cap 6 (by simp) w base yb i b g bs ds _ _ _ _ (fun g' => g' = g.rd (min c.size s.text.length)) hY hi (fun w1 hf => read_6 (i : Int) c.b c.size c.n c.sign c.char c.text c.cuts c.ad c.cap b g w1 (hB.fr hf (fun _ _ q => q)) hok.size (min c.size s.text.length) (by rw [htx, Nat.min_comm]) (by rw [htx]; exact ht))).mono ?_
  rintro e w' ⟨g', rfl, S, hR⟩
  refine ⟨g', by first | rfl | (rw [htx]; done) | (rw [htx]; rfl), S, ?_⟩
  subst hR
  by_cases h0 : min c.size s.text.length = 0
  · rw [h0]
    exact (hrel.read0 1 (by simp [Gh.rd_txt]) (by simp [Gh.rd]) : BRel (g.rd 0) (s.read 0 1))
  · exact hrel.read1 hB.lc (by omega) (by rw [htx]; omega) rfl rfl rfl (by simp only [Gh.rd, h0, if_false])
theorem do_7 (w : World) (base yb i b : Nat) (g : Gh) (bs : List (Nat × Gh)) (ds : List (Nat × BG)) (s : SB) (c : Cl) (ea eu : Addr) (hY : YardAt w base yb bs ds) (hi : bs[i]? = some (b, g)) (hrel : BRel g s) (ha : c.a = (i : Int)) (hok : ClOk w c) (_hsz : g.txt.length + c.text.length + 66000 ≤ 1099511627776) (_hG : Gl base ea eu w) (hop : c.op = 7) : Calls Tryz.prog 14 #[.pointer (some ⟨yb, 0, none⟩), c.val] w (SBPost w base yb bs ds i b s c) := by
  have hB := hY.bufAt hi
  have hbw := hY.bw
  have hol := hB.ol
  have htl := g.txt_length hB.lc
  have htx := hrel.txt
  have hlx : s.text.length = g.len - g.off := by rw [← htx]; exact htl
  rw [htx] at _hsz
  have e : s.do c = (s.read (min c.size s.text.length) 1, Td.ofText (s.text.take (min c.size s.text.length)), true) := by simp [SB.do, SB.reads, hop]
  unfold SBPost
  rw [e]
  unfold Cl.val Cl.cells
  rw [hop, ha]
  refine (call_r c.b c.size c.n c.sign c.char c.text c.cuts c.ad c.cap 7 (by simp) w base yb i b g bs ds _ _ _ _ (fun g' => g' = g.rd (min c.size s.text.length)) hY hi (fun w1 hf => read_7 (i : Int) c.b c.size c.n c.sign c.char c.text c.cuts c.ad c.cap b g w1 (hB.fr hf (fun _ _ q => q)) (min c.size s.text.length) s.text.length (by omega) rfl hok.size)).mono ?_
  rintro e w' ⟨g', rfl, S, hR⟩
  refine ⟨g', by first | rfl | (rw [htx]; done) | (rw [htx]; rfl), S, ?_⟩
  subst hR
  by_cases h0 : min c.size s.text.length = 0
  · rw [h0]
    exact (hrel.read0 1 (by simp [Gh.rd_txt]) (by simp [Gh.rd]) : BRel (g.rd 0) (s.read 0 1))
  · exact hrel.read1 hB.lc (by omega) (by rw [htx]; omega) rfl rfl rfl (by simp only [Gh.rd, h0, if_false])
theorem do_8e (w : World) (base yb i b : Nat) (g : Gh) (bs : List (Nat × Gh)) (ds : List (Nat × BG)) (s : SB) (c : Cl) (ea eu : Addr) (hY : YardAt w base yb bs ds) (hi : bs[i]? = some (b, g)) (hrel : BRel g s) (ha : c.a = (i : Int)) (_hok : ClOk w c) (_hsz : g.txt.length + c.text.length + 66000 ≤ 1099511627776) (hG : Gl base ea eu w) (hop : c.op = 8) (ht : s.text = []) : Calls Tryz.prog 14 #[.pointer (some ⟨yb, 0, none⟩), c.val] w (SBPost w base yb bs ds i b s c) := by
  have hB := hY.bufAt hi
  have hbw := hY.bw
  have hol := hB.ol
  have htl := g.txt_length hB.lc
  have htx := hrel.txt
  have hlx : s.text.length = g.len - g.off := by rw [← htx]; exact htl
  rw [htx] at _hsz
  have e : s.do c = (s.read 0 1, Td.said' 1, true) := by simp [SB.do, SB.reads, hop, ht]
  unfold SBPost
  rw [e]
  unfold Cl.val Cl.cells
  rw [hop, ha]
  refine (call_r c.b c.size c.n c.sign c.char c.text c.cuts c.ad c.cap 8 (by simp) w base yb i b g bs ds _ _ _ _ (fun g' => g' = g.rs) hY hi (fun w1 hf => read_8e (i : Int) c.b c.size c.n c.sign c.char c.text c.cuts c.ad c.cap b g w1 (hB.fr hf (fun _ _ q => q)) (by rw [htx, ht]) ea ((hG.fr0 hbw hf).eof))).mono ?_
  rintro e w' ⟨g', rfl, S, hR⟩
  refine ⟨g', by first | rfl | (rw [htx]; done) | (rw [htx]; rfl), S, ?_⟩
  subst hR
  exact (hrel.read0 1 (by rw [g.rs_txt, htx, ht]) rfl : BRel g.rs (s.read 0 1))
theorem do_8 (w : World) (base yb i b : Nat) (g : Gh) (bs : List (Nat × Gh)) (ds : List (Nat × BG)) (s : SB) (c : Cl) (ea eu : Addr) (hY : YardAt w base yb bs ds) (hi : bs[i]? = some (b, g)) (hrel : BRel g s) (ha : c.a = (i : Int)) (_hok : ClOk w c) (_hsz : g.txt.length + c.text.length + 66000 ≤ 1099511627776) (_hG : Gl base ea eu w) (hop : c.op = 8) (x : UInt8) (l : List UInt8) (ht : s.text = x :: l) : Calls Tryz.prog 14 #[.pointer (some ⟨yb, 0, none⟩), c.val] w (SBPost w base yb bs ds i b s c) := by
  have hB := hY.bufAt hi
  have hbw := hY.bw
  have hol := hB.ol
  have htl := g.txt_length hB.lc
  have htx := hrel.txt
  have hlx : s.text.length = g.len - g.off := by rw [← htx]; exact htl
  rw [htx] at _hsz
  have e : s.do c = (s.read 1 1, ⟨0, [], x.toNat, 0⟩, true) := by simp [SB.do, SB.reads, hop, ht]
  unfold SBPost
  rw [e]
  unfold Cl.val Cl.cells
  rw [hop, ha]
  refine (call_r c.b c.size c.n c.sign c.char c.text c.cuts c.ad c.cap 8 (by simp) w base yb i b g bs ds _ _ _ _ (fun g' => g' = g.rd 1) hY hi (fun w1 hf => read_8 (i : Int) c.b c.size c.n c.sign c.char c.text c.cuts c.ad c.cap b g w1 (hB.fr hf (fun _ _ q => q)) x l (by rw [htx, ht]))).mono ?_
  rintro e w' ⟨g', rfl, S, hR⟩
  refine ⟨g', by first | rfl | (rw [htx]; done) | (rw [htx]; rfl), S, ?_⟩
  subst hR
  exact (hrel.read1 (k := 1) hB.lc (by decide) (by rw [htx, ht]; simp) rfl rfl rfl (by simp [Gh.rd]) : BRel (g.rd 1) (s.read 1 1))
theorem do_9 (w : World) (base yb i b : Nat) (g : Gh) (bs : List (Nat × Gh)) (ds : List (Nat × BG)) (s : SB) (c : Cl) (ea eu : Addr) (hY : YardAt w base yb bs ds) (hi : bs[i]? = some (b, g)) (hrel : BRel g s) (ha : c.a = (i : Int)) (_hok : ClOk w c) (_hsz : g.txt.length + c.text.length + 66000 ≤ 1099511627776) (hG : Gl base ea eu w) (hop : c.op = 9) (k : Nat) (hk : upTo c.sign s.text = some k) : Calls Tryz.prog 14 #[.pointer (some ⟨yb, 0, none⟩), c.val] w (SBPost w base yb bs ds i b s c) := by
  have hB := hY.bufAt hi
  have hbw := hY.bw
  have hol := hB.ol
  have htl := g.txt_length hB.lc
  have htx := hrel.txt
  have hlx : s.text.length = g.len - g.off := by rw [← htx]; exact htl
  rw [htx] at _hsz
  have hkn : takeN c.sign g.txt = k := by rw [htx]; unfold takeN; rw [hk]; rfl
  have e : s.do c = (s.read k 1, Td.ofText (s.text.take k), true) := by simp [SB.do, SB.reads, hop, hk]
  unfold SBPost
  rw [e]
  unfold Cl.val Cl.cells
  rw [hop, ha]
  refine (call_r c.b c.size c.n c.sign c.char c.text c.cuts c.ad c.cap 9 (by simp) w base yb i b g bs ds _ _ _ _ (fun g' => g' = g.rl (takeN c.sign g.txt)) hY hi (fun w1 hf => read_9 (i : Int) c.b c.size c.n c.sign c.char c.text c.cuts c.ad c.cap b g w1 (hB.fr hf (fun _ _ q => q)) k (by rw [htx]; exact hk) (by rw [htx]; omega) ea ((hG.fr0 hbw hf).eof))).mono ?_
  rintro e w' ⟨g', rfl, S, hR⟩
  refine ⟨g', by rw [hkn, htx]; rfl, S, ?_⟩
  subst hR
  obtain ⟨_, k1, k2⟩ := upTo_some _ _ _ hk
  rw [hkn]
  exact hrel.read1 hB.lc (by omega) (by rw [htx]; omega) rfl rfl rfl rfl
theorem do_9n (w : World) (base yb i b : Nat) (g : Gh) (bs : List (Nat × Gh)) (ds : List (Nat × BG)) (s : SB) (c : Cl) (ea eu : Addr) (hY : YardAt w base yb bs ds) (hi : bs[i]? = some (b, g)) (hrel : BRel g s) (ha : c.a = (i : Int)) (_hok : ClOk w c) (_hsz : g.txt.length + c.text.length + 66000 ≤ 1099511627776) (hG : Gl base ea eu w) (hop : c.op = 9) (hk : upTo c.sign s.text = none) (ht : s.text ≠ []) : Calls Tryz.prog 14 #[.pointer (some ⟨yb, 0, none⟩), c.val] w (SBPost w base yb bs ds i b s c) := by
  have hB := hY.bufAt hi
  have hbw := hY.bw
  have hol := hB.ol
  have htl := g.txt_length hB.lc
  have htx := hrel.txt
  have hlx : s.text.length = g.len - g.off := by rw [← htx]; exact htl
  rw [htx] at _hsz
  have hkn : takeN c.sign g.txt = s.text.length := by rw [htx]; unfold takeN; rw [hk]; rfl
  have e : s.do c = (s.read s.text.length 5, ⟨0, s.text, 0, 1⟩, true) := by simp [SB.do, SB.reads, hop, hk, ht]
  unfold SBPost
  rw [e]
  unfold Cl.val Cl.cells
  rw [hop, ha]
  refine (call_r c.b c.size c.n c.sign c.char c.text c.cuts c.ad c.cap 9 (by simp) w base yb i b g bs ds _ _ _ _ (fun g' => g' = g.rl (takeN c.sign g.txt)) hY hi (fun w1 hf => read_9n (i : Int) c.b c.size c.n c.sign c.char c.text c.cuts c.ad c.cap b g w1 (hB.fr hf (fun _ _ q => q)) (by rw [htx]; exact hk) (by rw [htx]; omega) ea ((hG.fr0 hbw hf).eof))).mono ?_
  rintro e w' ⟨g', rfl, S, hR⟩
  refine ⟨g', by rw [hkn, htx, List.take_length], S, ?_⟩
  subst hR
  rw [hkn]
  exact hrel.read5 (List.length_pos_iff.2 ht) rfl rfl rfl rfl
theorem do_9e (w : World) (base yb i b : Nat) (g : Gh) (bs : List (Nat × Gh)) (ds : List (Nat × BG)) (s : SB) (c : Cl) (ea eu : Addr) (hY : YardAt w base yb bs ds) (hi : bs[i]? = some (b, g)) (hrel : BRel g s) (ha : c.a = (i : Int)) (_hok : ClOk w c) (_hsz : g.txt.length + c.text.length + 66000 ≤ 1099511627776) (hG : Gl base ea eu w) (hop : c.op = 9) (hk : upTo c.sign s.text = none) (ht : s.text = []) : Calls Tryz.prog 14 #[.pointer (some ⟨yb, 0, none⟩), c.val] w (SBPost w base yb bs ds i b s c) := by
  have hB := hY.bufAt hi
  have hbw := hY.bw
  have hol := hB.ol
  have htl := g.txt_length hB.lc
  have htx := hrel.txt
  have hlx : s.text.length = g.len - g.off := by rw [← htx]; exact htl
  rw [htx] at _hsz
  have e : s.do c = (⟨[], 5, [], true⟩, Td.said' 1, true) := by simp [SB.do, SB.reads, hop, ht, upTo]
  unfold SBPost
  rw [e]
  unfold Cl.val Cl.cells
  rw [hop, ha]
  refine (call_r c.b c.size c.n c.sign c.char c.text c.cuts c.ad c.cap 9 (by simp) w base yb i b g bs ds _ _ _ _ (fun g' => g' = g.rl (takeN c.sign g.txt)) hY hi (fun w1 hf => read_9n (i : Int) c.b c.size c.n c.sign c.char c.text c.cuts c.ad c.cap b g w1 (hB.fr hf (fun _ _ q => q)) (by rw [htx]; exact hk) (by rw [htx]; omega) ea ((hG.fr0 hbw hf).eof))).mono ?_
  rintro e w' ⟨g', rfl, S, hR⟩
  refine ⟨g', by simp [htx, ht, Td.said'], S, ?_⟩
  subst hR
  refine ⟨by rw [Gh.rl_txt, htx, ht]; simp, fun q => absurd q (by simp), fun q => absurd q (by simp), fun q => absurd q (by simp), fun _ => rfl, by simp⟩
theorem do_10 (w : World) (base yb i b : Nat) (g : Gh) (bs : List (Nat × Gh)) (ds : List (Nat × BG)) (s : SB) (c : Cl) (ea eu : Addr) (hY : YardAt w base yb bs ds) (hi : bs[i]? = some (b, g)) (hrel : BRel g s) (ha : c.a = (i : Int)) (_hok : ClOk w c) (_hsz : g.txt.length + c.text.length + 66000 ≤ 1099511627776) (hG : Gl base ea eu w) (hop : c.op = 10) (k : Nat) (hk : upTo c.sign s.text = some k) : Calls Tryz.prog 14 #[.pointer (some ⟨yb, 0, none⟩), c.val] w (SBPost w base yb bs ds i b s c) := by
  have hB := hY.bufAt hi
  have hbw := hY.bw
  have hol := hB.ol
  have htl := g.txt_length hB.lc
  have htx := hrel.txt
  have hlx : s.text.length = g.len - g.off := by rw [← htx]; exact htl
  rw [htx] at _hsz
  have hkn : takeN c.sign g.txt = k := by rw [htx]; unfold takeN; rw [hk]; rfl
  have e : s.do c = (s.read k 1, Td.ofText (s.text.take k), true) := by simp [SB.do, SB.reads, hop, hk]
  unfold SBPost
  rw [e]
  unfold Cl.val Cl.cells
  rw [hop, ha]
  refine (call_r c.b c.size c.n c.sign c.char c.text c.cuts c.ad c.cap 10 (by simp) w base yb i b g bs ds _ _ _ _ (fun g' => g' = g.rl (takeN c.sign g.txt)) hY hi (fun w1 hf => read_10 (i : Int) c.b c.size c.n c.sign c.char c.text c.cuts c.ad c.cap b g w1 (hB.fr hf (fun _ _ q => q)) k (by rw [htx]; exact hk) ea ((hG.fr0 hbw hf).eof))).mono ?_
  rintro e w' ⟨g', rfl, S, hR⟩
  refine ⟨g', by rw [hkn, htx]; rfl, S, ?_⟩
  subst hR
  obtain ⟨_, k1, k2⟩ := upTo_some _ _ _ hk
  rw [hkn]
  exact hrel.read1 hB.lc (by omega) (by rw [htx]; omega) rfl rfl rfl rfl
theorem do_10n (w : World) (base yb i b : Nat) (g : Gh) (bs : List (Nat × Gh)) (ds : List (Nat × BG)) (s : SB) (c : Cl) (ea eu : Addr) (hY : YardAt w base yb bs ds) (hi : bs[i]? = some (b, g)) (hrel : BRel g s) (ha : c.a = (i : Int)) (_hok : ClOk w c) (_hsz : g.txt.length + c.text.length + 66000 ≤ 1099511627776) (hG : Gl base ea eu w) (hop : c.op = 10) (hk : upTo c.sign s.text = none) (ht : s.text ≠ []) : Calls Tryz.prog 14 #[.pointer (some ⟨yb, 0, none⟩), c.val] w (SBPost w base yb bs ds i b s c) := by
  have hB := hY.bufAt hi
  have hbw := hY.bw
  have hol := hB.ol
  have htl := g.txt_length hB.lc
  have htx := hrel.txt
  have hlx : s.text.length = g.len - g.off := by rw [← htx]; exact htl
  rw [htx] at _hsz
  have hkn : takeN c.sign g.txt = s.text.length := by rw [htx]; unfold takeN; rw [hk]; rfl
  have e : s.do c = (s.read s.text.length 5, ⟨0, s.text, 0, 1⟩, true) := by simp [SB.do, SB.reads, hop, hk, ht]
  unfold SBPost
  rw [e]
  unfold Cl.val Cl.cells
  rw [hop, ha]
  refine (call_r c.b c.size c.n c.sign c.char c.text c.cuts c.ad c.cap 10 (by simp) w base yb i b g bs ds _ _ _ _ (fun g' => g' = g.rl (takeN c.sign g.txt)) hY hi (fun w1 hf => read_10n (i : Int) c.b c.size c.n c.sign c.char c.text c.cuts c.ad c.cap b g w1 (hB.fr hf (fun _ _ q => q)) (by rw [htx]; exact hk) ea ((hG.fr0 hbw hf).eof))).mono ?_
  rintro e w' ⟨g', rfl, S, hR⟩
  refine ⟨g', by rw [hkn, htx, List.take_length], S, ?_⟩
  subst hR
  rw [hkn]
  exact hrel.read5 (List.length_pos_iff.2 ht) rfl rfl rfl rfl
theorem do_10e (w : World) (base yb i b : Nat) (g : Gh) (bs : List (Nat × Gh)) (ds : List (Nat × BG)) (s : SB) (c : Cl) (ea eu : Addr) (hY : YardAt w base yb bs ds) (hi : bs[i]? = some (b, g)) (hrel : BRel g s) (ha : c.a = (i : Int)) (_hok : ClOk w c) (_hsz : g.txt.length + c.text.length + 66000 ≤ 1099511627776) (hG : Gl base ea eu w) (hop : c.op = 10) (hk : upTo c.sign s.text = none) (ht : s.text = []) : Calls Tryz.prog 14 #[.pointer (some ⟨yb, 0, none⟩), c.val] w (SBPost w base yb bs ds i b s c) := by
  have hB := hY.bufAt hi
  have hbw := hY.bw
  have hol := hB.ol
  have htl := g.txt_length hB.lc
  have htx := hrel.txt
  have hlx : s.text.length = g.len - g.off := by rw [← htx]; exact htl
  rw [htx] at _hsz
  have e : s.do c = (⟨[], 5, [], true⟩, Td.said' 1, true) := by simp [SB.do, SB.reads, hop, ht, upTo]
  unfold SBPost
  rw [e]
  unfold Cl.val Cl.cells
  rw [hop, ha]
  refine (call_r c.b c.size c.n c.sign c.char c.text c.cuts c.ad c.cap 10 (by simp) w base yb i b g bs ds _ _ _ _ (fun g' => g' = g.rl (takeN c.sign g.txt)) hY hi (fun w1 hf => read_10n (i : Int) c.b c.size c.n c.sign c.char c.text c.cuts c.ad c.cap b g w1 (hB.fr hf (fun _ _ q => q)) (by rw [htx]; exact hk) ea ((hG.fr0 hbw hf).eof))).mono ?_
  rintro e w' ⟨g', rfl, S, hR⟩
  refine ⟨g', by simp [htx, ht, Td.said'], S, ?_⟩
  subst hR
  refine ⟨by rw [Gh.rl_txt, htx, ht]; simp, fun q => absurd q (by simp), fun q => absurd q (by simp), fun q => absurd q (by simp), fun _ => rfl, by simp⟩
theorem do_11e (w : World) (base yb i b : Nat) (g : Gh) (bs : List (Nat × Gh)) (ds : List (Nat × BG)) (s : SB) (c : Cl) (ea eu : Addr) (hY : YardAt w base yb bs ds) (hi : bs[i]? = some (b, g)) (hrel : BRel g s) (ha : c.a = (i : Int)) (_hok : ClOk w c) (_hsz : g.txt.length + c.text.length + 66000 ≤ 1099511627776) (hG : Gl base ea eu w) (hop : c.op = 11) (ht : s.text = []) : Calls Tryz.prog 14 #[.pointer (some ⟨yb, 0, none⟩), c.val] w (SBPost w base yb bs ds i b s c) := by
  have hB := hY.bufAt hi
  have hbw := hY.bw
  have hol := hB.ol
  have htl := g.txt_length hB.lc
  have htx := hrel.txt
  have hlx : s.text.length = g.len - g.off := by rw [← htx]; exact htl
  rw [htx] at _hsz
  have e : s.do c = (s.read 0 2, Td.said' 1, true) := by simp [SB.do, SB.reads, hop, ht]
  unfold SBPost
  rw [e]
  unfold Cl.val Cl.cells
  rw [hop, ha]
  refine (call_r c.b c.size c.n c.sign c.char c.text c.cuts c.ad c.cap 11 (by simp) w base yb i b g bs ds _ _ _ _ (fun g' => g' = g.rs) hY hi (fun w1 hf => read_11e (i : Int) c.b c.size c.n c.sign c.char c.text c.cuts c.ad c.cap b g w1 (hB.fr hf (fun _ _ q => q)) (by rw [htx, ht]) ea ((hG.fr0 hbw hf).eof))).mono ?_
  rintro e w' ⟨g', rfl, S, hR⟩
  refine ⟨g', by first | rfl | (rw [htx]; done) | (rw [htx]; rfl), S, ?_⟩
  subst hR
  exact (hrel.read0 2 (by rw [g.rs_txt, htx, ht]) rfl : BRel g.rs (s.read 0 2))
theorem do_11 (w : World) (base yb i b : Nat) (g : Gh) (bs : List (Nat × Gh)) (ds : List (Nat × BG)) (s : SB) (c : Cl) (ea eu : Addr) (hY : YardAt w base yb bs ds) (hi : bs[i]? = some (b, g)) (hrel : BRel g s) (ha : c.a = (i : Int)) (_hok : ClOk w c) (_hsz : g.txt.length + c.text.length + 66000 ≤ 1099511627776) (hG : Gl base ea eu w) (hop : c.op = 11) (ht : s.text ≠ []) : Calls Tryz.prog 14 #[.pointer (some ⟨yb, 0, none⟩), c.val] w (SBPost w base yb bs ds i b s c) := by
  have hB := hY.bufAt hi
  have hbw := hY.bw
  have hol := hB.ol
  have htl := g.txt_length hB.lc
  have htx := hrel.txt
  have hlx : s.text.length = g.len - g.off := by rw [← htx]; exact htl
  rw [htx] at _hsz
  have e : s.do c = (s.read (dec s.text).2 2, ⟨(dec s.text).2, [], (dec s.text).1, 0⟩, true) := by simp [SB.do, SB.reads, hop, ht]
  unfold SBPost
  rw [e]
  unfold Cl.val Cl.cells
  rw [hop, ha]
  refine (call_r c.b c.size c.n c.sign c.char c.text c.cuts c.ad c.cap 11 (by simp) w base yb i b g bs ds _ _ _ _ (fun g' => g' = g.rr (dec g.txt).2) hY hi (fun w1 hf => read_11 (i : Int) c.b c.size c.n c.sign c.char c.text c.cuts c.ad c.cap b g w1 (hB.fr hf (fun _ _ q => q)) (by rw [htx]; exact ht) (fun w' hf' => hG.tabs w' (fun x hx => (hf.trans hf').block x (by omega) (fun q => q))))).mono ?_
  rintro e w' ⟨g', rfl, S, hR⟩
  refine ⟨g', by first | rfl | (rw [htx]; done) | (rw [htx]; rfl), S, ?_⟩
  subst hR
  have hd := dec_le s.text ht
  rw [htx]
  exact hrel.read2 hB.lc (by omega) hd.2.2 (by rw [htx]; exact hd.2.1) rfl rfl rfl rfl
theorem do_12 (w : World) (base yb i b : Nat) (g : Gh) (bs : List (Nat × Gh)) (ds : List (Nat × BG)) (s : SB) (c : Cl) (ea eu : Addr) (hY : YardAt w base yb bs ds) (hi : bs[i]? = some (b, g)) (hrel : BRel g s) (ha : c.a = (i : Int)) (_hok : ClOk w c) (_hsz : g.txt.length + c.text.length + 66000 ≤ 1099511627776) (_hG : Gl base ea eu w) (hop : c.op = 12) (hr : s.recent = 1 ∨ s.recent = 2) : Calls Tryz.prog 14 #[.pointer (some ⟨yb, 0, none⟩), c.val] w (SBPost w base yb bs ds i b s c) := by
  have hB := hY.bufAt hi
  have hbw := hY.bw
  have hol := hB.ol
  have htl := g.txt_length hB.lc
  have htx := hrel.txt
  have hlx : s.text.length = g.len - g.off := by rw [← htx]; exact htl
  rw [htx] at _hsz
  have hlo : g.lr ≠ 0 ∧ 0 < g.off := by
    rcases hr with hr | hr
    · have := hrel.one hr; omega
    · have := hrel.rune hr; omega
  have e : s.do c = (s.other (s.last.drop (s.last.length - 1) ++ s.text), Td.zero, true) := by simp [SB.do, SB.back, hop, hr]
  unfold SBPost
  rw [e]
  unfold Cl.val Cl.cells
  rw [hop, ha]
  refine (call_r c.b c.size c.n c.sign c.char c.text c.cuts c.ad c.cap 12 (by simp) w base yb i b g bs ds _ _ _ _ (fun g' => g' = { g with off := g.off - 1, lr := 0 }) hY hi (fun w1 hf => read_12 (i : Int) c.b c.size c.n c.sign c.char c.text c.cuts c.ad c.cap b g w1 (hB.fr hf (fun _ _ q => q)) hlo.1 hlo.2)).mono ?_
  rintro e w' ⟨g', rfl, S, hR⟩
  refine ⟨g', by first | rfl | (rw [htx]; done) | (rw [htx]; rfl), S, ?_⟩
  subst hR
  exact hrel.back1 hr hB.ol hB.lc rfl rfl rfl
theorem do_12n (w : World) (base yb i b : Nat) (g : Gh) (bs : List (Nat × Gh)) (ds : List (Nat × BG)) (s : SB) (c : Cl) (ea eu : Addr) (hY : YardAt w base yb bs ds) (hi : bs[i]? = some (b, g)) (hrel : BRel g s) (ha : c.a = (i : Int)) (_hok : ClOk w c) (_hsz : g.txt.length + c.text.length + 66000 ≤ 1099511627776) (hG : Gl base ea eu w) (hop : c.op = 12) (hr : s.recent = 3 ∨ s.recent = 4) : Calls Tryz.prog 14 #[.pointer (some ⟨yb, 0, none⟩), c.val] w (SBPost w base yb bs ds i b s c) := by
  have hB := hY.bufAt hi
  have hbw := hY.bw
  have hol := hB.ol
  have htl := g.txt_length hB.lc
  have htx := hrel.txt
  have hlx : s.text.length = g.len - g.off := by rw [← htx]; exact htl
  rw [htx] at _hsz
  have e : s.do c = (s, Td.said' 2, (s.do c).2.2) := by rcases hr with hr | hr <;> simp [SB.do, SB.back, hop, hr]
  unfold SBPost
  rw [e]
  unfold Cl.val Cl.cells
  rw [hop, ha]
  refine (call_r c.b c.size c.n c.sign c.char c.text c.cuts c.ad c.cap 12 (by simp) w base yb i b g bs ds _ _ _ _ (fun g' => g' = g) hY hi (fun w1 hf => read_12n (i : Int) c.b c.size c.n c.sign c.char c.text c.cuts c.ad c.cap b g w1 (hB.fr hf (fun _ _ q => q)) ea _ _ ((hG.fr0 hbw hf).eof) (hG.fr0 hbw hf).be.choose_spec.blk eu _ _ ((hG.fr0 hbw hf).unr) (hG.fr0 hbw hf).bu.choose_spec.blk hG.nu (hrel.zero hr))).mono ?_
  rintro e w' ⟨g', rfl, S, hR⟩
  refine ⟨g', by first | rfl | (rw [htx]; done) | (rw [htx]; rfl), S, ?_⟩
  subst hR
  exact hrel
theorem do_13 (w : World) (base yb i b : Nat) (g : Gh) (bs : List (Nat × Gh)) (ds : List (Nat × BG)) (s : SB) (c : Cl) (ea eu : Addr) (hY : YardAt w base yb bs ds) (hi : bs[i]? = some (b, g)) (hrel : BRel g s) (ha : c.a = (i : Int)) (_hok : ClOk w c) (_hsz : g.txt.length + c.text.length + 66000 ≤ 1099511627776) (_hG : Gl base ea eu w) (hop : c.op = 13) (hr : s.recent = 2) : Calls Tryz.prog 14 #[.pointer (some ⟨yb, 0, none⟩), c.val] w (SBPost w base yb bs ds i b s c) := by
  have hB := hY.bufAt hi
  have hbw := hY.bw
  have hol := hB.ol
  have htl := g.txt_length hB.lc
  have htx := hrel.txt
  have hlx : s.text.length = g.len - g.off := by rw [← htx]; exact htl
  rw [htx] at _hsz
  have e : s.do c = (s.other (s.last ++ s.text), Td.zero, true) := by simp [SB.do, SB.back, hop, hr]
  unfold SBPost
  rw [e]
  unfold Cl.val Cl.cells
  rw [hop, ha]
  refine (call_r c.b c.size c.n c.sign c.char c.text c.cuts c.ad c.cap 13 (by simp) w base yb i b g bs ds _ _ _ _ (fun g' => g' = { g with off := g.off - s.last.length, lr := 0 }) hY hi (fun w1 hf => read_13 (i : Int) c.b c.size c.n c.sign c.char c.text c.cuts c.ad c.cap b g w1 (hB.fr hf (fun _ _ q => q)) s.last.length (hrel.rune hr).1 (hrel.rune hr).2.1 (hrel.rune hr).2.2.1 (hrel.rune hr).2.2.2.1)).mono ?_
  rintro e w' ⟨g', rfl, S, hR⟩
  refine ⟨g', by first | rfl | (rw [htx]; done) | (rw [htx]; rfl), S, ?_⟩
  subst hR
  exact hrel.back2 hr hB.ol hB.lc rfl rfl rfl
theorem do_13n (w : World) (base yb i b : Nat) (g : Gh) (bs : List (Nat × Gh)) (ds : List (Nat × BG)) (s : SB) (c : Cl) (ea eu : Addr) (hY : YardAt w base yb bs ds) (hi : bs[i]? = some (b, g)) (hrel : BRel g s) (ha : c.a = (i : Int)) (_hok : ClOk w c) (_hsz : g.txt.length + c.text.length + 66000 ≤ 1099511627776) (hG : Gl base ea eu w) (hop : c.op = 13) (hr : s.recent ≠ 2) (hr0 : s.recent ≠ 0) : Calls Tryz.prog 14 #[.pointer (some ⟨yb, 0, none⟩), c.val] w (SBPost w base yb bs ds i b s c) := by
  have hB := hY.bufAt hi
  have hbw := hY.bw
  have hol := hB.ol
  have htl := g.txt_length hB.lc
  have htx := hrel.txt
  have hlx : s.text.length = g.len - g.off := by rw [← htx]; exact htl
  rw [htx] at _hsz
  have hlr : g.lr ≤ 0 := by
    have hd := hrel.dom
    have h5 : s.recent = 1 ∨ s.recent = 3 ∨ s.recent = 4 ∨ s.recent = 5 := by omega
    rcases h5 with h | h | h | h
    · have := (hrel.one h).1; omega
    · have := hrel.zero (.inl h); omega
    · have := hrel.zero (.inr h); omega
    · have := hrel.cut h; omega
  have e : s.do c = (s, Td.said' 2, (s.do c).2.2) := by simp [SB.do, SB.back, hop, hr]
  unfold SBPost
  rw [e]
  unfold Cl.val Cl.cells
  rw [hop, ha]
  refine (call_r c.b c.size c.n c.sign c.char c.text c.cuts c.ad c.cap 13 (by simp) w base yb i b g bs ds _ _ _ _ (fun g' => g' = g) hY hi (fun w1 hf => read_13n (i : Int) c.b c.size c.n c.sign c.char c.text c.cuts c.ad c.cap b g w1 (hB.fr hf (fun _ _ q => q)) ea _ _ ((hG.fr0 hbw hf).eof) (hG.fr0 hbw hf).be.choose_spec.blk hlr)).mono ?_
  rintro e w' ⟨g', rfl, S, hR⟩
  refine ⟨g', by first | rfl | (rw [htx]; done) | (rw [htx]; rfl), S, ?_⟩
  subst hR
  exact hrel
theorem do_14 (w : World) (base yb i b : Nat) (g : Gh) (bs : List (Nat × Gh)) (ds : List (Nat × BG)) (s : SB) (c : Cl) (ea eu : Addr) (hY : YardAt w base yb bs ds) (hi : bs[i]? = some (b, g)) (hrel : BRel g s) (ha : c.a = (i : Int)) (hok : ClOk w c) (_hsz : g.txt.length + c.text.length + 66000 ≤ 1099511627776) (_hG : Gl base ea eu w) (hop : c.op = 14) (hle : c.size ≤ s.text.length) : Calls Tryz.prog 14 #[.pointer (some ⟨yb, 0, none⟩), c.val] w (SBPost w base yb bs ds i b s c) := by
  have hB := hY.bufAt hi
  have hbw := hY.bw
  have hol := hB.ol
  have htl := g.txt_length hB.lc
  have htx := hrel.txt
  have hlx : s.text.length = g.len - g.off := by rw [← htx]; exact htl
  rw [htx] at _hsz
  have e : s.do c = (s.other s.text, Td.ofText (s.text.take c.size), true) := by simp [SB.do, SB.look, hop, Nat.not_lt.2 hle]
  unfold SBPost
  rw [e]
  unfold Cl.val Cl.cells
  rw [hop, ha]
  refine (call_r c.b c.size c.n c.sign c.char c.text c.cuts c.ad c.cap 14 (by simp) w base yb i b g bs ds _ _ _ _ (fun g' => g' = g) hY hi (fun w1 hf => read_14 (i : Int) c.b c.size c.n c.sign c.char c.text c.cuts c.ad c.cap b g w1 (hB.fr hf (fun _ _ q => q)) s.text.length (by omega) hle hok.size)).mono ?_
  rintro e w' ⟨g', rfl, S, hR⟩
  refine ⟨g', by first | rfl | (rw [htx]; done) | (rw [htx]; rfl), S, ?_⟩
  subst hR
  exact BRel.other htx
theorem do_15 (w : World) (base yb i b : Nat) (g : Gh) (bs : List (Nat × Gh)) (ds : List (Nat × BG)) (s : SB) (c : Cl) (ea eu : Addr) (hY : YardAt w base yb bs ds) (hi : bs[i]? = some (b, g)) (hrel : BRel g s) (ha : c.a = (i : Int)) (_hok : ClOk w c) (_hsz : g.txt.length + c.text.length + 66000 ≤ 1099511627776) (_hG : Gl base ea eu w) (hop : c.op = 15) (k : Nat) (hn : c.n = (k : Int)) (hk : 0 < k) (hle : k ≤ s.text.length) : Calls Tryz.prog 14 #[.pointer (some ⟨yb, 0, none⟩), c.val] w (SBPost w base yb bs ds i b s c) := by
  have hB := hY.bufAt hi
  have hbw := hY.bw
  have hol := hB.ol
  have htl := g.txt_length hB.lc
  have htx := hrel.txt
  have hlx : s.text.length = g.len - g.off := by rw [← htx]; exact htl
  rw [htx] at _hsz
  have e : s.do c = (s.other (s.text.take k), Td.zero, true) := by simp [SB.do, hop, hn, hle]
  unfold SBPost
  rw [e]
  unfold Cl.val Cl.cells
  rw [hop, ha, hn]
  refine (call_l c.b c.size (k : Int) c.sign c.char c.text c.cuts c.ad c.cap 15 (by simp) w base yb i b g bs ds _ _ _ _ (fun g' => g' = { g with len := g.off + k, lr := 0 }) hY hi (fun w1 hf => look_15 (i : Int) c.b c.size c.sign c.char c.text c.cuts c.ad c.cap b g w1 (hB.fr hf (fun _ _ q => q)) k s.text.length (by omega) hk hle)).mono ?_
  rintro e w' ⟨g', rfl, S, hR⟩
  refine ⟨g', by first | rfl | (rw [htx]; done) | (rw [htx]; rfl), S, ?_⟩
  subst hR
  refine BRel.other ?_
  rw [← htx]
  simp only [Gh.txt]
  rw [List.drop_take, List.drop_take, List.take_take]
  congr 1
  omega
theorem do_15z (w : World) (base yb i b : Nat) (g : Gh) (bs : List (Nat × Gh)) (ds : List (Nat × BG)) (s : SB) (c : Cl) (ea eu : Addr) (hY : YardAt w base yb bs ds) (hi : bs[i]? = some (b, g)) (hrel : BRel g s) (ha : c.a = (i : Int)) (_hok : ClOk w c) (_hsz : g.txt.length + c.text.length + 66000 ≤ 1099511627776) (_hG : Gl base ea eu w) (hop : c.op = 15) (hn : c.n = 0) : Calls Tryz.prog 14 #[.pointer (some ⟨yb, 0, none⟩), c.val] w (SBPost w base yb bs ds i b s c) := by
  have hB := hY.bufAt hi
  have hbw := hY.bw
  have hol := hB.ol
  have htl := g.txt_length hB.lc
  have htx := hrel.txt
  have hlx : s.text.length = g.len - g.off := by rw [← htx]; exact htl
  rw [htx] at _hsz
  have e : s.do c = (s.other [], Td.zero, true) := by simp [SB.do, hop, hn]
  unfold SBPost
  rw [e]
  unfold Cl.val Cl.cells
  rw [hop, ha, hn]
  refine (call_l c.b c.size 0 c.sign c.char c.text c.cuts c.ad c.cap 15 (by simp) w base yb i b g bs ds _ _ _ _ (fun g' => g' = g.rs) hY hi (fun w1 hf => look_15z (i : Int) c.b c.size c.sign c.char c.text c.cuts c.ad c.cap b g w1 (hB.fr hf (fun _ _ q => q)) )).mono ?_
  rintro e w' ⟨g', rfl, S, hR⟩
  refine ⟨g', by first | rfl | (rw [htx]; done) | (rw [htx]; rfl), S, ?_⟩
  subst hR
  exact BRel.other g.rs_txt
theorem do_16 (w : World) (base yb i b : Nat) (g : Gh) (bs : List (Nat × Gh)) (ds : List (Nat × BG)) (s : SB) (c : Cl) (ea eu : Addr) (hY : YardAt w base yb bs ds) (hi : bs[i]? = some (b, g)) (hrel : BRel g s) (ha : c.a = (i : Int)) (_hok : ClOk w c) (_hsz : g.txt.length + c.text.length + 66000 ≤ 1099511627776) (_hG : Gl base ea eu w) (hop : c.op = 16) : Calls Tryz.prog 14 #[.pointer (some ⟨yb, 0, none⟩), c.val] w (SBPost w base yb bs ds i b s c) := by
  have hB := hY.bufAt hi
  have hbw := hY.bw
  have hol := hB.ol
  have htl := g.txt_length hB.lc
  have htx := hrel.txt
  have hlx : s.text.length = g.len - g.off := by rw [← htx]; exact htl
  rw [htx] at _hsz
  have e : s.do c = (s.other [], Td.zero, true) := by simp [SB.do, hop]
  unfold SBPost
  rw [e]
  unfold Cl.val Cl.cells
  rw [hop, ha]
  refine (call_l c.b c.size c.n c.sign c.char c.text c.cuts c.ad c.cap 16 (by simp) w base yb i b g bs ds _ _ _ _ (fun g' => g' = g.rs) hY hi (fun w1 hf => look_16 (i : Int) c.b c.size c.n c.sign c.char c.text c.cuts c.ad c.cap b g w1 (hB.fr hf (fun _ _ q => q)) )).mono ?_
  rintro e w' ⟨g', rfl, S, hR⟩
  refine ⟨g', by first | rfl | (rw [htx]; done) | (rw [htx]; rfl), S, ?_⟩
  subst hR
  exact BRel.other g.rs_txt
theorem do_17 (w : World) (base yb i b : Nat) (g : Gh) (bs : List (Nat × Gh)) (ds : List (Nat × BG)) (s : SB) (c : Cl) (ea eu : Addr) (hY : YardAt w base yb bs ds) (hi : bs[i]? = some (b, g)) (hrel : BRel g s) (ha : c.a = (i : Int)) (_hok : ClOk w c) (_hsz : g.txt.length + c.text.length + 66000 ≤ 1099511627776) (_hG : Gl base ea eu w) (hop : c.op = 17) (k : Nat) (hn : c.n = (k : Int)) (hk : k ≤ 65536) : Calls Tryz.prog 14 #[.pointer (some ⟨yb, 0, none⟩), c.val] w (SBPost w base yb bs ds i b s c) := by
  have hB := hY.bufAt hi
  have hbw := hY.bw
  have hol := hB.ol
  have htl := g.txt_length hB.lc
  have htx := hrel.txt
  have hlx : s.text.length = g.len - g.off := by rw [← htx]; exact htl
  rw [htx] at _hsz
  have e : s.do c = (s.other s.text, Td.zero, (s.do c).2.2) := by
    have hk0 : ¬ ((k : Int) < 0) := by omega
    simp [SB.do, hop, hn, hk0]
  unfold SBPost
  rw [e]
  unfold Cl.val Cl.cells
  rw [hop, ha, hn]
  refine (call_l c.b c.size (k : Int) c.sign c.char c.text c.cuts c.ad c.cap 17 (by simp) w base yb i b g bs ds _ _ _ _ (fun g' => g'.txt = g.txt) hY hi (fun w1 hf => look_17 (i : Int) c.b c.size c.sign c.char c.text c.cuts c.ad c.cap b g w1 (hB.fr hf (fun _ _ q => q)) k (by rw [htx]; omega))).mono ?_
  rintro e w' ⟨g', rfl, S, hR⟩
  refine ⟨g', by first | rfl | (rw [htx]; done) | (rw [htx]; rfl), S, ?_⟩
  exact BRel.other (hR.trans htx)
theorem do_18 (w : World) (base yb i b : Nat) (g : Gh) (bs : List (Nat × Gh)) (ds : List (Nat × BG)) (s : SB) (c : Cl) (ea eu : Addr) (hY : YardAt w base yb bs ds) (hi : bs[i]? = some (b, g)) (hrel : BRel g s) (ha : c.a = (i : Int)) (_hok : ClOk w c) (_hsz : g.txt.length + c.text.length + 66000 ≤ 1099511627776) (_hG : Gl base ea eu w) (hop : c.op = 18) : Calls Tryz.prog 14 #[.pointer (some ⟨yb, 0, none⟩), c.val] w (SBPost w base yb bs ds i b s c) := by
  have hB := hY.bufAt hi
  have hbw := hY.bw
  have hol := hB.ol
  have htl := g.txt_length hB.lc
  have htx := hrel.txt
  have hlx : s.text.length = g.len - g.off := by rw [← htx]; exact htl
  rw [htx] at _hsz
  have e : s.do c = (s, Td.ofN s.text.length, true) := by simp [SB.do, hop]
  unfold SBPost
  rw [e]
  unfold Cl.val Cl.cells
  rw [hop, ha]
  refine (call_l c.b c.size c.n c.sign c.char c.text c.cuts c.ad c.cap 18 (by simp) w base yb i b g bs ds _ _ _ _ (fun g' => g' = g) hY hi (fun w1 hf => look_18 (i : Int) c.b c.size c.n c.sign c.char c.text c.cuts c.ad c.cap b g w1 (hB.fr hf (fun _ _ q => q)) s.text.length (by omega))).mono ?_
  rintro e w' ⟨g', rfl, S, hR⟩
  refine ⟨g', by first | rfl | (rw [htx]; done) | (rw [htx]; rfl), S, ?_⟩
  subst hR
  exact hrel
theorem do_19 (w : World) (base yb i b : Nat) (g : Gh) (bs : List (Nat × Gh)) (ds : List (Nat × BG)) (s : SB) (c : Cl) (ea eu : Addr) (hY : YardAt w base yb bs ds) (hi : bs[i]? = some (b, g)) (hrel : BRel g s) (ha : c.a = (i : Int)) (_hok : ClOk w c) (_hsz : g.txt.length + c.text.length + 66000 ≤ 1099511627776) (_hG : Gl base ea eu w) (hop : c.op = 19) : Calls Tryz.prog 14 #[.pointer (some ⟨yb, 0, none⟩), c.val] w (SBPost w base yb bs ds i b s c) := by
  have hB := hY.bufAt hi
  have hbw := hY.bw
  have hol := hB.ol
  have htl := g.txt_length hB.lc
  have htx := hrel.txt
  have hlx : s.text.length = g.len - g.off := by rw [← htx]; exact htl
  rw [htx] at _hsz
  have e : s.do c = (s, Td.ofText s.text, true) := by simp [SB.do, hop]
  unfold SBPost
  rw [e]
  unfold Cl.val Cl.cells
  rw [hop, ha]
  refine (call_l c.b c.size c.n c.sign c.char c.text c.cuts c.ad c.cap 19 (by simp) w base yb i b g bs ds _ _ _ _ (fun g' => g' = g) hY hi (fun w1 hf => look_19 (i : Int) c.b c.size c.n c.sign c.char c.text c.cuts c.ad c.cap b g w1 (hB.fr hf (fun _ _ q => q)) )).mono ?_
  rintro e w' ⟨g', rfl, S, hR⟩
  refine ⟨g', by first | rfl | (rw [htx]; done) | (rw [htx]; rfl), S, ?_⟩
  subst hR
  exact hrel
theorem do_20 (w : World) (base yb i b : Nat) (g : Gh) (bs : List (Nat × Gh)) (ds : List (Nat × BG)) (s : SB) (c : Cl) (ea eu : Addr) (hY : YardAt w base yb bs ds) (hi : bs[i]? = some (b, g)) (hrel : BRel g s) (ha : c.a = (i : Int)) (_hok : ClOk w c) (_hsz : g.txt.length + c.text.length + 66000 ≤ 1099511627776) (_hG : Gl base ea eu w) (hop : c.op = 20) : Calls Tryz.prog 14 #[.pointer (some ⟨yb, 0, none⟩), c.val] w (SBPost w base yb bs ds i b s c) := by
  have hB := hY.bufAt hi
  have hbw := hY.bw
  have hol := hB.ol
  have htl := g.txt_length hB.lc
  have htx := hrel.txt
  have hlx : s.text.length = g.len - g.off := by rw [← htx]; exact htl
  rw [htx] at _hsz
  have e : s.do c = (s, Td.ofText s.text, true) := by simp [SB.do, hop]
  unfold SBPost
  rw [e]
  unfold Cl.val Cl.cells
  rw [hop, ha]
  refine (call_l c.b c.size c.n c.sign c.char c.text c.cuts c.ad c.cap 20 (by simp) w base yb i b g bs ds _ _ _ _ (fun g' => g' = g) hY hi (fun w1 hf => look_20 (i : Int) c.b c.size c.n c.sign c.char c.text c.cuts c.ad c.cap b g w1 (hB.fr hf (fun _ _ q => q)) )).mono ?_
  rintro e w' ⟨g', rfl, S, hR⟩
  refine ⟨g', by first | rfl | (rw [htx]; done) | (rw [htx]; rfl), S, ?_⟩
  subst hR
  exact hrel
theorem do_21n (w : World) (base yb i b : Nat) (g : Gh) (bs : List (Nat × Gh)) (ds : List (Nat × BG)) (s : SB) (c : Cl) (ea eu : Addr) (hY : YardAt w base yb bs ds) (hi : bs[i]? = some (b, g)) (hrel : BRel g s) (ha : c.a = (i : Int)) (hok : ClOk w c) (_hsz : g.txt.length + c.text.length + 66000 ≤ 1099511627776) (_hG : Gl base ea eu w) (hop : c.op = 21) (hle : s.text.length ≤ c.size) : Calls Tryz.prog 14 #[.pointer (some ⟨yb, 0, none⟩), c.val] w (SBPost w base yb bs ds i b s c) := by
  have hB := hY.bufAt hi
  have hbw := hY.bw
  have hol := hB.ol
  have htl := g.txt_length hB.lc
  have htx := hrel.txt
  have hlx : s.text.length = g.len - g.off := by rw [← htx]; exact htl
  rw [htx] at _hsz
  have e : s.do c = (s.other s.text, Td.zero, true) := by simp [SB.do, SB.look, hop]; omega
  unfold SBPost
  rw [e]
  unfold Cl.val Cl.cells
  rw [hop, ha]
  refine (call_l c.b c.size c.n c.sign c.char c.text c.cuts c.ad c.cap 21 (by simp) w base yb i b g bs ds _ _ _ _ (fun g' => g' = g) hY hi (fun w1 hf => look_21n (i : Int) c.b c.size c.n c.sign c.char c.text c.cuts c.ad c.cap b g w1 (hB.fr hf (fun _ _ q => q)) s.text.length (by omega) hle hok.size)).mono ?_
  rintro e w' ⟨g', rfl, S, hR⟩
  refine ⟨g', by first | rfl | (rw [htx]; done) | (rw [htx]; rfl), S, ?_⟩
  subst hR
  exact BRel.other htx
theorem do_21 (w : World) (base yb i b : Nat) (g : Gh) (bs : List (Nat × Gh)) (ds : List (Nat × BG)) (s : SB) (c : Cl) (ea eu : Addr) (hY : YardAt w base yb bs ds) (hi : bs[i]? = some (b, g)) (hrel : BRel g s) (ha : c.a = (i : Int)) (hok : ClOk w c) (_hsz : g.txt.length + c.text.length + 66000 ≤ 1099511627776) (_hG : Gl base ea eu w) (hop : c.op = 21) (hle : c.size < s.text.length) : Calls Tryz.prog 14 #[.pointer (some ⟨yb, 0, none⟩), c.val] w (SBPost w base yb bs ds i b s c) := by
  have hB := hY.bufAt hi
  have hbw := hY.bw
  have hol := hB.ol
  have htl := g.txt_length hB.lc
  have htx := hrel.txt
  have hlx : s.text.length = g.len - g.off := by rw [← htx]; exact htl
  rw [htx] at _hsz
  obtain ⟨r, hr⟩ := hB.some_row (by omega)
  have e : s.do c = (s.other (s.text.take c.size ++ c.sign :: s.text.drop (c.size + 1)), Td.zero, true) := by simp [SB.do, SB.look, hop, hle]
  unfold SBPost
  rw [e]
  unfold Cl.val Cl.cells
  rw [hop, ha]
  refine (call_l c.b c.size c.n c.sign c.char c.text c.cuts c.ad c.cap 21 (by simp) w base yb i b g bs ds _ _ _ _ (fun g' => g' = { g with all := g.all.set (g.off + c.size) c.sign }) hY hi (fun w1 hf => look_21 (i : Int) c.b c.size c.n c.sign c.char c.text c.cuts c.ad c.cap b g w1 (hB.fr hf (fun _ _ q => q)) s.text.length r hr (by omega) hle hok.size)).mono ?_
  rintro e w' ⟨g', rfl, S, hR⟩
  refine ⟨g', by first | rfl | (rw [htx]; done) | (rw [htx]; rfl), S, ?_⟩
  subst hR
  refine BRel.other ?_
  rw [txt_poke g c.size c.sign hB.lc (by rw [htx]; exact hle), htx]
theorem do_22z (w : World) (base yb i b : Nat) (g : Gh) (bs : List (Nat × Gh)) (ds : List (Nat × BG)) (s : SB) (c : Cl) (ea eu : Addr) (hY : YardAt w base yb bs ds) (hi : bs[i]? = some (b, g)) (hrel : BRel g s) (ha : c.a = (i : Int)) (_hok : ClOk w c) (_hsz : g.txt.length + c.text.length + 66000 ≤ 1099511627776) (_hG : Gl base ea eu w) (hop : c.op = 22) (hz : c.size = 0) : Calls Tryz.prog 14 #[.pointer (some ⟨yb, 0, none⟩), c.val] w (SBPost w base yb bs ds i b s c) := by
  have hB := hY.bufAt hi
  have hbw := hY.bw
  have hol := hB.ol
  have htl := g.txt_length hB.lc
  have htx := hrel.txt
  have hlx : s.text.length = g.len - g.off := by rw [← htx]; exact htl
  rw [htx] at _hsz
  have e : s.do c = (s.other s.text, Td.zero, true) := by simp [SB.do, SB.look, hop, hz]
  unfold SBPost
  rw [e]
  unfold Cl.val Cl.cells
  rw [hop, ha]
  refine (call_l c.b c.size c.n c.sign c.char c.text c.cuts c.ad c.cap 22 (by simp) w base yb i b g bs ds _ _ _ _ (fun g' => g' = g) hY hi (fun w1 hf => look_22z (i : Int) c.b c.size c.n c.sign c.char c.text c.cuts c.ad c.cap b g w1 (hB.fr hf (fun _ _ q => q)) s.text.length (by omega) hz)).mono ?_
  rintro e w' ⟨g', rfl, S, hR⟩
  refine ⟨g', by first | rfl | (rw [htx]; done) | (rw [htx]; rfl), S, ?_⟩
  subst hR
  exact BRel.other htx
theorem do_22 (w : World) (base yb i b : Nat) (g : Gh) (bs : List (Nat × Gh)) (ds : List (Nat × BG)) (s : SB) (c : Cl) (ea eu : Addr) (hY : YardAt w base yb bs ds) (hi : bs[i]? = some (b, g)) (hrel : BRel g s) (ha : c.a = (i : Int)) (hok : ClOk w c) (_hsz : g.txt.length + c.text.length + 66000 ≤ 1099511627776) (_hG : Gl base ea eu w) (hop : c.op = 22) (k : Nat) (hk : c.size = k + 1) (hle : c.size ≤ s.text.length) : Calls Tryz.prog 14 #[.pointer (some ⟨yb, 0, none⟩), c.val] w (SBPost w base yb bs ds i b s c) := by
  have hB := hY.bufAt hi
  have hbw := hY.bw
  have hol := hB.ol
  have htl := g.txt_length hB.lc
  have htx := hrel.txt
  have hlx : s.text.length = g.len - g.off := by rw [← htx]; exact htl
  rw [htx] at _hsz
  obtain ⟨r, hr⟩ := hB.some_row (by omega)
  have e : s.do c = (s.other (s.text.take k ++ c.sign :: s.text.drop (k + 1)), Td.zero, true) := by
    have h1 : ¬ (s.text.length < k + 1) := by omega
    have h2 : (k : Int) < s.text.length := by omega
    simp [SB.do, SB.look, hop, hk, h1, h2]
  unfold SBPost
  rw [e]
  unfold Cl.val Cl.cells
  rw [hop, ha]
  refine (call_l c.b c.size c.n c.sign c.char c.text c.cuts c.ad c.cap 22 (by simp) w base yb i b g bs ds _ _ _ _ (fun g' => g' = { g with all := g.all.set (g.off + k) c.sign }) hY hi (fun w1 hf => look_22 (i : Int) c.b c.size c.n c.sign c.char c.text c.cuts c.ad c.cap b g w1 (hB.fr hf (fun _ _ q => q)) s.text.length r k hr (by omega) hk hle hok.size)).mono ?_
  rintro e w' ⟨g', rfl, S, hR⟩
  refine ⟨g', by first | rfl | (rw [htx]; done) | (rw [htx]; rfl), S, ?_⟩
  subst hR
  refine BRel.other ?_
  rw [txt_poke g k c.sign hB.lc (by rw [htx]; omega), htx]
end Go.Proofs.YtkggebhkjgjijaaGreatDoor
