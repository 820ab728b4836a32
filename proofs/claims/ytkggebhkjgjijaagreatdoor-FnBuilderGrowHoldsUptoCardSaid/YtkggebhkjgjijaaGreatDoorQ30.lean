/- SpecB, LawP. -/
import Derived.Test.YtkggebhkjgjijaaGreatDoorQ29
import Derived.Test.YtkggebhkjgjijaaGreatDoorQ26
namespace Go.Proofs.YtkggebhkjgjijaaGreatDoor
open Go Go.RowKit

theorem just1 (w : World) (x : Nat) (a : Value) : Fr (Just x) w (w.setCell ⟨x, 0, none⟩ a) := (Fr.refl _ w).setCell (fun _ => just_self x) _
def sbOf (s : St) : SB := ⟨s.text, if s.way = 2 then 4 else 0, [], false⟩
theorem begin_bufs (starts : List St) (nb : Nat) : (Yd.begin starts nb).bufs = starts.map sbOf := rfl
theorem sbs_append (l m : List SB) : sbs (l ++ m) = sbs l ++ sbs m := by simp [sbs]
theorem sbs_one (s : SB) : sbs [s] = s.cells := by simp [sbs]
theorem made_strs' (n : Nat) : (madeCells #[Value.string ⟨#[]⟩] n).toList = strs (List.replicate n []) := by
  apply List.ext_getElem
  · simp [madeCells]
  · intro i h1 h2
    simp [madeCells, strs, strV, Nat.mod_one]
theorem make_strs8 (n : Nat) (_hn : n ≤ 255) (w : World) : (Instr.makeSlice 40 (.int .u8 (n : Int)) (.int .u8 (n : Int))).run Tryz.prog w = .ok (.slice (some ⟨w.heap.size, 0, none⟩) n n) (w.alloc (.cells (madeCells #[Value.string ⟨#[]⟩] n) 9)) := by
  obtain ⟨i0, hi, hz0, hz1, hz2⟩ := info_parts (show (Tryz.prog.info? 9).map (fun i => (i.zero, i.size, i.bytes)) = some (some (.string ⟨#[]⟩), 1, 16) by kernel_rfl)
  have hr := run_make (P := Tryz.prog) w 40 9 i0 _ Tryz.underlying40 hi hz0 .u8 .u8 n n (by omega) (by omega) (by rw [hz2]; omega) (by omega)
  simp only [Int.toNat_natCast, hz1, Nat.mul_one, Value.cells] at hr
  exact hr
theorem Own.made' (n : Nat) (_hn : n ≤ 4294967296) {w : World} {base H : Nat} (hb : base ≤ H) (hh : w.heap[H]? = some (.cells (madeCells #[Value.string ⟨#[]⟩] n) 9 (0, 0))) : Own 9 1 w base (.slice (some ⟨H, 0, none⟩) n n) n (strs (List.replicate n [])) :=
  ⟨by simp, .inr ⟨_, n, _, rfl, hb, hh, Nat.le_refl _, by unfold maxLen; omega, by simp [madeCells], by rw [made_strs', List.take_of_length_le (by simp)]⟩⟩
/-- How far the loop has come. -/
structure BgI (w wr : World) (starts : List St) (nb k : Nat) (v : Value) : Prop where
  yd : wr.heap[w.heap.size + 1 + 1]? = some (.cells #[v, .slice (some ⟨w.heap.size + 1, 0, none⟩) nb nb] 42 (0, 0))
  md : wr.heap[w.heap.size + 1]? = some (.cells (madeCells #[Value.string ⟨#[]⟩] nb) 9 (0, 0))
  rs : wr.heap[w.heap.size]? = some (.cells #[.slice none 0 0, .slice none 0 0] 42 (0, 0))
  own : Own 57 4 wr w.heap.size v k (sbs ((starts.take k).map sbOf))
  fr : Fr (fun _ => False) w wr

set_option maxHeartbeats 1600000 in
set_option maxRecDepth 100000 in
theorem sp_begin (starts : List St) (nb : Nat) (A : Option Addr) (c : Nat) (w : World) (hR : Reads St.cells 3 w A starts) (_hn : starts.length ≤ 4294967296) (hnb : nb ≤ 255) :
    Calls Tryz.prog 9 #[.slice A starts.length c, .int .u8 (nb : Int)] w (CopyPost w (Yd.begin starts nb)) := by
  have HR := Lib.hid hR
  clear hR
  have hmk := make_strs8 nb hnb
  obtain ⟨w3, hw3⟩ : ∃ w3, w3 = ((w.alloc (.cells #[.slice none 0 0, .slice none 0 0] 42)).alloc (.cells (madeCells #[Value.string ⟨#[]⟩] nb) 9)).alloc (.cells #[.slice none 0 0, .slice (some ⟨w.heap.size + 1, 0, none⟩) nb nb] 42) := ⟨_, rfl⟩
  have hI0 : BgI w w3 starts nb 0 (.slice none 0 0) := by
    rw [hw3]
    refine ⟨?_, ?_, ?_, Own.nil _ _ _ _, (((Fr.refl _ w).alloc _).alloc _).alloc _⟩
    · have := heap_alloc_new ((w.alloc (.cells #[.slice none 0 0, .slice none 0 0] 42)).alloc (.cells (madeCells #[Value.string ⟨#[]⟩] nb) 9)) (.cells #[.slice none 0 0, .slice (some ⟨w.heap.size + 1, 0, none⟩) nb nb] 42)
      simpa using this
    · have := ((Fr.refl (fun _ => False) _).alloc (.cells #[.slice none 0 0, .slice (some ⟨w.heap.size + 1, 0, none⟩) nb nb] 42)).blk (heap_alloc_new (w.alloc (.cells #[.slice none 0 0, .slice none 0 0] 42)) (.cells (madeCells #[Value.string ⟨#[]⟩] nb) 9)) (fun q => q)
      simpa using this
    · exact (((Fr.refl (fun _ => False) _).alloc (.cells (madeCells #[Value.string ⟨#[]⟩] nb) 9)).alloc (.cells #[.slice none 0 0, .slice (some ⟨w.heap.size + 1, 0, none⟩) nb nb] 42)).blk (heap_alloc_new w (.cells #[.slice none 0 0, .slice none 0 0] 42)) (fun q => q)
  have HI0 := Lib.hid hI0
  have HW3 := Lib.hid hw3
  clear hI0 hw3
  go_enter Tryz.func9, Tryz.ntmps9
  go_wp2_with fail
  rw [← HW3.out]
  go_loopw [14] (fun v14 wr => ∃ (k : Nat) (v : Value), k ≤ starts.length ∧ v14 = .int .i64 (k : Int) ∧ BgI w wr starts nb k v) (fun v14 _ => starts.length - (intOf v14).toNat)
  case atStart => exact ⟨0, _, Nat.zero_le _, rfl, HI0.out⟩
  case round =>
    obtain ⟨k, v, hk, rfl, hI⟩ := hrel
    by_cases hkl : k < starts.length
    · obtain ⟨s, hs⟩ : ∃ s, starts[k]? = some s := ⟨_, List.getElem?_eq_getElem hkl⟩
      obtain ⟨r, o, e1, hc⟩ := HR.out.at' k s hs
      subst e1
      obtain ⟨text, way, space⟩ := s
      have hq : ∀ j u, (St.cells ⟨text, way, space⟩)[j]? = some u → wr.cell? ⟨r, o + k * 3 + j, none⟩ = some u := fun j u hu => (hI.fr.cell (World.block_lt_of_cell? _ _ (hc j u hu)) (fun q => q)).trans (hc j u hu)
      have c0 := hq 0 _ rfl
      have c1 := hq 1 _ rfl
      have c2 := hq 2 _ rfl
      simp only [Nat.add_zero] at c0
      have y0 : wr.cell? ⟨w.heap.size + 1 + 1, 0, none⟩ = some v := by rw [cell_of_row wr _ 0 _ _ _ hI.yd]; rfl
      have yz : wr.frozen? ⟨w.heap.size + 1 + 1, 0, none⟩ = false := by simp [World.frozen?, hI.yd]
      have hlt : w.heap.size + 1 + 1 < wr.heap.size := World.block_lt_of_cell? _ _ y0
      have m0 : ¬ (w.heap.size + 1 + 1 = wr.heap.size) := by omega
      have m1 : ¬ (w.heap.size + 1 = wr.heap.size) := by omega
      have m2 : ¬ (w.heap.size = wr.heap.size) := by omega
      have m3 : ¬ (wr.heap.size = w.heap.size + 1 + 1) := by omega
      have m4 : ¬ (wr.heap.size = w.heap.size + 1) := by omega
      have m5 : ¬ (wr.heap.size = w.heap.size) := by omega
      have m6 : ¬ (w.heap.size + 2 = wr.heap.size) := by omega
      have m7 : ¬ (wr.heap.size = w.heap.size + 2) := by omega
      have y0b : wr.cell? ⟨w.heap.size + 2, 0, none⟩ = some v := y0
      have yzb : wr.frozen? ⟨w.heap.size + 2, 0, none⟩ = false := yz
      have hki : (k : Int) < (starts.length : Int) := by omega
      have hk0 : (0 : Int) ≤ (k : Int) := by omega
      have HI := Lib.hid hI
      have HS := Lib.hid hs
      clear hI hs hc hq
      by_cases hway : way = 2
      · subst hway
        have HOW := Lib.hid (HI.out.own.fr ((((Fr.refl (fun _ => False) wr).alloc (.cells #[.string ⟨text.toArray⟩, .int .i64 2, .int .u16 (space : Int)] 55)).alloc (.cells #[.string ⟨text.toArray⟩, .int .i64 4, .string ⟨#[]⟩, .bool false] 57)).alloc (.cells #[.string ⟨text.toArray⟩, .int .i64 4, .string ⟨#[]⟩, .bool false] 57)) (fun _ _ q => q))
        have HBN := Lib.hid (show (((wr.alloc (.cells #[.string ⟨text.toArray⟩, .int .i64 2, .int .u16 (space : Int)] 55)).alloc (.cells #[.string ⟨text.toArray⟩, .int .i64 4, .string ⟨#[]⟩, .bool false] 57)).alloc (.cells #[.string ⟨text.toArray⟩, .int .i64 4, .string ⟨#[]⟩, .bool false] 57)).heap[wr.heap.size + 1 + 1]? = some (.cells (SB.cells ⟨text, 4, [], false⟩).toArray 57 (0, 0)) by have := heap_alloc_new ((wr.alloc (.cells #[.string ⟨text.toArray⟩, .int .i64 2, .int .u16 (space : Int)] 55)).alloc (.cells #[.string ⟨text.toArray⟩, .int .i64 4, .string ⟨#[]⟩, .bool false] 57)) (.cells #[.string ⟨text.toArray⟩, .int .i64 4, .string ⟨#[]⟩, .bool false] 57); simpa [SB.cells] using this)
        have y5 : ((wr.alloc (.cells #[.string ⟨text.toArray⟩, .int .i64 2, .int .u16 (space : Int)] 55)).alloc (.cells #[.string ⟨text.toArray⟩, .int .i64 4, .string ⟨#[]⟩, .bool false] 57)).cell? ⟨w.heap.size + 1 + 1, 0, none⟩ = some v := ((((Fr.refl (fun _ => False) wr).alloc (.cells #[.string ⟨text.toArray⟩, .int .i64 2, .int .u16 (space : Int)] 55)).alloc (.cells #[.string ⟨text.toArray⟩, .int .i64 4, .string ⟨#[]⟩, .bool false] 57)).cell (World.block_lt_of_cell? _ _ y0) (fun q => q)).trans y0
        go_wp2_with (refine wpList_app rfl elem_sb (.tmp 26) (.tmp 28) rfl w.heap.size _ k _ (by rfl) HOW.out (wr.heap.size + 1 + 1) (SB.cells ⟨text, 4, [], false⟩) 57 (by rfl) HBN.out rfl (by simp [SB.cells, Value.oneCell']) (by omega) (by have := HI.out.fr.size; simp; omega) ?_)
        intro gb cap w4 hown hfr hat hlt1
        have hF3 : Fr (fun _ => False) wr (((wr.alloc (.cells #[.string ⟨text.toArray⟩, .int .i64 2, .int .u16 (space : Int)] 55)).alloc (.cells #[.string ⟨text.toArray⟩, .int .i64 4, .string ⟨#[]⟩, .bool false] 57)).alloc (.cells #[.string ⟨text.toArray⟩, .int .i64 4, .string ⟨#[]⟩, .bool false] 57)) := (((Fr.refl (fun _ => False) wr).alloc _).alloc _).alloc _
        have hne : ∀ x, v.ownBlock = some x → x ≠ w.heap.size + 1 + 1 := fun x hx => HI.out.own.ne_blk HI.out.yd (by decide) hx
        have hne1 : ∀ x, v.ownBlock = some x → x ≠ w.heap.size + 1 := fun x hx => HI.out.own.ne_blk HI.out.md (by decide) hx
        have hne0 : ∀ x, v.ownBlock = some x → x ≠ w.heap.size := fun x hx => HI.out.own.ne_blk HI.out.rs (by decide) hx
        have b2 := hfr.blk (hF3.blk HI.out.yd (fun q => q)) (fun q => hne _ q rfl)
        have b1 := hfr.blk (hF3.blk HI.out.md (fun q => q)) (fun q => hne1 _ q rfl)
        have b0 := hfr.blk (hF3.blk HI.out.rs (fun q => q)) (fun q => hne0 _ q rfl)
        have d0 : w4.cell? ⟨w.heap.size + 1 + 1, 0, none⟩ = some v := by rw [cell_of_row w4 _ 0 _ _ _ b2]; rfl
        have dz : w4.frozen? ⟨w.heap.size + 1 + 1, 0, none⟩ = false := by simp [World.frozen?, b2]
        have HFR := Lib.hid (HI.out.fr.trans' ((hF3.mono (S' := fun x => v.ownBlock = some x) (fun _ _ q => q.elim)).trans hfr) (fun x hx q => by have := HI.out.own.blk_ge q; omega))
        have HB := Lib.hid (And.intro b2 (And.intro b1 b0))
        have HOWN := Lib.hid hown
        clear hF3 hne hne1 hne0 b2 b1 b0 hown hfr hat hlt1
        go_wp2_with fail
        go_roundw
        case rel =>
          obtain ⟨b2, b1, b0⟩ := HB.out
          obtain ⟨hl, e⟩ := List.getElem?_eq_some_iff.1 HS.out
          have hJ : Fr (Just (w.heap.size + 1 + 1)) w4 (w4.setCell ⟨w.heap.size + 1 + 1, 0, none⟩ (.slice (some ⟨gb, 0, none⟩) (k + 1) cap)) := just1 _ _ _
          refine ⟨k + 1, .slice (some ⟨gb, 0, none⟩) (k + 1) cap, by omega, by go_num, ⟨?_, hJ.blk b1 (fun q => by have q : w.heap.size + 1 = w.heap.size + 1 + 1 := q; omega), hJ.blk b0 (fun q => by have q : w.heap.size = w.heap.size + 1 + 1 := q; omega), ?_, HFR.out.trans' hJ (fun x hx q => by have q : x = w.heap.size + 1 + 1 := q; omega)⟩⟩
          · simp [World.setCell, Array.getElem?_modify, b2]
          · rw [List.take_succ_eq_append_getElem hl, e, List.map_append, sbs_append, List.map_cons, List.map_nil, sbs_one]
            have ho := HOWN.out.fr hJ (fun x hx q => HOWN.out.ne_blk b2 (by decide) hx q)
            rw [← List.map_take] at ho
            have es : sbOf ⟨text, 2, space⟩ = ⟨text, 4, [], false⟩ := by simp [sbOf]
            rw [es]
            exact ho
        case measure => simp [intOf]; omega
      · have hwb : (way == 2) = false := by simp [hway]
        have HOW := Lib.hid (HI.out.own.fr ((((Fr.refl (fun _ => False) wr).alloc (.cells #[.string ⟨text.toArray⟩, .int .i64 way, .int .u16 (space : Int)] 55)).alloc (.cells #[.string ⟨text.toArray⟩, .int .i64 0, .string ⟨#[]⟩, .bool false] 57)).alloc (.cells #[.string ⟨text.toArray⟩, .int .i64 0, .string ⟨#[]⟩, .bool false] 57)) (fun _ _ q => q))
        have HBN := Lib.hid (show (((wr.alloc (.cells #[.string ⟨text.toArray⟩, .int .i64 way, .int .u16 (space : Int)] 55)).alloc (.cells #[.string ⟨text.toArray⟩, .int .i64 0, .string ⟨#[]⟩, .bool false] 57)).alloc (.cells #[.string ⟨text.toArray⟩, .int .i64 0, .string ⟨#[]⟩, .bool false] 57)).heap[wr.heap.size + 1 + 1]? = some (.cells (SB.cells ⟨text, 0, [], false⟩).toArray 57 (0, 0)) by have := heap_alloc_new ((wr.alloc (.cells #[.string ⟨text.toArray⟩, .int .i64 way, .int .u16 (space : Int)] 55)).alloc (.cells #[.string ⟨text.toArray⟩, .int .i64 0, .string ⟨#[]⟩, .bool false] 57)) (.cells #[.string ⟨text.toArray⟩, .int .i64 0, .string ⟨#[]⟩, .bool false] 57); simpa [SB.cells] using this)
        have y5 : ((wr.alloc (.cells #[.string ⟨text.toArray⟩, .int .i64 way, .int .u16 (space : Int)] 55)).alloc (.cells #[.string ⟨text.toArray⟩, .int .i64 0, .string ⟨#[]⟩, .bool false] 57)).cell? ⟨w.heap.size + 1 + 1, 0, none⟩ = some v := ((((Fr.refl (fun _ => False) wr).alloc (.cells #[.string ⟨text.toArray⟩, .int .i64 way, .int .u16 (space : Int)] 55)).alloc (.cells #[.string ⟨text.toArray⟩, .int .i64 0, .string ⟨#[]⟩, .bool false] 57)).cell (World.block_lt_of_cell? _ _ y0) (fun q => q)).trans y0
        go_wp2_with (refine wpList_app rfl elem_sb (.tmp 26) (.tmp 28) rfl w.heap.size _ k _ (by rfl) HOW.out (wr.heap.size + 1 + 1) (SB.cells ⟨text, 0, [], false⟩) 57 (by rfl) HBN.out rfl (by simp [SB.cells, Value.oneCell']) (by omega) (by have := HI.out.fr.size; simp; omega) ?_)
        intro gb cap w4 hown hfr hat hlt1
        have hF3 : Fr (fun _ => False) wr (((wr.alloc (.cells #[.string ⟨text.toArray⟩, .int .i64 way, .int .u16 (space : Int)] 55)).alloc (.cells #[.string ⟨text.toArray⟩, .int .i64 0, .string ⟨#[]⟩, .bool false] 57)).alloc (.cells #[.string ⟨text.toArray⟩, .int .i64 0, .string ⟨#[]⟩, .bool false] 57)) := (((Fr.refl (fun _ => False) wr).alloc _).alloc _).alloc _
        have hne : ∀ x, v.ownBlock = some x → x ≠ w.heap.size + 1 + 1 := fun x hx => HI.out.own.ne_blk HI.out.yd (by decide) hx
        have hne1 : ∀ x, v.ownBlock = some x → x ≠ w.heap.size + 1 := fun x hx => HI.out.own.ne_blk HI.out.md (by decide) hx
        have hne0 : ∀ x, v.ownBlock = some x → x ≠ w.heap.size := fun x hx => HI.out.own.ne_blk HI.out.rs (by decide) hx
        have b2 := hfr.blk (hF3.blk HI.out.yd (fun q => q)) (fun q => hne _ q rfl)
        have b1 := hfr.blk (hF3.blk HI.out.md (fun q => q)) (fun q => hne1 _ q rfl)
        have b0 := hfr.blk (hF3.blk HI.out.rs (fun q => q)) (fun q => hne0 _ q rfl)
        have d0 : w4.cell? ⟨w.heap.size + 1 + 1, 0, none⟩ = some v := by rw [cell_of_row w4 _ 0 _ _ _ b2]; rfl
        have dz : w4.frozen? ⟨w.heap.size + 1 + 1, 0, none⟩ = false := by simp [World.frozen?, b2]
        have HFR := Lib.hid (HI.out.fr.trans' ((hF3.mono (S' := fun x => v.ownBlock = some x) (fun _ _ q => q.elim)).trans hfr) (fun x hx q => by have := HI.out.own.blk_ge q; omega))
        have HB := Lib.hid (And.intro b2 (And.intro b1 b0))
        have HOWN := Lib.hid hown
        clear hF3 hne hne1 hne0 b2 b1 b0 hown hfr hat hlt1
        go_wp2_with fail
        go_roundw
        case rel =>
          obtain ⟨b2, b1, b0⟩ := HB.out
          obtain ⟨hl, e⟩ := List.getElem?_eq_some_iff.1 HS.out
          have hJ : Fr (Just (w.heap.size + 1 + 1)) w4 (w4.setCell ⟨w.heap.size + 1 + 1, 0, none⟩ (.slice (some ⟨gb, 0, none⟩) (k + 1) cap)) := just1 _ _ _
          refine ⟨k + 1, .slice (some ⟨gb, 0, none⟩) (k + 1) cap, by omega, by go_num, ⟨?_, hJ.blk b1 (fun q => by have q : w.heap.size + 1 = w.heap.size + 1 + 1 := q; omega), hJ.blk b0 (fun q => by have q : w.heap.size = w.heap.size + 1 + 1 := q; omega), ?_, HFR.out.trans' hJ (fun x hx q => by have q : x = w.heap.size + 1 + 1 := q; omega)⟩⟩
          · simp [World.setCell, Array.getElem?_modify, b2]
          · rw [List.take_succ_eq_append_getElem hl, e, List.map_append, sbs_append, List.map_cons, List.map_nil, sbs_one]
            have ho := HOWN.out.fr hJ (fun x hx q => HOWN.out.ne_blk b2 (by decide) hx q)
            rw [← List.map_take] at ho
            have es : sbOf ⟨text, way, space⟩ = ⟨text, 0, [], false⟩ := by simp [sbOf, hway]
            rw [es]
            exact ho
        case measure => simp [intOf]; omega
    · have hkk : k = starts.length := by omega
      subst hkk
      have ho := hI.own
      rw [List.take_length] at ho
      obtain ⟨B1, d1, rfl⟩ := ho.value
      have y0 : wr.cell? ⟨w.heap.size + 1 + 1, 0, none⟩ = some (.slice B1 starts.length d1) := by rw [cell_of_row wr _ 0 _ _ _ hI.yd]; rfl
      have y1 : wr.cell? ⟨w.heap.size + 1 + 1, 1, none⟩ = some (.slice (some ⟨w.heap.size + 1, 0, none⟩) nb nb) := by rw [cell_of_row wr _ 1 _ _ _ hI.yd]; rfl
      have q0 : wr.cell? ⟨w.heap.size, 0, none⟩ = some (.slice none 0 0) := by rw [cell_of_row wr _ 0 _ _ _ hI.rs]; rfl
      have q1 : wr.cell? ⟨w.heap.size, 1, none⟩ = some (.slice none 0 0) := by rw [cell_of_row wr _ 1 _ _ _ hI.rs]; rfl
      have z0 : wr.frozen? ⟨w.heap.size, 0, none⟩ = false := by simp [World.frozen?, hI.rs]
      have z1 : wr.frozen? ⟨w.heap.size, 1, none⟩ = false := by simp [World.frozen?, hI.rs]
      have hJ : Fr (Just w.heap.size) wr ((wr.setCell ⟨w.heap.size, 0, none⟩ (.slice B1 starts.length d1)).setCell ⟨w.heap.size, 1, none⟩ (.slice (some ⟨w.heap.size + 1, 0, none⟩) nb nb)) := just2 _ _ _ _
      have HO1 := Lib.hid (ho.fr hJ (fun x hx q => ho.ne_blk hI.rs (by decide) hx q))
      have HO2 := Lib.hid (Own.made' nb (by omega) (base := w.heap.size) (H := w.heap.size + 1) (by omega) (hJ.blk hI.md (fun q => by have q : w.heap.size + 1 = w.heap.size := q; omega)))
      have HFF := Lib.hid (hI.fr.trans' hJ (fun x hx q => by have q : x = w.heap.size := q; omega))
      clear hI ho hJ
      go_wp2_with fail
      refine bodyPost_ret (v := .agg #[.slice B1 starts.length d1, .slice (some ⟨w.heap.size + 1, 0, none⟩) nb nb]) (by simp [results, Tryz.results9, go_sem, q0, q1]) rfl ?_
      refine ⟨_, _, rfl, ?_, ?_, HFF.out⟩
      · have e : (Yd.begin starts nb).bufs.length = starts.length := by simp [Yd.begin]
        rw [e, begin_bufs]
        exact HO1.out
      · have e : (Yd.begin starts nb).blds.length = nb := by simp [Yd.begin]
        rw [e]
        exact HO2.out
end Go.Proofs.YtkggebhkjgjijaaGreatDoor

namespace Go.Proofs.YtkggebhkjgjijaaGreatDoor
open Go

/-- A yard of one buffer. -/
def yd1 (b : SB) : Yd := ⟨[b], []⟩
/-- Calls of the first buffer alone. -/
def Cl.one (c : Cl) : Prop := c.a = 0 ∧ (c.op < 23 ∨ c.op = 26 ∨ c.op = 27)
/-- A script behind another one. -/
theorem runF_append : ∀ (l m : List Cl) (y : Yd), Mild y l → runF y (l ++ m) = ((runF y l).1 ++ (runF (runF y l).2 m).1, (runF (runF y l).2 m).2)
  | [], m, y, _ => rfl
  | c :: l, m, y, h => by
    simp only [List.cons_append, runF]
    rw [if_neg h.2.1, if_neg h.2.1, runF_append l m _ h.2.2]
    rfl
theorem Mild.append : ∀ (l m : List Cl) (y : Yd), Mild y l → Mild (runF y l).2 m → Mild y (l ++ m)
  | [], m, y, _, h => h
  | c :: l, m, y, h, k => by
    refine ⟨h.1, h.2.1, Mild.append l m _ h.2.2 ?_⟩
    simp only [runF] at k
    rw [if_neg h.2.1] at k
    exact k
/-! ### reads -/
def Cl.isRead (c : Cl) : Prop := 6 ≤ c.op ∧ c.op ≤ 11
/-! ### FnUnreadReads -/
/-! ### FnUnreadWritten -/
def Cl.valid (c : Cl) : Prop := (c.op = 4 ∨ c.op = 31) → enc c.char ≠ []
/-- What a call writes. -/
def textF (c : Cl) : List UInt8 := if c.op = 3 ∨ c.op = 30 then [c.sign] else if c.op = 4 ∨ c.op = 31 then enc c.char else c.text
/-! ### FnTruncateForgets -/
def Cl.isBack (c : Cl) : Prop := c.op = 12 ∨ c.op = 13
end Go.Proofs.YtkggebhkjgjijaaGreatDoor
