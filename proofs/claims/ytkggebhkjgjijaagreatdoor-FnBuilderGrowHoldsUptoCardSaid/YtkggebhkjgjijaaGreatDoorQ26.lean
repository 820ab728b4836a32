/- Opened, Run. -/
import Derived.Deep.RegionLaw
import Derived.Test.YtkggebhkjgjijaaGreatDoorQ15
import Derived.Test.YtkggebhkjgjijaaGreatDoorQ06
import Derived.Test.YtkggebhkjgjijaaGreatDoorQ25
namespace Go.Proofs.YtkggebhkjgjijaaGreatDoor
open Go Go.RowKit

theorem begin_any' (s : St) (w : World) (hl : s.text.length ≤ 1099511627776) (hs : s.space ≤ 65535) :
    Calls Tryz.prog 21 #[startV s.text s.way s.space] w (BeginPost w s.text) := by
  obtain ⟨text, way, space⟩ := s
  by_cases h1 : way = 1
  · subst h1
    exact begin_slice text space w hl hs
  · by_cases h2 : way = 2
    · subst h2
      exact begin_write text space w hl
    · exact begin_string text way space w (by simpa using h1) (by simpa using h2) hl

theorem elem_bufp : ElemOk Tryz.prog 66 70 1 8 := by
  obtain ⟨i0, hi, hz0, hz1, hz2⟩ := info_parts (show (Tryz.prog.info? 70).map (fun i => (i.zero, i.size, i.bytes)) = some (some (.pointer none), 1, 8) by kernel_rfl)
  exact ⟨Tryz.underlying66, ⟨i0, _, hi, hz0, hz1, hz2, rfl⟩, by decide, by decide⟩
theorem elem_bldp : ElemOk Tryz.prog 67 72 1 8 := by
  obtain ⟨i0, hi, hz0, hz1, hz2⟩ := info_parts (show (Tryz.prog.info? 72).map (fun i => (i.zero, i.size, i.bytes)) = some (some (.pointer none), 1, 8) by kernel_rfl)
  exact ⟨Tryz.underlying67, ⟨i0, _, hi, hz0, hz1, hz2, rfl⟩, by decide, by decide⟩

def bptr (p : Nat × Gh) : Value := .pointer (some ⟨p.1, 0, none⟩)
def dptr (p : Nat × BG) : Value := .pointer (some ⟨p.1, 0, none⟩)
/-- A yard in the making. -/
structure YardO (w : World) (base yb : Nat) (v v' : Value) (lab : Nat → Nat) (bs : List (Nat × Gh)) (ds : List (Nat × BG)) : Prop where
  bb : base ≤ yb
  bw : base ≤ w.heap.size
  st : w.heap[yb]? = some (.cells #[v, v'] 69 (0, 0))
  ob : Own 70 1 w base v bs.length (bs.map bptr)
  od : Own 72 1 w base v' ds.length (ds.map dptr)
  ba : ∀ (i : Nat) (p : Nat × Gh), bs[i]? = some p → BufAt w p.1 p.2
  da : ∀ (i : Nat) (p : Nat × BG), ds[i]? = some p → BldAt w p.1 p.2
  bl : ∀ (i : Nat) (p : Nat × Gh) (x : Nat), bs[i]? = some p → p.2.foot p.1 x → base ≤ x ∧ lab x = 2 * i
  dl : ∀ (i : Nat) (p : Nat × BG) (x : Nat), ds[i]? = some p → p.2.foot p.1 x → base ≤ x ∧ lab x = 2 * i + 1

theorem Own.cellAt {E : TypeId} {w : World} {base : Nat} {v : Value} {n : Nat} {xs : List Value} (h : Own E 1 w base v n xs) {i : Nat} {x : Value} (hx : xs[i]? = some x) : ∃ r cap, v = .slice (some ⟨r, 0, none⟩) n cap ∧ Typed w r E ∧ w.cell? ⟨r, i, none⟩ = some x := by
  rcases h.2 with ⟨rfl, h0⟩ | ⟨g, cap, cur, rfl, h1, h2, h3, h4, h5, h6⟩
  · have := h.1
    have hl := (List.getElem?_eq_some_iff.1 hx).1
    omega
  · refine ⟨g, cap, rfl, ⟨_, _, h2⟩, ?_⟩
    have hl := (List.getElem?_eq_some_iff.1 hx).1
    have hxl := h.1
    rw [cell_of_row w g i _ _ _ h2]
    rw [← h6, List.getElem?_take_of_lt (by omega)] at hx
    simpa using hx
theorem YardO.yard {w : World} {base yb : Nat} {v v' : Value} {lab : Nat → Nat} {bs : List (Nat × Gh)} {ds : List (Nat × BG)} (h : YardO w base yb v v' lab bs ds) : YardAt w base yb bs ds := by
  obtain ⟨A, cap, hv⟩ := h.ob.value
  obtain ⟨A', cap', hv'⟩ := h.od.value
  have hob := h.ob
  have hod := h.od
  have hst := h.st
  rw [hv] at hob hst
  rw [hv'] at hod hst
  refine ⟨A, cap, A', cap', lab, h.bb, h.bw, hst, fun i p hp => ?_, fun i p hp => ?_, h.ba, h.da, h.bl, h.dl⟩
  · obtain ⟨r, c, e, h1, h2⟩ := hob.cellAt (i := i) (x := bptr p) (by simp [hp])
    injection e with e
    exact ⟨r, e, h1, h2⟩
  · obtain ⟨r, c, e, h1, h2⟩ := hod.cellAt (i := i) (x := dptr p) (by simp [hp])
    injection e with e
    exact ⟨r, e, h1, h2⟩
theorem BufAt.typed_fr {S : Nat → Prop} {w w' : World} {b : Nat} {g : Gh} (h : BufAt w b g) (hf : Fr S w w') (hS : ∀ x, S x → ¬ Typed w x 84 ∧ ¬ Typed w x 5) : BufAt w' b g :=
  h.fr hf fun x hx q => (h.foot_typed hx).elim (hS x q).1 (hS x q).2
theorem BldAt.typed_fr {S : Nat → Prop} {w w' : World} {b : Nat} {g : BG} (h : BldAt w b g) (hf : Fr S w w') (hS : ∀ x, S x → ¬ Typed w x 74 ∧ ¬ Typed w x 5) : BldAt w' b g :=
  h.fr hf fun x hx q => (h.foot_typed hx).elim (hS x q).1 (hS x q).2
theorem Own.typed {E : TypeId} {size : Nat} {w : World} {base : Nat} {v : Value} {n : Nat} {xs : List Value} (h : Own E size w base v n xs) {x : Nat} (hx : v.ownBlock = some x) : Typed w x E := by
  rcases h.2 with ⟨rfl, _⟩ | ⟨g, cap, cur, rfl, _, h2, _⟩
  · cases hx
  · injection hx with hx
    subst hx
    exact ⟨_, _, h2⟩
theorem Own.typed_fr {S : Nat → Prop} {E : TypeId} {size : Nat} {w w' : World} {base : Nat} {v : Value} {n : Nat} {xs : List Value} (h : Own E size w base v n xs) (hf : Fr S w w') (hS : ∀ x, S x → ¬ Typed w x E) : Own E size w' base v n xs :=
  h.fr hf fun _ hg q => hS _ q (h.typed hg)
theorem Typed.fr {S : Nat → Prop} {w w' : World} {x : Nat} {T : TypeId} (h : Typed w x T) (hf : Fr S w w') (hn : ¬ S x) : Typed w' x T := by
  obtain ⟨cs, fz, k⟩ := h
  exact ⟨cs, fz, hf.blk k hn⟩

section
variable {w w1 w2 : World} {base yb : Nat} {v v' v2 : Value} {lab : Nat → Nat} {bs : List (Nat × Gh)} {ds : List (Nat × BG)}
/-- A buffer more. -/
theorem YardO.addBuf {b : Nat} {g : Gh} (h : YardO w base yb v v' lab bs ds) (hf1 : Fr (fun _ => False) w w1) (hB : BufAt w1 b g) (hb : w.heap.size ≤ b) (hr : ∀ r, g.row = some r → w.heap.size ≤ r)
    (hf2 : Fr (fun x => v.ownBlock = some x) w1 w2) (hown : Own 70 1 w2 base v2 (bs.length + 1) (bs.map bptr ++ [bptr (b, g)])) :
    YardO (w2.setCell ⟨yb, 0, none⟩ v2) base yb v2 v' (labNew w lab (2 * bs.length)) (bs ++ [(b, g)]) ds := by
  have ob1 := h.ob.fr hf1 (fun _ _ q => q)
  have hS2 : ∀ {T : TypeId}, T ≠ 70 → ∀ x, v.ownBlock = some x → ¬ Typed w1 x T := fun hT x q => (ob1.typed q).ne (Ne.symm hT)
  have st1 := hf1.blk h.st (fun q => q)
  have st2 : w2.heap[yb]? = some (.cells #[v, v'] 69 (0, 0)) := hf2.blk st1 (fun q => hS2 (by decide) yb q ⟨_, _, st1⟩)
  have hf3 : Fr (Just yb) w2 (w2.setCell ⟨yb, 0, none⟩ v2) := (Fr.refl _ w2).setCell (fun _ => just_self yb) _
  have hS3 : ∀ {T : TypeId}, T ≠ 69 → ∀ x, Just yb x → ¬ Typed w2 x T := fun hT x q => by
    obtain rfl : x = yb := q
    exact Typed.ne ⟨_, _, st2⟩ (Ne.symm hT)
  refine ⟨h.bb, Nat.le_trans h.bw (Nat.le_trans hf1.size (Nat.le_trans hf2.size hf3.size)), ?_, ?_, ?_, fun i p hp => ?_, fun i p hp => ?_, fun i p x hp hx => ?_, fun i p x hp hx => ?_⟩
  · simp [World.setCell, Array.getElem?_modify, st2]
  · simp only [List.length_append, List.length_singleton, List.map_append, List.map_cons, List.map_nil]
    exact hown.typed_fr hf3 (hS3 (by decide))
  · exact ((h.od.fr hf1 (fun _ _ q => q)).typed_fr hf2 (hS2 (by decide))).typed_fr hf3 (hS3 (by decide))
  · rcases Nat.lt_or_ge i bs.length with hl | hl
    · rw [List.getElem?_append_left hl] at hp
      exact (((h.ba i p hp).fr hf1 (fun _ _ q => q)).typed_fr hf2 (fun x q => ⟨hS2 (by decide) x q, hS2 (by decide) x q⟩)).typed_fr hf3 (fun x q => ⟨hS3 (by decide) x q, hS3 (by decide) x q⟩)
    · rw [List.getElem?_append_right hl] at hp
      have h0 : i - bs.length = 0 := by have := (List.getElem?_eq_some_iff.1 hp).1; simp at this; omega
      rw [h0] at hp
      simp only [List.getElem?_cons_zero, Option.some.injEq] at hp
      subst hp
      exact (hB.typed_fr hf2 (fun x q => ⟨hS2 (by decide) x q, hS2 (by decide) x q⟩)).typed_fr hf3 (fun x q => ⟨hS3 (by decide) x q, hS3 (by decide) x q⟩)
  · exact (((h.da i p hp).fr hf1 (fun _ _ q => q)).typed_fr hf2 (fun x q => ⟨hS2 (by decide) x q, hS2 (by decide) x q⟩)).typed_fr hf3 (fun x q => ⟨hS3 (by decide) x q, hS3 (by decide) x q⟩)
  · rcases Nat.lt_or_ge i bs.length with hl | hl
    · rw [List.getElem?_append_left hl] at hp
      rw [labNew_old ((h.ba i p hp).foot_lt hx)]
      exact h.bl i p x hp hx
    · rw [List.getElem?_append_right hl] at hp
      have h0 : i - bs.length = 0 := by have := (List.getElem?_eq_some_iff.1 hp).1; simp at this; omega
      rw [h0] at hp
      simp only [List.getElem?_cons_zero, Option.some.injEq] at hp
      subst hp
      have hxl : w.heap.size ≤ x := by
        rcases hx with hx | hx
        · rw [hx]; exact hb
        · exact hr x hx
      rw [labNew_new hxl]
      have := h.bw
      exact ⟨by omega, by omega⟩
  · rw [labNew_old ((h.da i p hp).foot_lt hx)]
    exact h.dl i p x hp hx
/-- A builder more. -/
theorem YardO.addBld {b : Nat} {g : BG} (h : YardO w base yb v v' lab bs ds) (hf1 : Fr (fun _ => False) w w1) (hB : BldAt w1 b g) (hb : w.heap.size ≤ b) (hr : ∀ r, g.row = some r → w.heap.size ≤ r)
    (hf2 : Fr (fun x => v'.ownBlock = some x) w1 w2) (hown : Own 72 1 w2 base v2 (ds.length + 1) (ds.map dptr ++ [dptr (b, g)])) :
    YardO (w2.setCell ⟨yb, 1, none⟩ v2) base yb v v2 (labNew w lab (2 * ds.length + 1)) bs (ds ++ [(b, g)]) := by
  have od1 := h.od.fr hf1 (fun _ _ q => q)
  have hS2 : ∀ {T : TypeId}, T ≠ 72 → ∀ x, v'.ownBlock = some x → ¬ Typed w1 x T := fun hT x q => (od1.typed q).ne (Ne.symm hT)
  have st1 := hf1.blk h.st (fun q => q)
  have st2 : w2.heap[yb]? = some (.cells #[v, v'] 69 (0, 0)) := hf2.blk st1 (fun q => hS2 (by decide) yb q ⟨_, _, st1⟩)
  have hf3 : Fr (Just yb) w2 (w2.setCell ⟨yb, 1, none⟩ v2) := (Fr.refl _ w2).setCell (fun _ => just_self yb) _
  have hS3 : ∀ {T : TypeId}, T ≠ 69 → ∀ x, Just yb x → ¬ Typed w2 x T := fun hT x q => by
    obtain rfl : x = yb := q
    exact Typed.ne ⟨_, _, st2⟩ (Ne.symm hT)
  refine ⟨h.bb, Nat.le_trans h.bw (Nat.le_trans hf1.size (Nat.le_trans hf2.size hf3.size)), ?_, ?_, ?_, fun i p hp => ?_, fun i p hp => ?_, fun i p x hp hx => ?_, fun i p x hp hx => ?_⟩
  · simp [World.setCell, Array.getElem?_modify, st2]
  · exact ((h.ob.fr hf1 (fun _ _ q => q)).typed_fr hf2 (hS2 (by decide))).typed_fr hf3 (hS3 (by decide))
  · simp only [List.length_append, List.length_singleton, List.map_append, List.map_cons, List.map_nil]
    exact hown.typed_fr hf3 (hS3 (by decide))
  · exact (((h.ba i p hp).fr hf1 (fun _ _ q => q)).typed_fr hf2 (fun x q => ⟨hS2 (by decide) x q, hS2 (by decide) x q⟩)).typed_fr hf3 (fun x q => ⟨hS3 (by decide) x q, hS3 (by decide) x q⟩)
  · rcases Nat.lt_or_ge i ds.length with hl | hl
    · rw [List.getElem?_append_left hl] at hp
      exact (((h.da i p hp).fr hf1 (fun _ _ q => q)).typed_fr hf2 (fun x q => ⟨hS2 (by decide) x q, hS2 (by decide) x q⟩)).typed_fr hf3 (fun x q => ⟨hS3 (by decide) x q, hS3 (by decide) x q⟩)
    · rw [List.getElem?_append_right hl] at hp
      have h0 : i - ds.length = 0 := by have := (List.getElem?_eq_some_iff.1 hp).1; simp at this; omega
      rw [h0] at hp
      simp only [List.getElem?_cons_zero, Option.some.injEq] at hp
      subst hp
      exact (hB.typed_fr hf2 (fun x q => ⟨hS2 (by decide) x q, hS2 (by decide) x q⟩)).typed_fr hf3 (fun x q => ⟨hS3 (by decide) x q, hS3 (by decide) x q⟩)
  · rw [labNew_old ((h.ba i p hp).foot_lt hx)]
    exact h.bl i p x hp hx
  · rcases Nat.lt_or_ge i ds.length with hl | hl
    · rw [List.getElem?_append_left hl] at hp
      rw [labNew_old ((h.da i p hp).foot_lt hx)]
      exact h.dl i p x hp hx
    · rw [List.getElem?_append_right hl] at hp
      have h0 : i - ds.length = 0 := by have := (List.getElem?_eq_some_iff.1 hp).1; simp at this; omega
      rw [h0] at hp
      simp only [List.getElem?_cons_zero, Option.some.injEq] at hp
      subst hp
      have hxl : w.heap.size ≤ x := by
        rcases hx with hx | hx
        · rw [hx]; exact hb
        · exact hr x hx
      rw [labNew_new hxl]
      have := h.bw
      exact ⟨by omega, by omega⟩
end

/-- A slice of elements of so many cells each that reads as xs. -/
structure Reads {α : Type} (cells : α → List Value) (size : Nat) (w : World) (A : Option Addr) (xs : List α) : Prop where
  at' : ∀ (j : Nat) (x : α), xs[j]? = some x → ∃ r o, A = some ⟨r, o, none⟩ ∧ ∀ (k : Nat) (v : Value), (cells x)[k]? = some v → w.cell? ⟨r, o + j * size + k, none⟩ = some v
theorem Reads.fr {α : Type} {cells : α → List Value} {size : Nat} {w w' : World} {A : Option Addr} {xs : List α} {S : Nat → Prop} (h : Reads cells size w A xs) (hf : Fr S w w') (hS : ∀ r o, A = some ⟨r, o, none⟩ → ¬ S r) : Reads cells size w' A xs := by
  refine ⟨fun j x hx => ?_⟩
  obtain ⟨r, o, e, hc⟩ := h.at' j x hx
  exact ⟨r, o, e, fun k v hv => (hf.cell (World.block_lt_of_cell? _ _ (hc k v hv)) (hS r o e)).trans (hc k v hv)⟩
theorem Reads.nil {α : Type} (cells : α → List Value) (size : Nat) (w : World) (A : Option Addr) : Reads cells size w A [] := ⟨fun j x hx => by simp at hx⟩
theorem Reads.fr0 {α : Type} {cells : α → List Value} {size : Nat} {w w' : World} {A : Option Addr} {xs : List α} (h : Reads cells size w A xs) (hf : Fr (fun _ => False) w w') : Reads cells size w' A xs := h.fr hf (fun _ _ _ q => q)
def St.cells (s : St) : List Value := [.string ⟨s.text.toArray⟩, .int .i64 s.way, .int .u16 (s.space : Int)]

def OpenPost (w : World) (starts : List St) (nb : Nat) (e : Ending) (w' : World) : Prop :=
  ∃ yb bs ds, e = .returned (.pointer (some ⟨yb, 0, none⟩)) ∧ YardAt w' w.heap.size yb bs ds ∧ Rel bs ds (Yd.begin starts nb) ∧ Fr (fun _ => False) w w'

/-- How far the first loop has come. -/
structure OpI (w : World) (starts : List St) (k : Nat) (wr : World) (v : Value) (lab : Nat → Nat) (bs : List (Nat × Gh)) : Prop where
  yo : YardO wr w.heap.size w.heap.size v (.slice none 0 0) lab bs []
  len : bs.length = k
  rel : ∀ (j : Nat) (p : Nat × Gh) (s : St), bs[j]? = some p → starts[j]? = some s → p.2.txt = s.text ∧ p.2.lr = 0
  fr : Fr (fun _ => False) w wr
/-- How far the second loop has come. -/
structure OpJ (w : World) (starts : List St) (wr : World) (v v' : Value) (lab : Nat → Nat) (bs : List (Nat × Gh)) (ds : List (Nat × BG)) (j : Nat) : Prop where
  yo : YardO wr w.heap.size w.heap.size v v' lab bs ds
  len : bs.length = starts.length
  rel : ∀ (j : Nat) (p : Nat × Gh) (s : St), bs[j]? = some p → starts[j]? = some s → p.2.txt = s.text ∧ p.2.lr = 0
  dlen : ds.length = j
  emp : ∀ (i : Nat) (p : Nat × BG), ds[i]? = some p → p.2.txt = []
  fr : Fr (fun _ => False) w wr
theorem YardO.cell0 {w : World} {base yb : Nat} {v v' : Value} {lab : Nat → Nat} {bs : List (Nat × Gh)} {ds : List (Nat × BG)} (h : YardO w base yb v v' lab bs ds) : w.cell? ⟨yb, 0, none⟩ = some v ∧ w.cell? ⟨yb, 1, none⟩ = some v' ∧ ∀ i, w.frozen? ⟨yb, i, none⟩ = false := by
  refine ⟨?_, ?_, fun i => by simp [World.frozen?, h.st]⟩
  · rw [cell_of_row w yb 0 _ _ _ h.st]; rfl
  · rw [cell_of_row w yb 1 _ _ _ h.st]; rfl

set_option maxHeartbeats 1600000 in
set_option maxRecDepth 100000 in
theorem opened_any (starts : List St) (nb : Nat) (A : Option Addr) (c : Nat) (w : World) (hR : Reads St.cells 3 w A starts) (hst : ∀ s ∈ starts, s.text.length ≤ 1099511627776 ∧ s.space ≤ 65535) (hn : starts.length ≤ 4294967296) (hnb : nb ≤ 255) :
    Calls Tryz.prog 12 #[.slice A starts.length c, .int .u8 (nb : Int)] w (OpenPost w starts nb) := by
  have HR := Lib.hid hR
  have HST := Lib.hid hst
  clear hR hst
  go_enter Tryz.func12, Tryz.ntmps12
  go_wp2_with fail
  go_loopw [12] (fun i wr => ∃ (k : Nat) (v : Value) (lab : Nat → Nat) (bs : List (Nat × Gh)), k ≤ starts.length ∧ i = .int .i64 (k : Int) ∧ OpI w starts k wr v lab bs) (fun i _ => starts.length - (intOf i).toNat)
  case atStart =>
    refine ⟨0, .slice none 0 0, fun _ => 0, [], Nat.zero_le _, rfl, ⟨Nat.le_refl _, by simp, heap_alloc_new w _, Own.nil _ _ _ _, Own.nil _ _ _ _, ?_, ?_, ?_, ?_⟩, rfl, ?_, (Fr.refl _ w).alloc _⟩ <;> simp
  case round =>
    obtain ⟨k, v, lab, bs, hk, rfl, hI⟩ := hrel
    by_cases hlt : k < starts.length
    · obtain ⟨r, o, rfl, hc⟩ := HR.out.at' k starts[k] (List.getElem?_eq_getElem hlt)
      have hm := HST.out starts[k] (List.getElem_mem _)
      generalize hs : starts[k] = s at *
      obtain ⟨text, way, space⟩ := s
      have hfr := hI.fr
      have c0 : wr.cell? ⟨r, o + k * 3, none⟩ = some (.string ⟨text.toArray⟩) := (hfr.cell (World.block_lt_of_cell? _ _ (hc 0 _ rfl)) (fun q => q)).trans (hc 0 _ rfl)
      have c1 : wr.cell? ⟨r, o + k * 3 + 1, none⟩ = some (.int .i64 way) := (hfr.cell (World.block_lt_of_cell? _ _ (hc 1 _ rfl)) (fun q => q)).trans (hc 1 _ rfl)
      have c2 : wr.cell? ⟨r, o + k * 3 + 2, none⟩ = some (.int .u16 (space : Int)) := (hfr.cell (World.block_lt_of_cell? _ _ (hc 2 _ rfl)) (fun q => q)).trans (hc 2 _ rfl)
      have hki : (k : Int) < (starts.length : Int) := by omega
      have hk0 : (0 : Int) ≤ (k : Int) := by omega
      have hml := hm.1
      have hms := hm.2
      simp only at hml hms
      obtain ⟨y0, y1, yz⟩ := hI.yo.cell0
      have yz0 := yz 0
      have HI := Lib.hid hI
      have HS := Lib.hid hs
      obtain ⟨sb, hsb⟩ : ∃ sb, sb = wr.heap.size := ⟨_, rfl⟩
      obtain ⟨w1, hw1⟩ : ∃ w1, w1 = wr.alloc (.cells #[.string ⟨text.toArray⟩, .int .i64 way, .int .u16 (space : Int)] 55) := ⟨_, rfl⟩
      have hF1 : Fr (fun _ => False) wr w1 := by rw [hw1]; exact (Fr.refl _ wr).alloc _
      have s0 : w1.cell? ⟨sb, 0, none⟩ = some (.string ⟨text.toArray⟩) := by rw [hw1, hsb]; simp
      have s1 : w1.cell? ⟨sb, 1, none⟩ = some (.int .i64 way) := by rw [hw1, hsb]; simp
      have s2 : w1.cell? ⟨sb, 2, none⟩ = some (.int .u16 (space : Int)) := by rw [hw1, hsb]; simp
      have y01 : w1.cell? ⟨w.heap.size, 0, none⟩ = some v := (hF1.cell (World.block_lt_of_cell? _ _ y0) (fun q => q)).trans y0
      have HW1 := Lib.hid hw1
      have HSB := Lib.hid hsb
      have HF1 := Lib.hid hF1
      obtain ⟨A5, cap5, hv5⟩ := hI.yo.ob.value
      have HV := Lib.hid hv5
      clear hfr hc hI hm hs yz hw1 hsb hF1 y1 hv5
      go_wp2_with fail
      rw [← HW1.out, ← HSB.out]
      go_region_law ((first | (go_simp; go_at_call 21; refine (begin_any' ⟨text, way, space⟩ _ hml hms).mono ?_; rintro e w2 ⟨b, g, rfl, hFr, htx, hlr⟩; have hf2 := hFr.fr; have e0 : w2.cell? ⟨w.heap.size, 0, none⟩ = some v := (hf2.cell (World.block_lt_of_cell? _ _ y01) (fun q => q)).trans y01; have e1 : w2.cell? ⟨sb, 0, none⟩ = some (.string ⟨text.toArray⟩) := (hf2.cell (World.block_lt_of_cell? _ _ s0) (fun q => q)).trans s0; have e2 : w2.cell? ⟨sb, 1, none⟩ = some (.int .i64 way) := (hf2.cell (World.block_lt_of_cell? _ _ s1) (fun q => q)).trans s1; have e3 : w2.cell? ⟨sb, 2, none⟩ = some (.int .u16 (space : Int)) := (hf2.cell (World.block_lt_of_cell? _ _ s2) (fun q => q)).trans s2; have e0' : (w2.alloc (.cells #[.pointer (some ⟨b, 0, none⟩)] 70)).cell? ⟨w.heap.size, 0, none⟩ = some v := (((Fr.refl (fun _ => False) w2).alloc _).cell (World.block_lt_of_cell? _ _ e0) (fun q => q)).trans e0; have n0 := World.new_ne w2 _ e0; have n1 := World.new_ne w2 _ e1; have hf12 : Fr (fun _ => False) wr w2 := (by first | exact HF1.out.trans hf2 | exact HF1.out.drew.trans hf2 | exact (HF1.out.drewN _).trans hf2); have HFR := Lib.hid hFr; have HTX := Lib.hid htx; have HLR := Lib.hid hlr; have HF12 := Lib.hid hf12; clear hFr htx hlr hf2 hf12) | (refine step_app rfl elem_bufp (.tmp 20) (.tmp 23) rfl w.heap.size v bs.length _ rfl (HI.out.yo.ob.fr (HF12.out.alloc _) (fun _ _ q => q)) w2.heap.size [bptr (b, g)] 70 rfl (by exact heap_alloc_new w2 _) rfl (by simp [bptr, Value.oneCell']) (by have := HI.out.len; omega) (by have := (HI.out.fr.trans HF12.out).size; simp; omega) ?_; intro gb cap w3 hown hfr hat hlt1; have hst3 : w3.heap[w.heap.size]? = some (.cells #[v, .slice none 0 0] 69 (0, 0)) := hfr.blk ((HF12.out.alloc _).blk HI.out.yo.st (fun q => q)) (fun q => HI.out.yo.ob.ne_blk HI.out.yo.st (by decide) q rfl); have hsb3 : ∀ j u, w2.cell? ⟨sb, j, none⟩ = some u → w3.cell? ⟨sb, j, none⟩ = some u := (fun j u hu => (hfr.cell (Nat.lt_of_lt_of_le (World.block_lt_of_cell? _ _ hu) (by simp)) (fun q => by have k1 := HI.out.yo.ob.blk_lt q; have k2 := HSB.out; simp only at k1; omega)).trans ((((Fr.refl (fun _ => False) w2).alloc _).cell (World.block_lt_of_cell? _ _ hu) (fun q => q)).trans hu)); have g1 := hsb3 0 _ e1; have g2 := hsb3 1 _ e2; have g3 := hsb3 2 _ e3; have g0 : w3.cell? ⟨w.heap.size, 0, none⟩ = some v := (by rw [cell_of_row w3 _ 0 _ _ _ hst3]; rfl); have gz : w3.frozen? ⟨w.heap.size, 0, none⟩ = false := (by simp [World.frozen?, hst3]); have hne : sb ≠ w.heap.size := (by have := HSB.out; have := HI.out.fr.size; have := lt_of_blk HI.out.yo.st; omega); have hne' : w.heap.size ≠ sb := Ne.symm hne; have HN := HI.out.yo.addBuf (HF12.out.alloc _) (HFR.out.at'.fr ((Fr.refl (fun _ => False) w2).alloc _) (fun _ _ q => q)) (by have k1 := HFR.out.blk; have k2 := HF1.out.size; simp at k1; omega) (fun r hr => by have k1 := HFR.out.row r hr; have k2 := HF1.out.size; simp at k1; omega) hfr hown; have HNH := Lib.hid HN; have HFF := Lib.hid (((HI.out.fr.trans HF12.out).alloc _).trans' hfr (fun x hx q => by have := HI.out.yo.ob.blk_ge q; omega)); clear HN hown hfr hat hlt1 hst3 hsb3)))
      all_goals
        go_wp2_with fail
        go_roundw
        case rel =>
          refine ⟨k + 1, _, _, _, by omega, by go_num, HNH.out, by simp [HI.out.len], fun j p s hp hsj => ?_, HFF.out.setCell (fun q => by simp at q) _⟩
          rcases Nat.lt_or_ge j bs.length with hl | hl
          · rw [List.getElem?_append_left hl] at hp
            exact HI.out.rel j p s hp hsj
          · rw [List.getElem?_append_right hl] at hp
            have h0 : j - bs.length = 0 := by have := (List.getElem?_eq_some_iff.1 hp).1; simp at this; omega
            have hjk : j = k := by have := HI.out.len; omega
            rw [h0] at hp
            simp only [List.getElem?_cons_zero, Option.some.injEq] at hp
            subst hp hjk
            rw [List.getElem?_eq_getElem hlt, HS.out] at hsj
            injection hsj with hsj
            subst hsj
            exact ⟨HTX.out, HLR.out⟩
        case measure => simp [intOf]; omega
    · obtain rfl : k = starts.length := by omega
      have HI := Lib.hid hI
      clear hI hlt
      go_wp2_with fail
      go_loopw [29] (fun i wr2 => ∃ (j : Nat) (v' : Value) (lab' : Nat → Nat) (ds : List (Nat × BG)), j ≤ nb ∧ i = .int .u8 (j : Int) ∧ OpJ w starts wr2 v v' lab' bs ds j) (fun i _ => nb - (intOf i).toNat)
      case atStart => exact ⟨0, _, _, [], Nat.zero_le _, rfl, HI.out.yo, HI.out.len, HI.out.rel, rfl, (fun i p hp => by simp at hp), HI.out.fr⟩
      case round =>
        obtain ⟨j, v', lab', ds, hj, rfl, hJ⟩ := hrel
        by_cases hjl : j < nb
        · obtain ⟨y0, y1, yz⟩ := hJ.yo.cell0
          have yz1 := yz 1
          have hji : (j : Int) < (nb : Int) := by omega
          have HJ := Lib.hid hJ
          obtain ⟨A5, cap5, hv5⟩ := HJ.out.yo.od.value
          rw [hv5] at y1
          have HV := Lib.hid hv5
          clear hJ yz hv5
          go_wp2_with (refine wpList_app rfl elem_bldp (.tmp 35) (.tmp 38) rfl w.heap.size (.slice A5 ds.length cap5) ds.length _ (by rfl) (by have h0 := HJ.out.yo.od.fr (((Fr.refl (fun _ => False) wr).alloc (.cells #[.pointer none, .slice none 0 0] 74)).alloc (.cells #[.pointer (some ⟨wr.heap.size, 0, none⟩)] 72)) (fun _ _ q => q); rw [HV.out] at h0; exact h0) (wr.heap.size + 1) [dptr (wr.heap.size, ⟨none, [], 0, false⟩)] 72 (by rfl) (by have h0 := heap_alloc_new (wr.alloc (.cells #[.pointer none, .slice none 0 0] 74)) (.cells #[.pointer (some ⟨wr.heap.size, 0, none⟩)] 72); simpa [dptr] using h0) rfl (by simp [dptr, Value.oneCell']) (by have := HJ.out.dlen; omega) (by have := HJ.out.fr.size; simp; omega) ?_)
          intro gb cap w3 hown hfr hat hlt1
          have hF1 : Fr (fun _ => False) wr ((wr.alloc (.cells #[.pointer none, .slice none 0 0] 74)).alloc (.cells #[.pointer (some ⟨wr.heap.size, 0, none⟩)] 72)) := ((Fr.refl _ wr).alloc _).alloc _
          have hB : BldAt (wr.alloc (.cells #[.pointer none, .slice none 0 0] 74)) wr.heap.size ⟨none, [], 0, false⟩ := ⟨heap_alloc_new wr _, fun r hr => (by cases hr), fun r hr => (by cases hr), fun _ => ⟨rfl, rfl⟩, by simp⟩
          have hB1 := hB.fr ((Fr.refl (fun _ => False) _).alloc (.cells #[.pointer (some ⟨wr.heap.size, 0, none⟩)] 72)) (fun _ _ q => q)
          rw [← HV.out] at hfr
          have hst3 : w3.heap[w.heap.size]? = some (.cells #[v, v'] 69 (0, 0)) := hfr.blk (hF1.blk HJ.out.yo.st (fun q => q)) (fun q => HJ.out.yo.od.ne_blk HJ.out.yo.st (by decide) q rfl)
          have g1 : w3.cell? ⟨w.heap.size, 1, none⟩ = some v' := by rw [cell_of_row w3 _ 1 _ _ _ hst3]; rfl
          have gz : w3.frozen? ⟨w.heap.size, 1, none⟩ = false := by simp [World.frozen?, hst3]
          have HN := Lib.hid (HJ.out.yo.addBld hF1 hB1 (Nat.le_refl _) (fun r hr => by cases hr) hfr hown)
          have HFF := Lib.hid ((HJ.out.fr.trans hF1).trans' hfr (fun x hx q => by have := HJ.out.yo.od.blk_ge q; omega))
          clear hown hfr hat hlt1 hst3 hF1 hB hB1
          go_wp2_with fail
          go_roundw
          case rel =>
            refine ⟨j + 1, _, _, _, by omega, by go_num, HN.out, HJ.out.len, HJ.out.rel, by simp [HJ.out.dlen], fun i p hp => ?_, HFF.out.setCell (fun q => by simp at q) _⟩
            rcases Nat.lt_or_ge i ds.length with hl | hl
            · rw [List.getElem?_append_left hl] at hp
              exact HJ.out.emp i p hp
            · rw [List.getElem?_append_right hl] at hp
              have h0 : i - ds.length = 0 := by have := (List.getElem?_eq_some_iff.1 hp).1; simp at this; omega
              rw [h0] at hp
              simp only [List.getElem?_cons_zero, Option.some.injEq] at hp
              subst hp
              rfl
          case measure => simp [intOf]; omega
        · obtain rfl : j = nb := by omega
          have HJ := Lib.hid hJ
          clear hJ hjl
          go_wp2_with fail
          go_ret
          refine ⟨w.heap.size, bs, ds, rfl, HJ.out.yo.yard, ⟨?_, ?_, fun i p s hp hs => ?_, fun i p s hp hs => ?_⟩, HJ.out.fr⟩
          · simp [Yd.begin, HJ.out.len]
          · simp [Yd.begin, HJ.out.dlen]
          · simp only [Yd.begin, List.getElem?_map, Option.map_eq_some_iff] at hs
            obtain ⟨s0, h0, rfl⟩ := hs
            obtain ⟨h1, h2⟩ := HJ.out.rel i p s0 hp h0
            refine ⟨h1, fun q => ?_, fun q => ?_, fun _ => h2, fun q => ?_, ?_⟩
            · simp only at q; split at q <;> simp at q
            · simp only at q; split at q <;> simp at q
            · simp only at q; split at q <;> simp at q
            · simp only; split <;> simp
          · rw [HJ.out.emp i p hp]
            simp only [Yd.begin, List.getElem?_replicate] at hs
            split at hs
            · injection hs
            · cases hs
end Go.Proofs.YtkggebhkjgjijaaGreatDoor

namespace Go.Proofs.YtkggebhkjgjijaaGreatDoor
open Go Go.RowKit

theorem runF_snoc : ∀ (l : List Cl) (y : Yd) (c : Cl), Mild y (l ++ [c]) → Mild y l ∧ ((runF y l).2.do c).2.2 = true ∧ ((runF y l).2.do c).2.1.said ≠ 3 ∧ runF y (l ++ [c]) = ((runF y l).1 ++ [((runF y l).2.do c).2.1], ((runF y l).2.do c).1)
  | [], y, c, h => by
    have h' : (y.do c).2.2 = true ∧ (y.do c).2.1.said ≠ 3 ∧ Mild (y.do c).1 [] := h
    refine ⟨trivial, h'.1, h'.2.1, ?_⟩
    simp only [List.nil_append, runF]
    rw [if_neg h'.2.1]
  | d :: l, y, c, h => by
    have h' : (y.do d).2.2 = true ∧ (y.do d).2.1.said ≠ 3 ∧ Mild (y.do d).1 (l ++ [c]) := h
    obtain ⟨k1, k2, k3, k4⟩ := runF_snoc l _ c h'.2.2
    have e1 : runF y (d :: l) = ((y.do d).2.1 :: (runF (y.do d).1 l).1, (runF (y.do d).1 l).2) := by simp only [runF]; rw [if_neg h'.2.1]
    have e2 : runF y (d :: (l ++ [c])) = ((y.do d).2.1 :: (runF (y.do d).1 (l ++ [c])).1, (runF (y.do d).1 (l ++ [c])).2) := by simp only [runF]; rw [if_neg h'.2.1]
    rw [List.cons_append, e1, e2, k4]
    exact ⟨⟨h'.1, h'.2.1, k1⟩, k2, k3, rfl⟩
theorem Mild.take : ∀ (l : List Cl) (y : Yd) (k : Nat), Mild y l → Mild y (l.take k)
  | [], y, k, h => by simp [Mild]
  | c :: l, y, 0, h => trivial
  | c :: l, y, k + 1, h => ⟨h.1, h.2.1, Mild.take l _ k h.2.2⟩
theorem runF_succ {cs : List Cl} {y : Yd} (h : Mild y cs) {k : Nat} (hk : k < cs.length) : ((runF y (cs.take k)).2.do cs[k]).2.2 = true ∧ ((runF y (cs.take k)).2.do cs[k]).2.1.said ≠ 3 ∧
    runF y (cs.take (k + 1)) = ((runF y (cs.take k)).1 ++ [((runF y (cs.take k)).2.do cs[k]).2.1], ((runF y (cs.take k)).2.do cs[k]).1) := by
  have hm := Mild.take cs y (k + 1) h
  rw [List.take_succ_eq_append_getElem hk] at hm ⊢
  exact (runF_snoc _ _ _ hm).2
/-- The sizes along a script. -/
theorem runF_kept {cs : List Cl} {y : Yd} (h : Mild y cs) (hy : y.ok) : ∀ k, k ≤ cs.length → y.Kept (runF y (cs.take k)).2 (wsum (cs.take k))
  | 0, _ => ⟨hy, Nat.le_add_right _ _, rfl, rfl⟩
  | k + 1, hk => by
    have ih := runF_kept h hy k (by omega)
    obtain ⟨_, _, e⟩ := runF_succ h (show k < cs.length by omega)
    have hd := Yd.do_kept cs[k] ih.ok
    rw [e]
    refine ⟨hd.ok, ?_, hd.bl.trans ih.bl, hd.dl.trans ih.dl⟩
    have h1 := hd.tot
    have h2 := ih.tot
    rw [List.take_succ_eq_append_getElem (show k < cs.length by omega), wsum_append, wsum_cons]
    simp only
    have : wsum [] = 0 := rfl
    omega
theorem wsum_take (cs : List Cl) (k : Nat) : wsum (cs.take k) ≤ wsum cs := by
  have := wsum_append (cs.take k) (cs.drop k)
  rw [List.take_append_drop] at this
  omega
theorem Own.empty (E : TypeId) (size : Nat) (w : World) {base : Nat} (hb : base ≤ w.heap.size) : Own E size (w.alloc (.cells #[] E)) base (.slice (some ⟨w.heap.size, 0, none⟩) 0 0) 0 [] :=
  ⟨by simp, .inr ⟨_, 0, #[], rfl, hb, heap_alloc_new w _, Nat.le_refl _, by simp [maxLen], by simp, by simp⟩⟩
theorem ydS.not_own {E : TypeId} {size : Nat} {w : World} {base base' : Nat} {v : Value} {n : Nat} {xs : List Value} (h : Own E size w base v n xs) (h1 : E ≠ 84) (h2 : E ≠ 74) (h3 : E ≠ 5) {x : Nat} (hx : v.ownBlock = some x) : ¬ ydS w base' x := fun q => q.not_typed (h.typed hx) h1 h2 h3
/-- What holds of all calls of a script. -/
structure Script (w : World) (y : Yd) (cs : List Cl) : Prop where
  ok : ∀ c ∈ cs, ClOk w c
  plays : ∀ c ∈ cs, c.plays
  there : ∀ c ∈ cs, c.there y
theorem Cl.there_of {c : Cl} {y y' : Yd} (h : c.there y) (hb : y'.bufs.length = y.bufs.length) (hd : y'.blds.length = y.blds.length) : c.there y' := by
  unfold Cl.there at *
  rw [hb, hd]
  exact h

section
variable {w w' : World} {base yb : Nat} {A : Option Addr} {c : Nat} {A' : Option Addr} {c' : Nat} {lab : Nat → Nat} {bs : List (Nat × Gh)} {ds : List (Nat × BG)}
/-- Blocks of other types may be written. -/
theorem YardC.fr {S : Nat → Prop} (h : YardC w base yb A c A' c' lab bs ds) (hf : Fr S w w') (T : TypeId) (hS : ∀ x, S x → Typed w x T) (h1 : T ≠ 84) (h2 : T ≠ 74) (h3 : T ≠ 5) (h4 : T ≠ 69) (h5 : T ≠ 70) (h6 : T ≠ 72) : YardC w' base yb A c A' c' lab bs ds := by
  have no : ∀ x, ydS w base x → ¬ S x := fun x q k => q.not_typed (hS x k) h1 h2 h3
  refine ⟨h.bb, Nat.le_trans h.bw hf.size, hf.blk h.st (fun k => (hS yb k).ne h4 ⟨_, _, h.st⟩), fun i p hi => ?_, fun i p hi => ?_, fun i p hi => (h.ba i p hi).fr hf (fun x hx => no x (h.bfoot hi hx)), fun i p hi => (h.da i p hi).fr hf (fun x hx => no x (h.dfoot hi hx)), h.bl, h.dl⟩
  · obtain ⟨r, hA, hT, hc⟩ := h.bp i p hi
    have hn : ¬ S r := fun k => (hS r k).ne h5 hT
    exact ⟨r, hA, hT.fr hf hn, (hf.cell (World.block_lt_of_cell? _ _ hc) hn).trans hc⟩
  · obtain ⟨r, hA, hT, hc⟩ := h.dp i p hi
    have hn : ¬ S r := fun k => (hS r k).ne h6 hT
    exact ⟨r, hA, hT.fr hf hn, (hf.cell (World.block_lt_of_cell? _ _ hc) hn).trans hc⟩
theorem YardC.fr0 (h : YardC w base yb A c A' c' lab bs ds) (hf : Fr (fun _ => False) w w') : YardC w' base yb A c A' c' lab bs ds := h.fr hf 9 (fun _ q => q.elim) (by decide) (by decide) (by decide) (by decide) (by decide) (by decide)
/-- A builder's bytes have been frozen. -/
theorem YardC.frz (h : YardC w base yb A c A' c' lab bs ds) {i d : Nat} {g : BG} (hi : ds[i]? = some (d, g)) (hB : BldAt w' d g) (hf : Fr (fun x => g.row = some x) w w') : YardC w' base yb A c A' c' lab bs ds := by
  refine h.upd hf (fun x _ q => h.dfoot hi (.inr q)) rfl rfl (fun j p hp => ?_) (fun j p hp => ?_)
  · refine ⟨(h.ba j p hp).fr hf (fun x hx q => ?_), fun p' hp' => by rw [hp] at hp'; injection hp' with hp'; rw [hp'], fun x hx => h.bl j p x hp hx⟩
    have k1 := (h.bl j p x hp hx).2
    have k2 := (h.dl i _ x hi (.inr q)).2
    omega
  · by_cases hji : j = i
    · subst hji
      rw [hi] at hp
      injection hp with hp
      subst hp
      exact ⟨hB, fun p' hp' => by rw [hi] at hp'; injection hp' with hp'; rw [← hp'], fun x hx => h.dl j _ x hi hx⟩
    · refine ⟨(h.da j p hp).fr hf (fun x hx q => ?_), fun p' hp' => by rw [hp] at hp'; injection hp' with hp'; rw [hp'], fun x hx => h.dl j p x hp hx⟩
      have k1 := (h.dl j p x hp hx).2
      have k2 := (h.dl i _ x hi (.inr q)).2
      omega
end
end Go.Proofs.YtkggebhkjgjijaaGreatDoor
