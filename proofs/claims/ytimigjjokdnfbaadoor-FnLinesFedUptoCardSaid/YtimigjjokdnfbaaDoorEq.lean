/- slices.Equal of slices that read alike. -/
import Derived.Test.YtimigjjokdnfbaaDoorRun
namespace Go.Proofs.YtimigjjokdnfbaaDoor
open Go Go.RowKit

/-- Cells of elements, one behind the other. -/
theorem flat_get {α : Type} (cells : α → List Value) (size : Nat) (hs : ∀ x, (cells x).length = size) : ∀ (xs : List α) (j : Nat) (x : α) (k : Nat) (v : Value), xs[j]? = some x → (cells x)[k]? = some v → (xs.flatMap cells)[j * size + k]? = some v
  | [], j, x, k, v, h, _ => by simp at h
  | y :: xs, 0, x, k, v, h, hv => by
    simp only [List.getElem?_cons_zero, Option.some.injEq] at h
    subst h
    rw [List.flatMap_cons, Nat.zero_mul, Nat.zero_add, List.getElem?_append_left (List.getElem?_eq_some_iff.1 hv).1]
    exact hv
  | y :: xs, j + 1, x, k, v, h, hv => by
    have ih := flat_get cells size hs xs j x k v (by simpa using h) hv
    have hl := hs y
    rw [List.flatMap_cons, List.getElem?_append_right (by rw [hl, Nat.succ_mul]; omega), hl]
    have e : (j + 1) * size + k - size = j * size + k := by rw [Nat.succ_mul]; omega
    rw [e]
    exact ih
theorem Own.reads {α : Type} {cells : α → List Value} {size : Nat} (hs : ∀ x, (cells x).length = size) (hp : 0 < size) {E : TypeId} {w : World} {base : Nat} {v : Value} {n : Nat} {xs : List α} (h : Own E size w base v n (xs.flatMap cells)) : ∃ A cap, v = .slice A n cap ∧ n ≤ cap ∧ Reads cells size w A xs ∧ ∀ r o, A = some ⟨r, o, none⟩ → Typed w r E ∧ base ≤ r := by
  rcases h.2 with ⟨rfl, h0⟩ | ⟨g, cap, cur, rfl, h1, h2, h3, h4, h5, h6⟩
  · refine ⟨none, 0, by rw [h0], by omega, ⟨fun j x hx => ?_⟩, fun r o e => by cases e⟩
    exfalso
    have hl := h.1
    subst h0
    rw [Nat.zero_mul] at hl
    cases hxs : cells x with
    | nil =>
      have := hs x
      rw [hxs] at this
      simp at this
      omega
    | cons u us =>
      have := flat_get cells size hs xs j x 0 u hx (by rw [hxs]; rfl)
      rw [List.getElem?_eq_none (by omega)] at this
      cases this
  · refine ⟨_, cap, rfl, h3, ⟨fun j x hx => ⟨g, 0, rfl, fun k u hu => ?_⟩⟩, fun r o e => ?_⟩
    · have e := flat_get cells size hs xs j x k u hx hu
      have hl := (List.getElem?_eq_some_iff.1 e).1
      have hl2 := h.1
      rw [← h6, List.getElem?_take_of_lt (by omega)] at e
      rw [Nat.zero_add, cell_of_row w g _ _ _ _ h2]
      simpa using e
    · injection e with e
      injection e with e1 e2
      subst e1
      exact ⟨⟨_, _, h2⟩, h1⟩
theorem Td.cells_len (t : Td) : t.cells.length = 4 := rfl
theorem Cl.cells_len (c : Cl) : c.cells.length = 9 := rfl
theorem St.cells_len (s : St) : s.cells.length = 3 := rfl
def strC (s : List UInt8) : List Value := [strV s]
theorem strs_flat : ∀ l : List (List UInt8), strs l = l.flatMap strC
  | [] => rfl
  | x :: l => by have ih := strs_flat l; simp only [strs, List.map_cons, List.flatMap_cons, strC] at ih ⊢; rw [ih]; rfl

set_option maxHeartbeats 1600000 in
set_option maxRecDepth 100000 in
theorem equal_told (ts : List Td) (A1 A2 : Option Addr) (c1 c2 : Nat) (w : World) (h1 : Reads Td.cells 4 w A1 ts) (h2 : Reads Td.cells 4 w A2 ts) (hn : ts.length ≤ 4294967296) :
    Calls Tryd.prog 6 #[.slice A1 ts.length c1, .slice A2 ts.length c2] w fun e w' => e = .returned (.bool true) ∧ Fr (fun _ => False) w w' := by
  have H1 := Lib.hid h1
  have H2 := Lib.hid h2
  clear h1 h2
  go_enter Tryd.func6, Tryd.ntmps6
  go_wp2_with fail
  go_loopw [13] (fun i wr => ∃ (k q : Nat), k ≤ ts.length ∧ i = .int .i64 (k : Int) ∧ wr = w.drewN q) (fun i _ => ts.length - (intOf i).toNat)
  case atStart => exact ⟨0, 0, Nat.zero_le _, rfl, rfl⟩
  case round =>
    obtain ⟨k, q, hk, rfl, rfl⟩ := hrel
    by_cases hlt : k < ts.length
    · obtain ⟨r1, o1, rfl, d1⟩ := H1.out.at' k ts[k] (List.getElem?_eq_getElem hlt)
      obtain ⟨r2, o2, rfl, d2⟩ := H2.out.at' k ts[k] (List.getElem?_eq_getElem hlt)
      generalize ts[k] = t at *
      obtain ⟨tn, tt, tc, tsd⟩ := t
      have a0 := d1 0 _ rfl; have a1 := d1 1 _ rfl; have a2 := d1 2 _ rfl; have a3 := d1 3 _ rfl
      have b0 := d2 0 _ rfl; have b1 := d2 1 _ rfl; have b2 := d2 2 _ rfl; have b3 := d2 3 _ rfl
      simp only [Nat.add_zero] at a0 b0
      have hki : (k : Int) < (ts.length : Int) := by omega
      have hk0 : (0 : Int) ≤ (k : Int) := by omega
      clear d1 d2
      go_wp2_with fail
      go_quiet (fail)
      go_wp2_with fail
      go_roundw
      case rel => exact ⟨k + 1, _, by omega, by go_num, rfl⟩
      case measure => simp [intOf]; omega
    · go_wp2_with fail
      go_ret
      exact ⟨rfl, (Fr.refl _ w).drewN q⟩

set_option maxHeartbeats 1600000 in
set_option maxRecDepth 100000 in
theorem equal_strs (ts : List (List UInt8)) (A1 A2 : Option Addr) (c1 c2 : Nat) (w : World) (h1 : Reads strC 1 w A1 ts) (h2 : Reads strC 1 w A2 ts) (hn : ts.length ≤ 4294967296) :
    Calls Tryd.prog 7 #[.slice A1 ts.length c1, .slice A2 ts.length c2] w fun e w' => e = .returned (.bool true) ∧ Fr (fun _ => False) w w' := by
  have H1 := Lib.hid h1
  have H2 := Lib.hid h2
  clear h1 h2
  go_enter Tryd.func7, Tryd.ntmps7
  go_wp2_with fail
  go_loopw [13] (fun i wr => ∃ (k q : Nat), k ≤ ts.length ∧ i = .int .i64 (k : Int) ∧ wr = w.drewN q) (fun i _ => ts.length - (intOf i).toNat)
  case atStart => exact ⟨0, 0, Nat.zero_le _, rfl, rfl⟩
  case round =>
    obtain ⟨k, q, hk, rfl, rfl⟩ := hrel
    by_cases hlt : k < ts.length
    · obtain ⟨r1, o1, rfl, d1⟩ := H1.out.at' k ts[k] (List.getElem?_eq_getElem hlt)
      obtain ⟨r2, o2, rfl, d2⟩ := H2.out.at' k ts[k] (List.getElem?_eq_getElem hlt)
      generalize ts[k] = t at *
      have a0 := d1 0 _ rfl
      have b0 := d2 0 _ rfl
      simp only [Nat.add_zero, Nat.mul_one, strV] at a0 b0
      have hki : (k : Int) < (ts.length : Int) := by omega
      have hk0 : (0 : Int) ≤ (k : Int) := by omega
      clear d1 d2
      go_wp2_with fail
      go_quiet (fail)
      go_wp2_with fail
      go_roundw
      case rel => exact ⟨k + 1, _, by omega, by go_num, rfl⟩
      case measure => simp [intOf]; omega
    · go_wp2_with fail
      go_ret
      exact ⟨rfl, (Fr.refl _ w).drewN q⟩
end Go.Proofs.YtimigjjokdnfbaaDoor
