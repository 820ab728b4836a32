/- Eq, SpecA, SpecE, LawK. -/
import Derived.Test.YtkggebhkjgjijaaGreatDoorQ26
import Derived.Deep.RegionHeld
import Derived.Laws.BitsLemmas
namespace Go.Proofs.YtkggebhkjgjijaaGreatDoor
open Go Go.RowKit

/-- Cells of elements, one behind the other. -/
theorem flat_get {α : Type} (cells : α → List Value) (size : Nat) (hs : ∀ x, (cells x).length = size) : ∀ (xs : List α) (j : Nat) (x : α) (k : Nat) (v : Value), xs[j]? = some x → (cells x)[k]? = some v → (xs.flatMap cells)[j * size + k]? = some v
  | [], j, x, k, v, h, _ => by simp at h
  | y :: xs, 0, x, k, v, h, hv => by
    simp only [List.getElem?_cons_zero, Option.some.injEq] at h
    subst h
    rw [List.flatMap_cons, Nat.zero_mul, Nat.zero_add, List.getElem?_append_left (List.getElem?_eq_some_iff.1 hv).1]
    exact hv
  | y :: xs, j + 1, x, k, v, h, hv => by
    have ih := flat_get cells size hs xs j x k v (by simpa using h) hv
    have hl := hs y
    rw [List.flatMap_cons, List.getElem?_append_right (by rw [hl, Nat.succ_mul]; omega), hl]
    have e : (j + 1) * size + k - size = j * size + k := by rw [Nat.succ_mul]; omega
    rw [e]
    exact ih
theorem Own.reads {α : Type} {cells : α → List Value} {size : Nat} (hs : ∀ x, (cells x).length = size) (hp : 0 < size) {E : TypeId} {w : World} {base : Nat} {v : Value} {n : Nat} {xs : List α} (h : Own E size w base v n (xs.flatMap cells)) : ∃ A cap, v = .slice A n cap ∧ n ≤ cap ∧ Reads cells size w A xs ∧ ∀ r o, A = some ⟨r, o, none⟩ → Typed w r E ∧ base ≤ r := by
  rcases h.2 with ⟨rfl, h0⟩ | ⟨g, cap, cur, rfl, h1, h2, h3, h4, h5, h6⟩
  · refine ⟨none, 0, by rw [h0], by omega, ⟨fun j x hx => ?_⟩, fun r o e => by cases e⟩
    exfalso
    have hl := h.1
    subst h0
    rw [Nat.zero_mul] at hl
    cases hxs : cells x with
    | nil =>
      have := hs x
      rw [hxs] at this
      simp at this
      omega
    | cons u us =>
      have := flat_get cells size hs xs j x 0 u hx (by rw [hxs]; rfl)
      rw [List.getElem?_eq_none (by omega)] at this
      cases this
  · refine ⟨_, cap, rfl, h3, ⟨fun j x hx => ⟨g, 0, rfl, fun k u hu => ?_⟩⟩, fun r o e => ?_⟩
    · have e := flat_get cells size hs xs j x k u hx hu
      have hl := (List.getElem?_eq_some_iff.1 e).1
      have hl2 := h.1
      rw [← h6, List.getElem?_take_of_lt (by omega)] at e
      rw [Nat.zero_add, cell_of_row w g _ _ _ _ h2]
      simpa using e
    · injection e with e
      injection e with e1 e2
      subst e1
      exact ⟨⟨_, _, h2⟩, h1⟩
theorem Td.cells_len (t : Td) : t.cells.length = 4 := rfl
theorem Cl.cells_len (c : Cl) : c.cells.length = 9 := rfl
theorem St.cells_len (s : St) : s.cells.length = 3 := rfl
def strC (s : List UInt8) : List Value := [strV s]
theorem strs_flat : ∀ l : List (List UInt8), strs l = l.flatMap strC
  | [] => rfl
  | x :: l => by have ih := strs_flat l; simp only [strs, List.map_cons, List.flatMap_cons, strC] at ih ⊢; rw [ih]; rfl

end Go.Proofs.YtkggebhkjgjijaaGreatDoor

namespace Go.Proofs.YtkggebhkjgjijaaGreatDoor
open Go Go.RowKit

/-- A buffer of the reference, as the code has it. -/
def SB.cells (s : SB) : List Value := [.string ⟨s.text.toArray⟩, .int .i64 s.recent, .string ⟨s.last.toArray⟩, .bool s.begun]
def SB.val (s : SB) : Value := .agg s.cells.toArray
theorem SB.cells_len (s : SB) : s.cells.length = 4 := rfl

end Go.Proofs.YtkggebhkjgjijaaGreatDoor

namespace Go.Proofs.YtkggebhkjgjijaaGreatDoor
open Go Go.RowKit

theorem i32_and63 {x : Int} (h0 : 0 ≤ x) (h1 : x ≤ 1114111) : bits .and .i32 x 63 = x % 64 := bits_mask .i32 31 (by decide) wraps_i32 6 (by decide) x h0 (by omega)
/-- string([]byte{..}) of a rune's bytes. -/
theorem conv_rune (w : World) (r : Int) {l : List Int} (hl : Lib.encodeRuneZ r = l) : (convert 48 9 (.slice (some ⟨w.heap.size, 0, none⟩) l.length l.length)).run Tryz.prog (w.alloc (.cells (l.map fun x => Value.int .u8 x).toArray 5)) = .ok (.string ⟨(Lib.encodeRune r).toArray⟩) (w.alloc (.cells (l.map fun x => Value.int .u8 x).toArray 5)) := by
  have hrow := Row.new w 5 (Lib.encodeRune r)
  rw [bcs_rune] at hrow
  unfold Lib.runeCells at hrow
  rw [hl] at hrow
  have hlen : (Lib.encodeRune r).length = l.length := by rw [Lib.encodeRune, hl, List.length_map]
  have hs := src_head (c := l.length) (l := Lib.encodeRune r) hrow (List.take_length) (Nat.le_refl _)
  rw [hlen] at hs
  exact conv_str hs
theorem conv_at {w : World} {b : Nat} (r : Int) {l : List Int} (hl : Lib.encodeRuneZ r = l) (hb : w.heap[b]? = some (.cells (l.map fun x => Value.int .u8 x).toArray 5 (0, 0))) : (convert 48 9 (.slice (some ⟨b, 0, none⟩) l.length l.length)).run Tryz.prog w = .ok (.string ⟨(Lib.encodeRune r).toArray⟩) w := by
  have hrow : Row 5 w b (Lib.encodeRune r) := ⟨(0, 0), by rw [bcs_rune, Lib.runeCells, hl]; exact hb, .inl (Nat.le_refl _)⟩
  have hlen : (Lib.encodeRune r).length = l.length := by rw [Lib.encodeRune, hl, List.length_map]
  have hs := src_head (c := l.length) (l := Lib.encodeRune r) hrow (List.take_length) (Nat.le_refl _)
  rw [hlen] at hs
  exact conv_str hs
section
variable (r : Int) (p : Addr) (w : World) (hc : w.cell? p = some (.int .i32 r)) (h0 : 0 ≤ r) (h1 : r ≤ 1114111)
include hc h0 h1
set_option maxRecDepth 100000 in
theorem low_0 : Calls Tryz.prog 20 #[.int .i64 0, .pointer (some p)] w fun e w' => e = .returned (.int .u8 (128 + r % 64)) ∧ w' = w := by
  have b1 := i32_and63 h0 h1
  have b2 : r % 64 % 256 = r % 64 := by omega
  have b3 := u8_or128 (r % 64) (by omega) (by omega)
  go_enter Tryz.func20, Tryz.ntmps20
  go_wp2_with fail
  go_ret
  exact ⟨rfl, rfl⟩
set_option maxRecDepth 100000 in
theorem low_6 : Calls Tryz.prog 20 #[.int .i64 6, .pointer (some p)] w fun e w' => e = .returned (.int .u8 (128 + r / 64 % 64)) ∧ w' = w := by
  have b1 := i32_and63 (x := r / 64) (by omega) (by omega)
  have b2 : r / 64 % 64 % 256 = r / 64 % 64 := by omega
  have b3 := u8_or128 (r / 64 % 64) (by omega) (by omega)
  go_enter Tryz.func20, Tryz.ntmps20
  go_wp2_with fail
  go_ret
  exact ⟨rfl, rfl⟩
set_option maxRecDepth 100000 in
theorem low_12 : Calls Tryz.prog 20 #[.int .i64 12, .pointer (some p)] w fun e w' => e = .returned (.int .u8 (128 + r / 4096 % 64)) ∧ w' = w := by
  have b1 := i32_and63 (x := r / 4096) (by omega) (by omega)
  have b2 : r / 4096 % 64 % 256 = r / 4096 % 64 := by omega
  have b3 := u8_or128 (r / 4096 % 64) (by omega) (by omega)
  go_enter Tryz.func20, Tryz.ntmps20
  go_wp2_with fail
  go_ret
  exact ⟨rfl, rfl⟩
end
def EncPost (w : World) (r : Int) (e : Ending) (w' : World) : Prop := e = .returned (.string ⟨(enc r).toArray⟩) ∧ Fr (fun _ => False) w w'
set_option maxRecDepth 100000 in
theorem encode_bad (r : Int) (w : World) (hb : badRune r) : Calls Tryz.prog 11 #[.int .i32 r] w (EncPost w r) := by
  have he : enc r = [] := by unfold enc; rw [if_pos hb]
  unfold EncPost
  rw [he]
  have hmf : ∀ (fn : Fn) (first cap : Array Value) (w : World), (Instr.makeFunc fn first cap).run Tryz.prog w = .ok (.func fn first cap) w := fun _ _ _ _ => rfl
  unfold badRune at hb
  by_cases h1 : r < 0
  · go_enter Tryz.func11, Tryz.ntmps11
    go_wp2_with fail
    go_ret
    exact ⟨rfl, (Fr.refl _ w).alloc _⟩
  · by_cases h2 : 1114111 < r
    · go_enter Tryz.func11, Tryz.ntmps11
      go_wp2_with fail
      go_ret
      exact ⟨rfl, (Fr.refl _ w).alloc _⟩
    · have h3 : 55296 ≤ r := by omega
      have h4 : r < 57344 := by omega
      go_enter Tryz.func11, Tryz.ntmps11
      go_wp2_with fail
      go_ret
      exact ⟨rfl, (Fr.refl _ w).alloc _⟩
set_option maxRecDepth 100000 in
theorem encode_1 (r : Int) (w : World) (h0 : 0 ≤ r) (h1 : r ≤ 127) : Calls Tryz.prog 11 #[.int .i32 r] w (EncPost w r) := by
  have he : enc r = [r.toNat.toUInt8] := by unfold enc; rw [if_neg (by unfold badRune; omega), Lib.encodeRune, Lib.encodeRuneZ_one h0 h1]; rfl
  unfold EncPost
  rw [he]
  have hmf : ∀ (fn : Fn) (first cap : Array Value) (w : World), (Instr.makeFunc fn first cap).run Tryz.prog w = .ok (.func fn first cap) w := fun _ _ _ _ => rfl
  have b1 : r % 256 = r := by omega
  have hcv := conv_rune (w.alloc (.cells #[.int .i32 r] 21)) r (Lib.encodeRuneZ_one h0 h1)
  simp only [List.map_cons, List.map_nil, List.length_cons, List.length_nil, World.size_alloc] at hcv
  have he2 : Lib.encodeRune r = [r.toNat.toUInt8] := by rw [Lib.encodeRune, Lib.encodeRuneZ_one h0 h1]; rfl
  rw [he2] at hcv
  go_enter Tryz.func11, Tryz.ntmps11
  go_wp2_with fail
  go_ret
  exact ⟨rfl, ((Fr.refl _ w).alloc _).alloc _⟩
set_option maxHeartbeats 1600000 in
set_option maxRecDepth 100000 in
theorem encode_2 (r : Int) (w : World) (h0 : 128 ≤ r) (h1 : r ≤ 2047) : Calls Tryz.prog 11 #[.int .i32 r] w (EncPost w r) := by
  have he : enc r = Lib.encodeRune r := by unfold enc; rw [if_neg (by unfold badRune; omega)]
  unfold EncPost
  rw [he]
  have hmf : ∀ (fn : Fn) (first cap : Array Value) (w : World), (Instr.makeFunc fn first cap).run Tryz.prog w = .ok (.func fn first cap) w := fun _ _ _ _ => rfl
  have b1 : IntKind.u8.wrap (r / 64) = r / 64 := by rw [IntKind.wrap_u8']; omega
  have b2 := u8_or192 (r / 64) (by omega) (by omega)
  have h4 : ¬ 55296 ≤ r := by omega
  have h5 : ¬ r < 128 := by omega
  have hcv := conv_at (w := ((w.alloc (.cells #[.int .i32 r] 21)).alloc (.cells #[.int .u8 (192 + r / 64), .int .u8 (128 + r % 64)] 5)).drew) (b := w.heap.size + 1) r (Lib.encodeRuneZ_two h0 h1) (by have h0 := heap_alloc_new (w.alloc (.cells #[.int .i32 r] 21)) (.cells #[.int .u8 (192 + r / 64), .int .u8 (128 + r % 64)] 5); rw [World.size_alloc] at h0; exact h0)
  simp only [List.length_cons, List.length_nil] at hcv
  have h9 : ¬ r < 0 := by omega
  have h8 : ¬ 1114111 < r := by omega
  go_enter Tryz.func11, Tryz.ntmps11
  go_wp2_with fail
  go_region_held (fun w' => w'.cell? ⟨w.heap.size, 0, none⟩ = some (.int .i32 r)) (go_keep) ((go_at_call 20; (first | (refine (low_0 r ⟨w.heap.size, 0, none⟩ _ (by simp) (by omega) (by omega)).mono ?_)); rintro e w2 ⟨rfl, rfl⟩))
  all_goals
    go_wp2_with fail
    go_ret
    exact ⟨rfl, (((Fr.refl _ w).alloc _).alloc _).drew⟩
set_option maxHeartbeats 1600000 in
set_option maxRecDepth 100000 in
theorem encode_3a (r : Int) (w : World) (h0 : 2048 ≤ r) (h1 : r < 55296) : Calls Tryz.prog 11 #[.int .i32 r] w (EncPost w r) := by
  have he : enc r = Lib.encodeRune r := by unfold enc; rw [if_neg (by unfold badRune; omega)]
  unfold EncPost
  rw [he]
  have hmf : ∀ (fn : Fn) (first cap : Array Value) (w : World), (Instr.makeFunc fn first cap).run Tryz.prog w = .ok (.func fn first cap) w := fun _ _ _ _ => rfl
  have b1 : IntKind.u8.wrap (r / 4096) = r / 4096 := by rw [IntKind.wrap_u8']; omega
  have b2 := u8_or224 (r / 4096) (by omega) (by omega)
  have h5 : ¬ r < 128 := by omega
  have h6 : ¬ r < 2048 := by omega
  have h4 : ¬ 55296 ≤ r := by omega
  have hcv := conv_at (w := ((w.alloc (.cells #[.int .i32 r] 21)).alloc (.cells #[.int .u8 (224 + r / 4096), .int .u8 (128 + r / 64 % 64), .int .u8 (128 + r % 64)] 5)).drew) (b := w.heap.size + 1) r (Lib.encodeRuneZ_three (.inl ⟨h0, h1⟩)) (by have h0 := heap_alloc_new (w.alloc (.cells #[.int .i32 r] 21)) (.cells #[.int .u8 (224 + r / 4096), .int .u8 (128 + r / 64 % 64), .int .u8 (128 + r % 64)] 5); rw [World.size_alloc] at h0; exact h0)
  simp only [List.length_cons, List.length_nil] at hcv
  have h9 : ¬ r < 0 := by omega
  have h8 : ¬ 1114111 < r := by omega
  go_enter Tryz.func11, Tryz.ntmps11
  go_wp2_with fail
  go_region_held (fun w' => w'.cell? ⟨w.heap.size, 0, none⟩ = some (.int .i32 r)) (go_keep) ((go_at_call 20; (first | (refine (low_6 r ⟨w.heap.size, 0, none⟩ _ (by simp) (by omega) (by omega)).mono ?_) | (refine (low_0 r ⟨w.heap.size, 0, none⟩ _ (by simp) (by omega) (by omega)).mono ?_)); rintro e w2 ⟨rfl, rfl⟩))
  all_goals
    go_wp2_with fail
    go_ret
    exact ⟨rfl, (((Fr.refl _ w).alloc _).alloc _).drew⟩
set_option maxHeartbeats 1600000 in
set_option maxRecDepth 100000 in
theorem encode_3b (r : Int) (w : World) (h0 : 57343 < r) (h1 : r ≤ 65535) : Calls Tryz.prog 11 #[.int .i32 r] w (EncPost w r) := by
  have he : enc r = Lib.encodeRune r := by unfold enc; rw [if_neg (by unfold badRune; omega)]
  unfold EncPost
  rw [he]
  have hmf : ∀ (fn : Fn) (first cap : Array Value) (w : World), (Instr.makeFunc fn first cap).run Tryz.prog w = .ok (.func fn first cap) w := fun _ _ _ _ => rfl
  have b1 : IntKind.u8.wrap (r / 4096) = r / 4096 := by rw [IntKind.wrap_u8']; omega
  have b2 := u8_or224 (r / 4096) (by omega) (by omega)
  have h5 : ¬ r < 128 := by omega
  have h6 : ¬ r < 2048 := by omega
  have h4 : 55296 ≤ r := by omega
  have h7 : ¬ r < 57344 := by omega
  have hcv := conv_at (w := ((w.alloc (.cells #[.int .i32 r] 21)).alloc (.cells #[.int .u8 (224 + r / 4096), .int .u8 (128 + r / 64 % 64), .int .u8 (128 + r % 64)] 5)).drew) (b := w.heap.size + 1) r (Lib.encodeRuneZ_three (.inr ⟨h0, h1⟩)) (by have h0 := heap_alloc_new (w.alloc (.cells #[.int .i32 r] 21)) (.cells #[.int .u8 (224 + r / 4096), .int .u8 (128 + r / 64 % 64), .int .u8 (128 + r % 64)] 5); rw [World.size_alloc] at h0; exact h0)
  simp only [List.length_cons, List.length_nil] at hcv
  have h9 : ¬ r < 0 := by omega
  have h8 : ¬ 1114111 < r := by omega
  go_enter Tryz.func11, Tryz.ntmps11
  go_wp2_with fail
  go_region_held (fun w' => w'.cell? ⟨w.heap.size, 0, none⟩ = some (.int .i32 r)) (go_keep) ((go_at_call 20; (first | (refine (low_6 r ⟨w.heap.size, 0, none⟩ _ (by simp) (by omega) (by omega)).mono ?_) | (refine (low_0 r ⟨w.heap.size, 0, none⟩ _ (by simp) (by omega) (by omega)).mono ?_)); rintro e w2 ⟨rfl, rfl⟩))
  all_goals
    go_wp2_with fail
    go_ret
    exact ⟨rfl, (((Fr.refl _ w).alloc _).alloc _).drew⟩
set_option maxHeartbeats 1600000 in
set_option maxRecDepth 100000 in
theorem encode_4 (r : Int) (w : World) (h0 : 65536 ≤ r) (h1 : r ≤ 1114111) : Calls Tryz.prog 11 #[.int .i32 r] w (EncPost w r) := by
  have he : enc r = Lib.encodeRune r := by unfold enc; rw [if_neg (by unfold badRune; omega)]
  unfold EncPost
  rw [he]
  have hmf : ∀ (fn : Fn) (first cap : Array Value) (w : World), (Instr.makeFunc fn first cap).run Tryz.prog w = .ok (.func fn first cap) w := fun _ _ _ _ => rfl
  have b1 : IntKind.u8.wrap (r / 262144) = r / 262144 := by rw [IntKind.wrap_u8']; omega
  have b2 := u8_or240 (r / 262144) (by omega) (by omega)
  have h4 : 55296 ≤ r := by omega
  have h7 : ¬ r < 57344 := by omega
  have h5 : ¬ r < 128 := by omega
  have h6 : ¬ r < 2048 := by omega
  have h10 : ¬ r < 65536 := by omega
  have hcv := conv_at (w := ((w.alloc (.cells #[.int .i32 r] 21)).alloc (.cells #[.int .u8 (240 + r / 262144), .int .u8 (128 + r / 4096 % 64), .int .u8 (128 + r / 64 % 64), .int .u8 (128 + r % 64)] 5)).drew) (b := w.heap.size + 1) r (Lib.encodeRuneZ_four h0 h1) (by have h0 := heap_alloc_new (w.alloc (.cells #[.int .i32 r] 21)) (.cells #[.int .u8 (240 + r / 262144), .int .u8 (128 + r / 4096 % 64), .int .u8 (128 + r / 64 % 64), .int .u8 (128 + r % 64)] 5); rw [World.size_alloc] at h0; exact h0)
  simp only [List.length_cons, List.length_nil] at hcv
  have h9 : ¬ r < 0 := by omega
  have h8 : ¬ 1114111 < r := by omega
  go_enter Tryz.func11, Tryz.ntmps11
  go_wp2_with fail
  go_region_held (fun w' => w'.cell? ⟨w.heap.size, 0, none⟩ = some (.int .i32 r)) (go_keep) ((go_at_call 20; (first | (refine (low_12 r ⟨w.heap.size, 0, none⟩ _ (by simp) (by omega) (by omega)).mono ?_) | (refine (low_6 r ⟨w.heap.size, 0, none⟩ _ (by simp) (by omega) (by omega)).mono ?_) | (refine (low_0 r ⟨w.heap.size, 0, none⟩ _ (by simp) (by omega) (by omega)).mono ?_)); rintro e w2 ⟨rfl, rfl⟩))
  all_goals
    go_wp2_with fail
    go_ret
    exact ⟨rfl, (((Fr.refl _ w).alloc _).alloc _).drew⟩
theorem encode_any (r : Int) (w : World) : Calls Tryz.prog 11 #[.int .i32 r] w (EncPost w r) := by
  by_cases hb : badRune r
  · exact encode_bad r w hb
  · unfold badRune at hb
    rcases (show (0 ≤ r ∧ r ≤ 127) ∨ (128 ≤ r ∧ r ≤ 2047) ∨ (2048 ≤ r ∧ r < 55296) ∨ (57343 < r ∧ r ≤ 65535) ∨ (65536 ≤ r ∧ r ≤ 1114111) by omega) with ⟨h0, h1⟩ | ⟨h0, h1⟩ | ⟨h0, h1⟩ | ⟨h0, h1⟩ | ⟨h0, h1⟩
    · exact encode_1 r w h0 h1
    · exact encode_2 r w h0 h1
    · exact encode_3a r w h0 h1
    · exact encode_3b r w h0 h1
    · exact encode_4 r w h0 h1
end Go.Proofs.YtkggebhkjgjijaaGreatDoor

namespace Go.Proofs.YtkggebhkjgjijaaGreatDoor
open Go Go.RowKit

/-- It returns true, and leaves all that there was. -/
def LawPost (w : World) (e : Ending) (w' : World) : Prop := e = .returned (.bool true) ∧ Fr (fun _ => False) w w'
theorem elem_call : ElemOk Tryz.prog 22 27 9 88 := by
  obtain ⟨i0, hi, hz0, hz1, hz2⟩ := info_parts (show (Tryz.prog.info? 27).map (fun i => (i.zero, i.size, i.bytes)) = some (some (.agg #[.int .i64 0, .int .i64 0, .int .i64 0, .int .u16 0, .int .i64 0, .int .u8 0, .int .i32 0, .string ⟨#[]⟩, .slice none 0 0]), 9, 88) by kernel_rfl)
  exact ⟨Tryz.underlying22, ⟨i0, _, hi, hz0, hz1, hz2, rfl⟩, by decide, by decide⟩
def cls (l : List Cl) : List Value := l.flatMap Cl.cells
theorem cls_append (l m : List Cl) : cls (l ++ m) = cls l ++ cls m := by simp [cls]
theorem cls_one (c : Cl) : cls [c] = c.cells := by simp [cls]
/-- A slice of calls of the law's own. -/
abbrev OwnC (w : World) (base : Nat) (v : Value) (l : List Cl) : Prop := Own 27 9 w base v l.length (cls l)
theorem Gl.up {base base' : Nat} {ea eu : Addr} {w : World} (h : Gl base ea eu w) (hb : base ≤ base') : Gl base' ea eu w := by
  have hE : ∀ {x : Nat}, (∃ s, ErrBlk w base x s) → ∃ s, ErrBlk w base' x s := fun ⟨s, k⟩ => ⟨s, k.blk, Nat.lt_of_lt_of_le k.lt hb⟩
  exact ⟨h.eof, h.unr, hE h.be, hE h.bu, h.nu, Nat.lt_of_lt_of_le h.e0 hb, Nat.lt_of_lt_of_le h.e2 hb, fun w' k => h.tabs w' fun x hx => k x (Nat.lt_of_lt_of_le hx hb)⟩
theorem OwnC.slice {w : World} {base : Nat} {A : Option Addr} {n c : Nat} {l : List Cl} (h : OwnC w base (.slice A n c) l) : n = l.length ∧ Reads Cl.cells 9 w A l := by
  obtain ⟨A', c', e, _, hr, _⟩ := Own.reads (cells := Cl.cells) Cl.cells_len (by decide) h
  injection e with e1 e2 e3
  subst e1 e2
  exact ⟨rfl, hr⟩
theorem bytes_appL (a b : List UInt8) : (⟨a.toArray⟩ ++ ⟨b.toArray⟩ : ByteArray) = ⟨(a ++ b).toArray⟩ := by
  apply ByteArray.ext
  simp
/-- Slices of different types lie in different blocks. -/
theorem Own.other {E E' : TypeId} {size size' : Nat} {w : World} {base base' : Nat} {v v' : Value} {n n' : Nat} {xs xs' : List Value} (h : Own E size w base v n xs) (h' : Own E' size' w base' v' n' xs') (hne : E ≠ E') (x : Nat) (hx : v.ownBlock = some x) : v'.ownBlock ≠ some x := by
  intro hx'
  exact (h.typed hx).ne hne (h'.typed hx')
/-- What an append does not touch. -/
theorem Own.keep {E' : TypeId} {size' : Nat} {w w2 : World} {o : Obj} {base : Nat} {v v' : Value} {n' : Nat} {xs' : List Value} (h' : Own E' size' w base v' n' xs') (hd : ∀ x, v'.ownBlock = some x → v.ownBlock ≠ some x) (hfr : Fr (fun x => v.ownBlock = some x) (w.alloc o) w2) : Own E' size' w2 base v' n' xs' :=
  h'.fr (((Fr.refl _ w).alloc o).trans hfr) (fun x hx q => hd x hx q)
theorem Own.apart {E' : TypeId} {size' : Nat} {w : World} {base : Nat} {v v' : Value} {n' g m cap : Nat} {xs' : List Value} (h' : Own E' size' w base v' n' xs') (hd : ∀ x, v'.ownBlock = some x → v.ownBlock ≠ some x) (hat : v.ownBlock = some g ∨ w.heap.size + 1 ≤ g) (x : Nat) (hx : v'.ownBlock = some x) : (Value.slice (some ⟨g, 0, none⟩) m cap).ownBlock ≠ some x := by
  intro q
  have e : g = x := by injection q
  subst e
  rcases hat with k | k
  · exact hd g hx k
  · have := h'.blk_lt hx
    omega
theorem Own.grown {E : TypeId} {size : Nat} {w0 w w2 : World} {o : Obj} {v : Value} {n : Nat} {xs : List Value} (h : Own E size w w0.heap.size v n xs) (h0 : Fr (fun _ => False) w0 w) (hfr : Fr (fun x => v.ownBlock = some x) (w.alloc o) w2) : Fr (fun _ => False) w0 w2 :=
  h0.trans' (((Fr.refl _ w).alloc o).trans hfr) (fun x hx q => by have := h.blk_ge q; omega)
theorem Reads.of_block {α : Type} {cells : α → List Value} {size : Nat} (hs : ∀ x, (cells x).length = size) {w : World} {g : Nat} {xs : List α} {T : TypeId} {fz : Nat × Nat} {cs : Array Value} (h : w.heap[g]? = some (.cells cs T fz)) (hc : cs.toList = xs.flatMap cells) : Reads cells size w (some ⟨g, 0, none⟩) xs := by
  refine ⟨fun j x hx => ⟨g, 0, rfl, fun k v hv => ?_⟩⟩
  have e := flat_get cells size hs xs j x k v hx hv
  rw [Nat.zero_add, cell_of_row w g _ _ _ _ h, ← Array.getElem?_toList, hc]
  exact e
theorem Own.readsAt {α : Type} {cells : α → List Value} {size : Nat} (hs : ∀ x, (cells x).length = size) (hp : 0 < size) {E : TypeId} {w : World} {base : Nat} {A : Option Addr} {n c : Nat} {xs : List α} (h : Own E size w base (.slice A n c) n (xs.flatMap cells)) : Reads cells size w A xs := by
  obtain ⟨A', c', e, _, hr, _⟩ := Own.reads (cells := cells) hs hp h
  injection e with e1 e2
  subst e1
  exact hr
theorem Own.readsStrs {E : TypeId} {w : World} {base : Nat} {A : Option Addr} {n c : Nat} {xs : List (List UInt8)} (h : Own E 1 w base (.slice A n c) n (strs xs)) : Reads strC 1 w A xs := by
  rw [strs_flat] at h
  exact Own.readsAt (cells := strC) (fun _ => rfl) (by decide) h

end Go.Proofs.YtkggebhkjgjijaaGreatDoor
