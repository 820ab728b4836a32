/- (*bytes.Buffer).String, NewBuffer, NewBufferString; conversions between strings and bytes over this program. -/
import Derived.Test.YtimigjjokdnfbaaDoorBufW
import Derived.Laws.BytesString
namespace Go.Proofs.YtimigjjokdnfbaaDoor
open Go Go.RowKit

theorem foldl_push (l : List UInt8) : ∀ (s : ByteArray), (l.map fun x => (x.toNat : Int)).foldl (fun r n => r.push (UInt8.ofNat n.toNat)) s = ⟨(s.data.toList ++ l).toArray⟩ := by
  induction l with
  | nil => intro s; simp
  | cons x l ih =>
    intro s
    simp only [List.map_cons, List.foldl_cons, ih]
    simp

/-- string(p) of a slice that reads as l. -/
theorem conv_str {w : World} {A : Option Addr} {n c : Nat} {l : List UInt8} (h : Src w (.slice A n c) l) : (convert 52 9 (.slice A n c)).run Tryd.prog w = .ok (.string ⟨l.toArray⟩) w := by
  rw [run_convert_bytes_string w _ _ 5 A n c Tryd.underlying52 Tryd.underlying5 Tryd.underlying9]
  rcases h with h | ⟨A', c', h, k⟩
  · cases h
  · injection h with h1 h2 h3
    subst h1 h2 h3
    rcases Nat.eq_zero_or_pos l.length with h0 | h0
    · obtain rfl : l = [] := List.eq_nil_of_length_eq_zero h0
      cases A with
      | none => rfl
      | some a =>
        exact run_bytesToString (P := Tryd.prog) w a 0 c [] (by simp [loadCells, loadCellsFrom])
    · obtain ⟨ad, rfl, hc⟩ := k h0
      have hl := run_loadCells_list (P := Tryd.prog) w ad (bcs l) (fun j u hu => by
        have hj : j < l.length := by have := (List.getElem?_eq_some_iff.1 hu).1; simpa using this
        rw [bcs_get_lt l j hj] at hu
        injection hu with hu
        subst hu
        exact hc j _ (List.getElem?_eq_getElem hj))
      rw [bcs_length] at hl
      have e : bcs l = (l.map fun x => (x.toNat : Int)).map (Value.int .u8) := by simp [bcs]
      rw [e] at hl
      rw [run_bytesToString w ad l.length c _ hl, foldl_push]
      simp

theorem Src.unread {w : World} {b : Nat} {g : Gh} (h : BufAt w b g) : Src w (.slice (cutA g.row g.off g.all.length) (g.len - g.off) (g.all.length - g.off)) g.txt := by
  cases hr : g.row with
  | none =>
    have ha := h.nil hr
    have h1 := h.lc
    have h2 := h.ol
    rw [ha] at h1
    simp only [List.length_nil, Nat.le_zero] at h1
    have : g.txt = [] := by simp [Gh.txt, ha]
    rw [this, h1, Nat.zero_sub]
    exact .inr ⟨_, _, rfl, fun q => absurd q (by simp)⟩
  | some r =>
    have := Src.cut (h.row r hr) h.ol h.lc
    simp only [cutA, rowA_some, Option.map_some]
    exact this

set_option maxRecDepth 100000 in
theorem buf_string (w : World) (b : Nat) (g : Gh) (h : BufAt w b g) :
    Calls Tryd.prog 11 #[.pointer (some ⟨b, 0, none⟩)] w fun e w' => e = .returned (.string ⟨g.txt.toArray⟩) ∧ w' = w.drew := by
  have c0 := h.c0; have c1 := h.c1; have ho := h.ol; have hl := h.lc; have hz := h.sz
  have hsl := fun w' => slice_from g.row g.len g.all.length g.off ho w'
  have hcv := conv_str (Src.unread h.drew)
  clear h
  go_enter Tryd.func11, Tryd.ntmps11
  go_wp2_with fail
  refine wp_region_mixed 10 (by kernel_rfl) (by kernel_rfl) (fun _ _ d _ _ h => by cases d <;> exact h) ?_
  simp only [List.take_succ_cons, List.take_zero, List.drop_succ_cons, List.drop_zero, List.filter_cons, List.filter_nil, isMv, Array.isEmpty_iff, Bool.not_false, Bool.and_true, Option.isNone_none, if_true, if_false, Bool.false_eq_true]
  repeat still_step
  refine wpStill_nil ?_
  go_wp2_with fail
  go_ret
  exact ⟨rfl, rfl⟩

/-- A buffer that has been made since w. -/
structure Fresh (w w' : World) (b : Nat) (g : Gh) : Prop where
  at' : BufAt w' b g
  blk : w.heap.size ≤ b
  row : ∀ r, g.row = some r → w.heap.size ≤ r
  fr : Fr (fun _ => False) w w'

/-- []byte(s). -/
theorem conv_bytes (l : List UInt8) (w : World) (hl : l.length ≤ 9223372036854775807) : ∃ (w1 : World) (all : List UInt8), (convert 9 52 (.string ⟨l.toArray⟩)).run Tryd.prog w = .ok (.slice (some ⟨w.heap.size, 0, none⟩) l.length all.length) w1 ∧
    Row 5 w1 w.heap.size all ∧ all.take l.length = l ∧ l.length ≤ all.length ∧ all.length ≤ 9223372036854775807 ∧ Fr (fun _ => False) w w1 ∧ w1.heap.size = w.heap.size + 1 := by
  have h := Lib.run_convert_string_bytes (P := Tryd.prog) w 9 52 5 ⟨l.toArray⟩ Tryd.underlying9 Tryd.underlying52 Tryd.underlying5
  have hsz : (⟨l.toArray⟩ : ByteArray).size = l.length := by simp [ByteArray.size]
  have hge := grownCap_ge w l.length 0 5
  have hle := grownCap_le_maxLen w l.length 0 5 (by unfold maxLen; omega)
  unfold maxLen at hle
  have hcells : Lib.bytesCells w 5 ⟨l.toArray⟩ = (bcs (l ++ List.replicate (grownCap w l.length 0 5 - l.length) 0)).toArray := by
    unfold Lib.bytesCells
    rw [hsz]
    apply Array.ext'
    simp [bcs]
  have hlen : (l ++ List.replicate (grownCap w l.length 0 5 - l.length) (0 : UInt8)).length = grownCap w l.length 0 5 := by simp; omega
  refine ⟨Lib.bytesWorld w 5 ⟨l.toArray⟩, l ++ List.replicate (grownCap w l.length 0 5 - l.length) 0, ?_, ?_, by simp, by simp, by rw [hlen]; omega, ⟨rfl, rfl, rfl, ?_, fun k hk _ => Lib.bytesWorld_at_old w _ _ k hk⟩, Lib.bytesWorld_size w _ _⟩
  · rw [h, hsz, hlen]
  · have := Lib.bytesWorld_at_new w 5 ⟨l.toArray⟩
    rw [hcells] at this
    exact ⟨_, this, .inr (by simp)⟩
  · rw [Lib.bytesWorld_size]; omega

theorem Fresh.new {w w1 : World} {r : Nat} {l : List UInt8} {n : Nat} (hr : Row 5 w1 r l) (hw : w.heap.size ≤ r) (hn : n ≤ l.length) (hl : l.length ≤ 9223372036854775807) (hf : Fr (fun _ => False) w w1) :
    Fresh w (w1.alloc (.cells #[.slice (some ⟨r, 0, none⟩) n l.length, .int .i64 0, .int .i8 0] 61)) w1.heap.size ⟨some r, l, n, 0, 0⟩ := by
  refine ⟨⟨⟨heap_alloc_new w1 _, fun r' hr' => ?_, (fun q => by cases q), hl⟩, Nat.zero_le _, hn⟩, hf.size, fun r' hr' => ?_, hf.alloc _⟩
  · simp only [Option.some.injEq] at hr'
    subst hr'
    exact hr.alloc _
  · simp only [Option.some.injEq] at hr'
    subst hr'
    exact hw

theorem newBufferString (l : List UInt8) (w : World) (hl : l.length ≤ 9223372036854775807) :
    Calls Tryd.prog 22 #[.string ⟨l.toArray⟩] w fun e w' => ∃ b g, e = .returned (.pointer (some ⟨b, 0, none⟩)) ∧ Fresh w w' b g ∧ g.txt = l ∧ g.lr = 0 := by
  obtain ⟨w1, all, hrun, hrow, htk, hla, hlen, hfr, hsz⟩ := conv_bytes l w hl
  have hF := Lib.hid (Fresh.new (n := l.length) hrow (Nat.le_refl _) hla hlen hfr)
  have HT := Lib.hid htk
  clear hrow hfr hsz htk
  go_enter Tryd.func22, Tryd.ntmps22
  go_wp2_with fail
  go_ret
  exact ⟨_, _, rfl, hF.out, by simp [Gh.txt, HT.out], rfl⟩

theorem newBuffer (r n c : Nat) (l : List UInt8) (w w0 : World) (hr : Row 5 w r l) (hc : l.length = c) (hw : w0.heap.size ≤ r) (hn : n ≤ l.length) (hl : l.length ≤ 9223372036854775807) (hf : Fr (fun _ => False) w0 w) :
    Calls Tryd.prog 20 #[.slice (some ⟨r, 0, none⟩) n c] w fun e w' => ∃ b, e = .returned (.pointer (some ⟨b, 0, none⟩)) ∧ Fresh w0 w' b ⟨some r, l, n, 0, 0⟩ ∧ Fr (fun _ => False) w w' := by
  subst hc
  have H := Lib.hid (Fresh.new hr hw hn hl hf)
  clear hr hw hn hl hf
  go_enter Tryd.func20, Tryd.ntmps20
  go_wp2_with fail
  go_ret
  exact ⟨_, rfl, H.out, (Fr.refl _ w).alloc _⟩
end Go.Proofs.YtimigjjokdnfbaaDoor
