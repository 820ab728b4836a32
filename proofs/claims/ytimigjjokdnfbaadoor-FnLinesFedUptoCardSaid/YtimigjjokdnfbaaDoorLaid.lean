/- What a row's list of laid variables gives: io.EOF and bytes.errUnreadByte hold two errors, and the tables of unicode/utf8 read as they are. -/
import Derived.Test.YtimigjjokdnfbaaDoorYard
import Derived.Test.YtimigjjokdnfbaaDoorRows
import Derived.Test.YtimigjjokdnfbaaDoorRune
import Derived.Stop.LaidTwo
import Derived.LaidMore
import Derived.Lib.LaidU8T
import Derived.Deep.DeepHandedRow
namespace Go.Proofs.YtimigjjokdnfbaaDoor
open Go Go.RowKit

/-- A part of the list is met where the list is. -/
theorem laidVars_part {P : Program} {w : World} {l' l : List (String × DataW Unit)} (h : l'.Sublist l) : ∀ {ps : List MemPlace}, DataW.LaidVars P w l ps → ∃ ps', DataW.LaidVars P w l' ps' ∧ ps'.Sublist ps := by
  induction h with
  | slnil => exact fun h => ⟨_, h, List.Sublist.refl _⟩
  | cons a _ ih =>
    rintro ps ⟨g, t, cs, fuel, p, q, h1, h2, h3, h4, h5, rfl⟩
    obtain ⟨ps', k1, k2⟩ := ih h5
    exact ⟨ps', k1, k2.trans (List.sublist_append_right _ _)⟩
  | cons_cons a _ ih =>
    rintro ps ⟨g, t, cs, fuel, p, q, h1, h2, h3, h4, h5, rfl⟩
    obtain ⟨ps', k1, k2⟩ := ih h5
    exact ⟨_, ⟨g, t, cs, fuel, p, ps', h1, h2, h3, h4, k1, rfl⟩, (List.Sublist.refl _).append k2⟩
theorem laidMet_part {P : Program} {w : World} {l' l : List (String × DataW Unit)} (hs : l'.Sublist l) (h : laidMet P l w) : laidMet P l' w := by
  obtain ⟨ps, h1, h2, h3⟩ := h
  obtain ⟨ps', k1, k2⟩ := laidVars_part hs h1
  exact ⟨ps', k1, h2.sublist k2, fun b off hm => h3 b off (k2.subset hm)⟩

theorem gEOF : Tryd.prog.globalNamed "io.EOF" = some 0 := by kernel_rfl
theorem gEOFType : (Tryd.prog.globals[0]?).map (·.type) = some 65 := by kernel_rfl
theorem gUnr : Tryd.prog.globalNamed "bytes.errUnreadByte" = some 1 := by kernel_rfl
theorem gUnrType : (Tryd.prog.globals[1]?).map (·.type) = some 65 := by kernel_rfl
theorem cellsErr : Tryd.prog.cellsOf 121 = 1 := by kernel_rfl
theorem cellsStr : Tryd.prog.cellsOf 9 = 1 := by kernel_rfl
theorem star : "*errors.errorString" = "*" ++ "errors.errorString" := by decide
theorem rowErr (u : TypeId) (h : Tryd.prog.typeName? 3 u = some "*errors.errorString") : u = 119 :=
  typeName_ptr_named (nm := "errors.errorString") (by rw [← star]; kernel_rfl) (by kernel_rfl) (by decide) u (by rw [← star]; exact h)
def u8ren : Shelf.Ren := { decRen with t := fun k => if k = 5 then 5 else if k = 119 then 133 else if k = 138 then 135 else 136, g := fun k => if k = 3 then 6 else 7 }
theorem u8types : Go.Proofs.U8Types Tryd.prog u8ren := ⟨Tryd.underlying5, Tryd.underlying133, Tryd.underlying135, Tryd.underlying136⟩
theorem u8extra : Go.Proofs.U8Extra Tryd.prog u8ren := ⟨by kernel_rfl, by kernel_rfl, by kernel_rfl, by kernel_rfl, by kernel_rfl, by kernel_rfl, by kernel_rfl⟩
theorem first_same : Rows.laid_unicode_utf8_first = Go.Lib.firstData := by kernel_rfl
theorem accept_same : Rows.laid_unicode_utf8_acceptRanges = Go.Lib.acceptData := by kernel_rfl

/-- The list that the rows of this part have in common. -/
theorem gl_of_laid {l : List (String × DataW Unit)} {W : World} (h : laidMet Tryd.prog l W)
    (hs : [("io.EOF", Rows.laid_io_EOF), ("bytes.errUnreadByte", Rows.laid_bytes_errUnreadByte)].Sublist l) (h3 : ("unicode/utf8.first", Rows.laid_unicode_utf8_first) ∈ l) (h4 : ("unicode/utf8.acceptRanges", Rows.laid_unicode_utf8_acceptRanges) ∈ l) :
    ∃ ea eu, Gl W.heap.size ea eu W := by
  obtain ⟨a0, a1, s0, s1, c0, c1, t0, t1, hv0, hv1, hc0, _, _, hc1, _, _, hne, hb0, hb1⟩ := laid_sentinels2 (laidMet_part hs h) gEOF gEOFType gUnr gUnrType Tryd.underlying65 rowErr Tryd.underlying119 Tryd.underlying121 rfl rfl Tryd.underlying9 cellsErr cellsStr
  obtain ⟨ps, hl, _, _⟩ := h
  have r3 := Go.Lib.LaidVars_reads hl _ _ h3
  have r4 := Go.Lib.LaidVars_reads hl _ _ h4
  rw [first_same] at r3
  rw [accept_same] at r4
  have ht : Lib.Utf8Tabs 6 7 W := Go.Proofs.utf8Tabs_of_readsT u8types u8extra r3 r4
  have e0 : W.cell? ⟨0, 0, none⟩ = some (errV a0) := by simpa using World.var?_cell gEOF hv0 0
  have e1 : W.cell? ⟨1, 0, none⟩ = some (errV a1) := by simpa using World.var?_cell gUnr hv1 0
  refine ⟨a0, a1, e0, e1, ⟨(c0, t0), hb0, World.block_lt_of_cell? _ _ hc0⟩, ⟨(c1, t1), hb1, World.block_lt_of_cell? _ _ hc1⟩, fun q => hne q.symm, World.block_lt_of_cell? _ _ e0, World.block_lt_of_cell? _ _ e1, fun w' hw => ?_⟩
  have hc : ∀ {x o : Nat} {v : Value}, W.cell? ⟨x, o, none⟩ = some v → w'.cell? ⟨x, o, none⟩ = some v := fun hv => (World.cell?_of_block (hw _ (World.block_lt_of_cell? _ _ hv))).trans hv
  obtain ⟨k1, k2⟩ := ht
  refine ⟨fun c hcl => hc (k1 c hcl), fun i hi => ?_⟩
  obtain ⟨q1, q2⟩ := k2 i hi
  exact ⟨hc q1, hc q2⟩
/-- A world in which the great table of unicode/utf8 is laid. -/
def tabW (w : World) : World :=
  { w with heap := w.heap.modify 6 fun
      | .cells _ t frozen => .cells (Go.Pinned.utf8FirstZ.map fun (n : Nat) => Value.int .u8 (Int.ofNat n)).toArray t frozen
      | o => o }
end Go.Proofs.YtimigjjokdnfbaaDoor
