/- Laid, Bulk, OpenC. -/
import Derived.Test.YtkggebhkjgjijaaGreatDoorQ14
import Derived.Test.YtkggebhkjgjijaaGreatDoorRows
import Derived.Test.YtkggebhkjgjijaaGreatDoorQ10
import Derived.Stop.LaidTwo
import Derived.LaidMore
import Derived.Lib.LaidU8T
import Derived.Deep.DeepHandedRow
import Derived.Test.YtkggebhkjgjijaaGreatDoorQ33
import Derived.ProofKit
import Derived.OpenShut
import Derived.ShutString
import Derived.ChangeOld
import Derived.Lib.SmallJoins
import Derived.Deep.Slices
import Derived.Deep.Fields
import Derived.ChangeSame
namespace Go.Proofs.YtkggebhkjgjijaaGreatDoor
open Go Go.RowKit

/-- A part of the list is met where the list is. -/
theorem laidVars_part {P : Program} {w : World} {l' l : List (String × DataW Unit)} (h : l'.Sublist l) : ∀ {ps : List MemPlace}, DataW.LaidVars P w l ps → ∃ ps', DataW.LaidVars P w l' ps' ∧ ps'.Sublist ps := by
  induction h with
  | slnil => exact fun h => ⟨_, h, List.Sublist.refl _⟩
  | cons a _ ih =>
    rintro ps ⟨g, t, cs, fuel, p, q, h1, h2, h3, h4, h5, rfl⟩
    obtain ⟨ps', k1, k2⟩ := ih h5
    exact ⟨ps', k1, k2.trans (List.sublist_append_right _ _)⟩
  | cons_cons a _ ih =>
    rintro ps ⟨g, t, cs, fuel, p, q, h1, h2, h3, h4, h5, rfl⟩
    obtain ⟨ps', k1, k2⟩ := ih h5
    exact ⟨_, ⟨g, t, cs, fuel, p, ps', h1, h2, h3, h4, k1, rfl⟩, (List.Sublist.refl _).append k2⟩
theorem laidMet_part {P : Program} {w : World} {l' l : List (String × DataW Unit)} (hs : l'.Sublist l) (h : laidMet P l w) : laidMet P l' w := by
  obtain ⟨ps, h1, h2, h3⟩ := h
  obtain ⟨ps', k1, k2⟩ := laidVars_part hs h1
  exact ⟨ps', k1, h2.sublist k2, fun b off hm => h3 b off (k2.subset hm)⟩

theorem gEOF : Tryz.prog.globalNamed "io.EOF" = some 0 := by kernel_rfl
theorem gEOFType : (Tryz.prog.globals[0]?).map (·.type) = some 86 := by kernel_rfl
theorem gUnr : Tryz.prog.globalNamed "bytes.errUnreadByte" = some 1 := by kernel_rfl
theorem gUnrType : (Tryz.prog.globals[1]?).map (·.type) = some 86 := by kernel_rfl
theorem cellsErr : Tryz.prog.cellsOf 147 = 1 := by kernel_rfl
theorem cellsStr : Tryz.prog.cellsOf 9 = 1 := by kernel_rfl
theorem star : "*errors.errorString" = "*" ++ "errors.errorString" := by decide
theorem rowErr (u : TypeId) (h : Tryz.prog.typeName? 3 u = some "*errors.errorString") : u = 145 :=
  typeName_ptr_named (nm := "errors.errorString") (by rw [← star]; kernel_rfl) (by kernel_rfl) (by decide) u (by rw [← star]; exact h)
def u8ren : Shelf.Ren := { decRen with t := fun k => if k = 5 then 5 else if k = 119 then 158 else if k = 138 then 160 else 161, g := fun k => if k = 3 then 6 else 7 }
theorem u8types : Go.Proofs.U8Types Tryz.prog u8ren := ⟨Tryz.underlying5, Tryz.underlying158, Tryz.underlying160, Tryz.underlying161⟩
theorem u8extra : Go.Proofs.U8Extra Tryz.prog u8ren := ⟨by kernel_rfl, by kernel_rfl, by kernel_rfl, by kernel_rfl, by kernel_rfl, by kernel_rfl, by kernel_rfl⟩
theorem first_same : Rows.laid_unicode_utf8_first = Go.Lib.firstData := by kernel_rfl
theorem accept_same : Rows.laid_unicode_utf8_acceptRanges = Go.Lib.acceptData := by kernel_rfl

/-- The list that the rows of this part have in common. -/
theorem gl_of_laid {l : List (String × DataW Unit)} {W : World} (h : laidMet Tryz.prog l W)
    (hs : [("io.EOF", Rows.laid_io_EOF), ("bytes.errUnreadByte", Rows.laid_bytes_errUnreadByte)].Sublist l) (h3 : ("unicode/utf8.first", Rows.laid_unicode_utf8_first) ∈ l) (h4 : ("unicode/utf8.acceptRanges", Rows.laid_unicode_utf8_acceptRanges) ∈ l) :
    ∃ ea eu, Gl W.heap.size ea eu W := by
  obtain ⟨a0, a1, s0, s1, c0, c1, t0, t1, hv0, hv1, hc0, _, _, hc1, _, _, hne, hb0, hb1⟩ := laid_sentinels2 (laidMet_part hs h) gEOF gEOFType gUnr gUnrType Tryz.underlying86 rowErr Tryz.underlying145 Tryz.underlying147 rfl rfl Tryz.underlying9 cellsErr cellsStr
  obtain ⟨ps, hl, _, _⟩ := h
  have r3 := Go.Lib.LaidVars_reads hl _ _ h3
  have r4 := Go.Lib.LaidVars_reads hl _ _ h4
  rw [first_same] at r3
  rw [accept_same] at r4
  have ht : Lib.Utf8Tabs 6 7 W := Go.Proofs.utf8Tabs_of_readsT u8types u8extra r3 r4
  have e0 : W.cell? ⟨0, 0, none⟩ = some (errV a0) := by simpa using World.var?_cell gEOF hv0 0
  have e1 : W.cell? ⟨1, 0, none⟩ = some (errV a1) := by simpa using World.var?_cell gUnr hv1 0
  refine ⟨a0, a1, e0, e1, ⟨(c0, t0), hb0, World.block_lt_of_cell? _ _ hc0⟩, ⟨(c1, t1), hb1, World.block_lt_of_cell? _ _ hc1⟩, fun q => hne q.symm, World.block_lt_of_cell? _ _ e0, World.block_lt_of_cell? _ _ e1, fun w' hw => ?_⟩
  have hc : ∀ {x o : Nat} {v : Value}, W.cell? ⟨x, o, none⟩ = some v → w'.cell? ⟨x, o, none⟩ = some v := fun hv => (World.cell?_of_block (hw _ (World.block_lt_of_cell? _ _ hv))).trans hv
  obtain ⟨k1, k2⟩ := ht
  refine ⟨fun c hcl => hc (k1 c hcl), fun i hi => ?_⟩
  obtain ⟨q1, q2⟩ := k2 i hi
  exact ⟨hc q1, hc q2⟩
/-- A world in which the great table of unicode/utf8 is laid. -/
def tabW (w : World) : World :=
  { w with heap := w.heap.modify 6 fun
      | .cells _ t frozen => .cells (Go.Pinned.utf8FirstZ.map fun (n : Nat) => Value.int .u8 (Int.ofNat n)).toArray t frozen
      | o => o }
end Go.Proofs.YtkggebhkjgjijaaGreatDoor

namespace Go.Proofs.YtkggebhkjgjijaaGreatDoor.bulks

theorem one_le {H : Type} (d : DataW H) : 1 ≤ Rows.uptoBulk d := by
  cases d with
  | lit l => cases l <;> simp [Rows.uptoBulk]
  | nil => simp [Rows.uptoBulk]
  | ptr d => simp [Rows.uptoBulk]
  | slice elems spare => simp [Rows.uptoBulk]
  | agg parts => simp [Rows.uptoBulk]
  | iface t d => simp [Rows.uptoBulk]
  | map entries => simp [Rows.uptoBulk]
  | held h => simp [Rows.uptoBulk]
theorem part_le {H : Type} {d : DataW H} {l : List (DataW H)} (h : d ∈ l) : Rows.uptoBulk d ≤ Rows.uptoBulkAll l := by
  induction l with
  | nil => cases h
  | cons x r ih =>
    simp only [Rows.uptoBulkAll]
    cases List.mem_cons.1 h with
    | inl e => subst e; omega
    | inr e => have := ih e; omega
theorem append {H : Type} (l r : List (DataW H)) : Rows.uptoBulkAll (l ++ r) = Rows.uptoBulkAll l + Rows.uptoBulkAll r := by
  induction l with
  | nil => simp [Rows.uptoBulkAll]
  | cons x l ih => simp only [List.cons_append, Rows.uptoBulkAll, ih]; omega
theorem length_le {H : Type} (l : List (DataW H)) : l.length ≤ Rows.uptoBulkAll l := by
  induction l with
  | nil => simp [Rows.uptoBulkAll]
  | cons x r ih => have := one_le x; simp only [Rows.uptoBulkAll, List.length_cons]; omega
theorem slice_le {H : Type} (elems spare : List (DataW H)) : elems.length + spare.length + 1 ≤ Rows.uptoBulk (.slice elems spare) := by
  have h1 := length_le elems
  have h2 := length_le spare
  simp only [Rows.uptoBulk]
  omega
theorem slice_elems {H : Type} (elems spare : List (DataW H)) : Rows.uptoBulkAll elems + 1 ≤ Rows.uptoBulk (.slice elems spare) := by
  simp only [Rows.uptoBulk]
  omega
theorem string_eq {H : Type} (bytes : List UInt8) : Rows.uptoBulk (DataW.lit (H := H) (.string bytes)) = bytes.length + 1 := by
  simp [Rows.uptoBulk]
theorem bound {H : Type} {l : List (DataW H)} (hk : Rows.uptoSmall H l = true) : Rows.uptoBulkAll l ≤ 1048576 := of_decide_eq_true hk
end Go.Proofs.YtkggebhkjgjijaaGreatDoor.bulks

namespace Go.Proofs.YtkggebhkjgjijaaGreatDoor
open Go Go.ChangeShapes Go.WideShapes Go.ChangeAt Go.RowKit Go.Joins Go.Deep
namespace openc
theorem cellsU16 : Tryz.prog.cellsOf 23 = 1 := by kernel_rfl
/-- A slice of uint16 that came in. -/
theorem open_cuts {H : Type} {enc : TypeId × Value → H} {W : World} {a : Option Addr} {len cap : Nat} {d : DataW H} {p : List MemPlace} (h : DataW.Trod enc Tryz.prog W 0 (fun _ => true) true 25 (.slice a len cap) d p) :
    ∃ ks : List Nat, len = ks.length ∧ U16s W a ks ∧ len ≤ Rows.uptoBulk d := by
  obtain ⟨fuel, hf⟩ := h
  rcases open_ints Tryz.underlying25 Tryz.underlying23 cellsU16 hf with ⟨hcs, _⟩ | ⟨x, l, c, zs, hcs, _, hl, hm, hz, hx, hcell, hwz⟩
  · simp [Value.cells] at hcs
    obtain ⟨rfl, rfl, rfl⟩ := hcs
    exact ⟨[], rfl, ⟨by simp, fun q => absurd q (by simp)⟩, Nat.zero_le _⟩
  · simp [Value.cells] at hcs
    obtain ⟨rfl, rfl, rfl⟩ := hcs
    have hzl : zs.length = cap := by simpa using hz
    have hu : ∀ z ∈ zs, 0 ≤ z ∧ z ≤ 65535 := fun z hz => by
      have := bounds_u16 (hwz z hz)
      omega
    refine ⟨(zs.take len).map Int.toNat, by simp; omega, ⟨?_, fun q => ?_⟩, ?_⟩
    · intro n hn
      simp only [List.mem_map] at hn
      obtain ⟨z, hz1, rfl⟩ := hn
      have := hu z (List.mem_of_mem_take hz1)
      omega
    · have hq : 0 < len := by simp at q; omega
      obtain ⟨r, o, sp⟩ := x
      have hsp : sp = none := by
        have := hcell 0 (by omega)
        simpa [Addr.add] using World.cell?_spot this
      subst hsp
      refine ⟨r, o, rfl, fun j hj => ?_⟩
      have hj' : j < len := by simp at hj; omega
      have hjz : j < zs.length := by omega
      have := hcell j hjz
      rw [addr_add] at this
      rw [this]
      have hz0 := hu zs[j] (List.getElem_mem _)
      simp [hjz]
      omega
    · simp only [Prod.mk.injEq] at hx
      rw [hx.1]
      have := bulks.slice_le (H := H) (lits .u16 (zs.take len)) (lits .u16 (zs.drop len))
      have e : (lits (H := H) .u16 (zs.take len)).length = len := by simp [lits]; omega
      omega

end openc
theorem bytes_lit (s : ByteArray) : s = ⟨s.data.toList.toArray⟩ := by
  apply ByteArray.ext
  simp
/-- A call out of the readings of its nine fields. -/
theorem call_of {H : Type} {enc : TypeId × Value → H} {W : World} {n : Nat} {v0 v1 v2 v3 v4 v5 v6 v7 v8 : Value} {y0 y1 y2 y3 y4 y5 y6 y7 y8 : DataW H × List MemPlace}
    (t0 : DataW.trod enc Tryz.prog W 0 (fun _ => true) true n 3 [v0] = some y0) (t1 : DataW.trod enc Tryz.prog W 0 (fun _ => true) true n 3 [v1] = some y1) (t2 : DataW.trod enc Tryz.prog W 0 (fun _ => true) true n 3 [v2] = some y2) (t3 : DataW.trod enc Tryz.prog W 0 (fun _ => true) true n 23 [v3] = some y3) (t4 : DataW.trod enc Tryz.prog W 0 (fun _ => true) true n 3 [v4] = some y4) (t5 : DataW.trod enc Tryz.prog W 0 (fun _ => true) true n 5 [v5] = some y5) (t6 : DataW.trod enc Tryz.prog W 0 (fun _ => true) true n 21 [v6] = some y6) (t7 : DataW.trod enc Tryz.prog W 0 (fun _ => true) true n 9 [v7] = some y7) (t8 : DataW.trod enc Tryz.prog W 0 (fun _ => true) true n 25 [v8] = some y8) :
    ∃ c : Cl, c.cells = [v0, v1, v2, v3, v4, v5, v6, v7, v8] ∧ c.size ≤ 65535 ∧ U16s W c.ad c.cuts ∧ c.text.length + c.cuts.length ≤ Rows.uptoBulk (DataW.agg (H := H) [y0.1, y1.1, y2.1, y3.1, y4.1, y5.1, y6.1, y7.1, y8.1]) := by
  obtain ⟨z0, e0, q0, w0⟩ := DataW.trod_int Tryz.underlying3 t0
  obtain rfl : v0 = .int .i64 z0 := by injection e0
  obtain ⟨z1, e1, q1, w1⟩ := DataW.trod_int Tryz.underlying3 t1
  obtain rfl : v1 = .int .i64 z1 := by injection e1
  obtain ⟨z2, e2, q2, w2⟩ := DataW.trod_int Tryz.underlying3 t2
  obtain rfl : v2 = .int .i64 z2 := by injection e2
  obtain ⟨z3, e3, q3, w3⟩ := DataW.trod_int Tryz.underlying23 t3
  obtain rfl : v3 = .int .u16 z3 := by injection e3
  obtain ⟨z4, e4, q4, w4⟩ := DataW.trod_int Tryz.underlying3 t4
  obtain rfl : v4 = .int .i64 z4 := by injection e4
  obtain ⟨z5, e5, q5, w5⟩ := DataW.trod_int Tryz.underlying5 t5
  obtain rfl : v5 = .int .u8 z5 := by injection e5
  obtain ⟨z6, e6, q6, w6⟩ := DataW.trod_int Tryz.underlying21 t6
  obtain rfl : v6 = .int .i32 z6 := by injection e6
  obtain ⟨s, e7, q7, w7⟩ := DataW.trod_string Tryz.underlying9 t7
  obtain rfl : v7 = .string s := by injection e7
  obtain ⟨A, L, C, rfl⟩ : ∃ A L C, v8 = .slice A L C := by
    rcases DataW.trod_slice Tryz.underlying25 t8 with ⟨e, _⟩ | ⟨a, l, c, _, _, _, _, e, _⟩
    · exact ⟨none, 0, 0, by injection e⟩
    · exact ⟨some a, l, c, by injection e⟩
  obtain ⟨ks, rfl, hU, hb⟩ := openc.open_cuts (d := y8.1) (p := y8.2) ⟨n, t8⟩
  have b3 := bounds_u16 w3
  have b5 := bounds_u8 w5
  obtain ⟨m3, rfl⟩ := Int.eq_ofNat_of_zero_le b3.1
  obtain ⟨m5, rfl⟩ := Int.eq_ofNat_of_zero_le b5.1
  refine ⟨⟨z0, z1, z2, m3, z4, UInt8.ofNat m5, z6, s.data.toList, ks, A, C⟩, ?_, by simp only; omega, hU, ?_⟩
  · have h5 : (UInt8.ofNat m5).toNat = m5 := by rw [UInt8.toNat_ofNat']; omega
    simp only [Cl.cells, h5, ← bytes_lit s]
  · have h7 : Rows.uptoBulk y7.1 = s.data.toList.length + 1 := by rw [q7]; simp only [Rows.uptoBulk]
    have hp : Rows.uptoBulk y7.1 + Rows.uptoBulk y8.1 ≤ Rows.uptoBulk (DataW.agg (H := H) [y0.1, y1.1, y2.1, y3.1, y4.1, y5.1, y6.1, y7.1, y8.1]) := by
      simp only [Rows.uptoBulk, Rows.uptoBulkAll]
      omega
    simp only
    omega
theorem tsumApp : ∀ l m : List (List UInt8), tsum (l ++ m) = tsum l + tsum m
  | [], m => by simp [tsum_nil]
  | a :: l, m => by rw [List.cons_append, tsum_cons, tsumApp l m, tsum_cons]; omega
/-- The calls before the number k of a slice of calls that came in. -/
theorem calls_to {H : Type} {W : World} {r o : Nat} {D : Nat → DataW H} {m : Nat} (h : ∀ i, i < m → ∃ c : Cl, (∀ j v, c.cells[j]? = some v → W.cell? ⟨r, o + i * 9 + j, none⟩ = some v) ∧ c.size ≤ 65535 ∧ U16s W c.ad c.cuts ∧ c.text.length + c.cuts.length ≤ Rows.uptoBulk (D i)) :
    ∀ k, k ≤ m → ∃ cs : List Cl, cs.length = k ∧ (∀ i (c : Cl), cs[i]? = some c → ∀ j v, c.cells[j]? = some v → W.cell? ⟨r, o + i * 9 + j, none⟩ = some v) ∧ (∀ c ∈ cs, c.size ≤ 65535 ∧ U16s W c.ad c.cuts ∧ c.text.length + c.cuts.length ≤ Rows.uptoBulkAll ((List.range k).map D)) ∧ tsum (cs.map (·.text)) ≤ Rows.uptoBulkAll ((List.range k).map D)
  | 0, _ => ⟨[], rfl, by simp, by simp, by simp [tsum]⟩
  | k + 1, hk => by
    obtain ⟨cs, hl, hr, ho, ht⟩ := calls_to h k (by omega)
    obtain ⟨c, h1, h2, h3, h4⟩ := h k (by omega)
    have e : Rows.uptoBulkAll ((List.range (k + 1)).map D) = Rows.uptoBulkAll ((List.range k).map D) + Rows.uptoBulk (D k) := by
      rw [List.range_succ, List.map_append, bulks.append]
      simp [Rows.uptoBulkAll]
    refine ⟨cs ++ [c], by simp [hl], fun i x hx => ?_, fun x hx => ?_, ?_⟩
    · by_cases hi : i < cs.length
      · rw [List.getElem?_append_left hi] at hx
        exact hr i x hx
      · rw [List.getElem?_append_right (by omega)] at hx
        have hi0 : i - cs.length = 0 := by
          by_cases q : i - cs.length = 0
          · exact q
          · rw [List.getElem?_eq_none (by simp only [List.length_cons, List.length_nil]; omega)] at hx
            cases hx
        rw [hi0, List.getElem?_cons_zero] at hx
        injection hx with hx
        subst hx
        obtain rfl : i = k := by omega
        exact h1
    · rcases List.mem_append.1 hx with hx | hx
      · obtain ⟨k1, k2, k3⟩ := ho x hx
        exact ⟨k1, k2, by omega⟩
      · rw [List.mem_singleton] at hx
        subst hx
        exact ⟨h2, h3, by omega⟩
    · rw [List.map_append, tsumApp, e]
      simp only [List.map_cons, List.map_nil, tsum_cons, tsum_nil]
      omega
theorem wsum_texts : ∀ cs : List Cl, wsum cs = tsum (cs.map (·.text)) + 4 * cs.length
  | [] => by simp [wsum, tsum]
  | c :: cs => by
    rw [wsum_cons, wsum_texts cs, List.map_cons, tsum_cons, List.length_cons]
    omega
set_option maxRecDepth 100000 in
/-- A slice of calls that came in. -/
theorem open_calls {H : Type} {enc : TypeId × Value → H} {W : World} {a : Option Addr} {len cap : Nat} {d : DataW H} {p : List MemPlace} (h : DataW.Trod enc Tryz.prog W 0 (fun _ => true) true 22 (.slice a len cap) d p) (hb : Rows.uptoBulk d ≤ 1048576) :
    ∃ cs : List Cl, len = cs.length ∧ Reads Cl.cells 9 W a cs ∧ CallsOk W cs ∧ cs.length ≤ 1048576 ∧ wsum cs ≤ 8388608 := by
  obtain ⟨fuel, hf⟩ := h
  rcases open_slice Tryz.underlying22 hf with ⟨hcs, _⟩ | ⟨a', len', cap', m, n, D, Pl, hcs, _, hl, hm, hmm, hx, hi⟩
  · simp [Value.cells] at hcs
    obtain ⟨rfl, rfl, rfl⟩ := hcs
    exact ⟨[], rfl, Reads.nil _ _ _ _, ⟨by simp, by simp [wsum], by simp⟩, by simp, by simp [wsum]⟩
  · simp [Value.cells] at hcs
    obtain ⟨rfl, rfl, rfl⟩ := hcs
    have hmc : m = cap := by simpa using hmm
    subst hmc
    simp only [Prod.mk.injEq] at hx
    have kInt : Tryz.prog.cellsOf 3 = 1 := by kernel_rfl
    have kU16 : Tryz.prog.cellsOf 23 = 1 := by kernel_rfl
    have kU8 : Tryz.prog.cellsOf 5 = 1 := by kernel_rfl
    have kI32 : Tryz.prog.cellsOf 21 = 1 := by kernel_rfl
    have kStr : Tryz.prog.cellsOf 9 = 1 := by kernel_rfl
    have kSl : Tryz.prog.cellsOf 25 = 1 := by kernel_rfl
    have hC : Tryz.prog.cellsOf 27 = 9 := by kernel_rfl
    obtain ⟨r, o, sp⟩ := a'
    have h1 : ∀ i, i < m → ∃ c : Cl, (∀ j v, c.cells[j]? = some v → W.cell? (Addr.add ⟨r, o, sp⟩ (i * 9 + j)) = some v) ∧ c.size ≤ 65535 ∧ U16s W c.ad c.cuts ∧ c.text.length + c.cuts.length ≤ Rows.uptoBulk (D i) := by
      intro i him
      obtain ⟨cs', hc, ht⟩ := hi i him
      rw [hC] at hc
      obtain ⟨_, hcl, hat⟩ := World.cells?_some hc
      match cs', hcl with
      | [v0, v1, v2, v3, v4, v5, v6, v7, v8], _ =>
        obtain ⟨xs, n', _, hy, _, hlen, hg⟩ := DataW.trod_struct Tryz.underlying27 ht
        match xs, hlen with
        | [y0, y1, y2, y3, y4, y5, y6, y7, y8], _ =>
          simp only [Prod.mk.injEq] at hy
          obtain ⟨c, hcc, k1, k2, k3⟩ := call_of (enc := enc) (W := W) (n := n') (by have q := hg 0 _ rfl; simpa [kInt, kU16, kU8, kI32, kStr, kSl] using q) (by have q := hg 1 _ rfl; simpa [kInt, kU16, kU8, kI32, kStr, kSl] using q) (by have q := hg 2 _ rfl; simpa [kInt, kU16, kU8, kI32, kStr, kSl] using q) (by have q := hg 3 _ rfl; simpa [kInt, kU16, kU8, kI32, kStr, kSl] using q) (by have q := hg 4 _ rfl; simpa [kInt, kU16, kU8, kI32, kStr, kSl] using q) (by have q := hg 5 _ rfl; simpa [kInt, kU16, kU8, kI32, kStr, kSl] using q) (by have q := hg 6 _ rfl; simpa [kInt, kU16, kU8, kI32, kStr, kSl] using q) (by have q := hg 7 _ rfl; simpa [kInt, kU16, kU8, kI32, kStr, kSl] using q) (by have q := hg 8 _ rfl; simpa [kInt, kU16, kU8, kI32, kStr, kSl] using q)
          refine ⟨c, fun j v hj => ?_, k1, k2, ?_⟩
          · rw [hcc] at hj
            have hj9 : j < 9 := by
              by_cases q : j < 9
              · exact q
              · rw [List.getElem?_eq_none (by simp only [List.length_cons, List.length_nil]; omega)] at hj
                cases hj
            rw [← Go.Deep.add_add, hat j hj9, hj]
          · rw [hy.1]
            exact k3
    by_cases hm0 : m = 0
    · subst hm0
      obtain rfl : len = 0 := by omega
      exact ⟨[], rfl, Reads.nil _ _ _ _, ⟨by simp, by simp [wsum], by simp⟩, by simp, by simp [wsum]⟩
    have hsp : sp = none := by
      obtain ⟨c, hc, _⟩ := h1 0 (by omega)
      have := hc 0 _ rfl
      simpa [Addr.add] using World.cell?_spot this
    subst hsp
    obtain ⟨cs, hlc, hr, ho, ht⟩ := calls_to (W := W) (r := r) (o := o) (D := D) (m := m) (fun i him => by
      obtain ⟨c, k1, k2, k3, k4⟩ := h1 i him
      refine ⟨c, fun j v hj => ?_, k2, k3, k4⟩
      have := k1 j v hj
      rw [addr_add, ← Nat.add_assoc] at this
      exact this) len hl
    have hbulk : Rows.uptoBulkAll ((List.range len).map D) + 1 ≤ Rows.uptoBulk d := by
      rw [hx.1]
      exact bulks.slice_elems _ _
    have hlb : len ≤ Rows.uptoBulkAll ((List.range len).map D) := by
      have := bulks.length_le ((List.range len).map D)
      simpa using this
    refine ⟨cs, hlc.symm, ⟨fun j x hx => ⟨r, o, rfl, hr j x hx⟩⟩, ⟨fun c hc => ?_, ?_, by omega⟩, by omega, by rw [wsum_texts]; omega⟩
    · obtain ⟨k1, k2, k3⟩ := ho c hc
      exact ⟨k1, k2, by omega, by omega⟩
    · rw [wsum_texts]
      omega
end Go.Proofs.YtkggebhkjgjijaaGreatDoor
