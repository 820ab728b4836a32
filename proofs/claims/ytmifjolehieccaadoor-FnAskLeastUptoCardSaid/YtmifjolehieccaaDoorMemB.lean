/- append and the conversions between strings and bytes, over rows of bytes; the steps of a walk by them. No program is named here. -/
import Derived.Test.YtmifjolehieccaaDoorMem
import Derived.Lib.AppendZeros
import Derived.Lib.ConvBytes
import Derived.OwnWalk
namespace Go.Proofs.YtmifjolehieccaaDoor
open Go Go.RowKit

/-- append of bytes within the capacity. -/
theorem run_append_fit {P : Program} {w : World} {E : TypeId} {dT xT ty : TypeId} {r o n c : Nat} {all l : List UInt8} {D : Option Addr} {x : Value} {i : TypeInfo} {u : TypeDesc} {fz : Nat × Nat}
    (hu : P.underlying dT = some (.slice E)) (hx : P.underlying xT = some u) (hnot : ∀ k, u ≠ .int k) (hi : P.info? E = some i) (hs1 : i.size = 1)
    (hrow : w.heap[r]? = some (.cells (bcs all).toArray E fz)) (hsrc : Src w x l) (hroom : n + l.length ≤ c)
    (hD : 0 < l.length → D = some ⟨r, o, none⟩) (hfit : o + n + l.length ≤ all.length) (hfree : ∀ j, o + n ≤ j → j < o + n + l.length → ¬ (fz.1 ≤ j ∧ j < fz.2)) :
    ∃ w', (Builtin.append_ #[dT, xT] ty #[.slice D n c, x]).run P w = .ok (.slice D (n + l.length) c) w' ∧ w'.heap[r]? = some (.cells (bcs (splice all (o + n) l)).toArray E fz) ∧ Fr (Just r) w w' := by
  have hlen := run_lenOf_src (P := P) hsrc
  have hf := run_firstCells_src (P := P) hsrc l.length (Nat.le_refl _)
  rw [List.take_length] at hf
  rcases Nat.eq_zero_or_pos l.length with h0 | h0
  · obtain rfl : l = [] := List.eq_nil_of_length_eq_zero h0
    refine ⟨w, ?_, ?_, Fr.refl _ _⟩
    · cases D <;> simp [Builtin.append_, run_underlying hu, run_underlying hx, sizeOf, typeInfo, hi, hs1, hlen, storeCells, bcs] at hroom hf ⊢ <;> simp [hroom, hf, storeCells]
    · simpa [splice] using hrow
  · have hD' := hD h0
    subst hD'
    have hst := run_storeCells_free P r (o + n) E fz (bcs l) 0 (bcs all).toArray w hrow
      (fun j h3 h4 => hfree j (by omega) (by simp at h4; omega)) (by simp; omega) (bcs_one _)
    refine ⟨w.setRow r (bcs (splice all (o + n) l)).toArray, ?_, setRow_heap w r _ _ E fz hrow, (Fr.refl _ w).setRow (fun _ => just_self r) _⟩
    have e : (bcs all).toArray.toList.take (o + n + 0) ++ bcs l ++ (bcs all).toArray.toList.drop (o + n + 0 + (bcs l).length) = bcs (splice all (o + n) l) := by
      simp [splice, bcs_append, bcs_take, bcs_drop]
    rw [e] at hst
    simp [Builtin.append_, run_underlying hu, run_underlying hx, sizeOf, typeInfo, hi, hs1, hlen, hroom, hf, addr_add, hst]

theorem zeroCells_bcs (n : Nat) : Builtin.zeroCells (Value.int .u8 0).cells n = (bcs (List.replicate n 0)).toArray := by
  apply Array.ext
  · simp [size_zeroCells, Value.cells]
  · intro i h1 h2
    simp [Builtin.zeroCells, Value.cells, bcs, Nat.mod_one]

/-- A block of so many zero bytes. -/
def zrow (E : TypeId) (c : Nat) : Obj := .cells (bcs (List.replicate c 0)).toArray E
theorem Row.zrow (w : World) (E : TypeId) (c : Nat) : Row E (w.alloc (zrow E c)) w.heap.size (List.replicate c 0) := Row.new w E _
theorem madeCells_bcs (c : Nat) : madeCells #[Value.int .u8 0] c = (bcs (List.replicate c 0)).toArray := by
  apply Array.ext
  · simp [size_madeCells]
  · intro i h1 h2
    simp [madeCells, bcs, Nat.mod_one]
/-- make of bytes. -/
theorem run_make_bytes {P : Program} {T E : TypeId} {i : TypeInfo} (ht : P.underlying T = some (.slice E)) (hi : P.info? E = some i) (hz : i.zero = some (.int .u8 0)) (hs : i.size = 1) (hb : i.bytes = 1) (kl kc : IntKind) (l c : Nat) (hl : l ≤ c) (hc : c ≤ 281474976710656) (w : World) :
    (Instr.makeSlice T (.int kl (l : Int)) (.int kc (c : Int))).run P w = .ok (.slice (some ⟨w.heap.size, 0, none⟩) l c) (w.alloc (Go.Proofs.YtmifjolehieccaaDoor.zrow E c)) := by
  have hr := run_make (P := P) w T E i _ ht hi hz kl kc l c (by omega) (by omega) (by rw [hb]; omega) (by omega)
  simp only [Int.toNat_natCast, hs, Nat.mul_one, Value.cells, madeCells_bcs] at hr
  exact hr

/-- append of bytes beyond the capacity. -/
theorem run_append_grow {P : Program} {w : World} {E : TypeId} {dT xT ty : TypeId} {n c : Nat} {old l : List UInt8} {D : Option Addr} {x : Value} {i : TypeInfo} {u : TypeDesc}
    (hu : P.underlying dT = some (.slice E)) (hx : P.underlying xT = some u) (hnot : ∀ k, u ≠ .int k) (hi : P.info? E = some i) (hs1 : i.size = 1) (hby : i.bytes = 1) (hz0 : i.zero = some (.int .u8 0))
    (hold : Src w (.slice D n c) old) (hn : old.length = n) (hsrc : Src w x l) (hroom : c < n + l.length) (hlim : n + l.length ≤ 140737488355328) :
    ∃ (cap2 : Nat) (w' : World), (Builtin.append_ #[dT, xT] ty #[.slice D n c, x]).run P w = .ok (.slice (some ⟨w.heap.size, 0, none⟩) (n + l.length) cap2) w' ∧
      w'.heap[w.heap.size]? = some (.cells (bcs (old ++ l ++ List.replicate (cap2 - (n + l.length)) 0)).toArray E (0, 0)) ∧
      n + l.length ≤ cap2 ∧ cap2 ≤ 9223372036854775807 ∧ Fr (fun _ => False) w w' ∧ w'.heap.size = w.heap.size + 1 := by
  have hlen := run_lenOf_src (P := P) hsrc
  have hf := run_firstCells_src (P := P) hsrc l.length (Nat.le_refl _)
  rw [List.take_length] at hf
  have ho := run_firstCells_src (P := P) hold old.length (Nat.le_refl _)
  rw [List.take_length, hn] at ho
  have hroom' : ¬ (n + l.length ≤ c) := by omega
  have h48 := growslice_fits (need := n + l.length) (old := c) (bytes := 1) hroom (by omega)
  have h48' : ¬ (281474976710656 < Builtin.nextslicecap (n + l.length) c) := by omega
  have hge := grownCap_ge w (n + l.length) c E
  have hle := grownCap_le_maxLen w (n + l.length) c E (by unfold maxLen; omega)
  have hrep := zeroCells_bcs (grownCap w (n + l.length) c E - (n + l.length))
  refine ⟨grownCap w (n + l.length) c E, w.drew.alloc (.cells (bcs (old ++ l ++ List.replicate (grownCap w (n + l.length) c E - (n + l.length)) 0)).toArray E), ?_, heap_alloc_new w.drew _, hge, by unfold maxLen at hle; omega,
    (((Fr.refl _ w).drew).alloc _), by simp⟩
  have he' : ∀ q : List UInt8, bcs old ++ (bcs l ++ bcs q) = bcs (old ++ (l ++ q)) := fun q => by simp [bcs_append]
  have hd1 : (Builtin.firstCells 1 n (.slice D n c)).run P w.drew = .ok (bcs old).toArray w.drew := by
    have hold' : Src w.drew (.slice D n c) old := hold
    have := run_firstCells_src (P := P) hold' old.length (Nat.le_refl _)
    rwa [List.take_length, hn] at this
  have hd2 : (Builtin.firstCells 1 l.length x).run P w.drew = .ok (bcs l).toArray w.drew := by
    have hsrc' : Src w.drew x l := hsrc
    have := run_firstCells_src (P := P) hsrc' l.length (Nat.le_refl _)
    rwa [List.take_length] at this
  simp only [grownCap] at hd1 hd2 hrep ⊢
  simp [Builtin.append_, run_underlying hu, run_underlying hx, sizeOf, typeInfo, hi, hs1, hlen, hroom', hby, h48', Question.forced, newRow, zeroValue, hz0, hd1, hd2, hrep, he']

section
variable {P : Program} {w : World} {ops : Array Oper} {rest : List Oper} {o : Oper} {a : Act} {K : Act → World → Prop} {Q : Exit → Act → World → Prop}

theorem wp_copy_of_run (d s : Operand) (dT sT : TypeId) (ho : o.op = .call { callee := .builtin .copy, args := #[d, s], argTypes := #[dT, sT] }) {vd vs v' : Value} {w' : World} (hd : a.eval d = vd) (hs : a.eval s = vs)
    (hr : (Builtin.copy_ #[dT, sT] o.type #[vd, vs]).run P w = .ok v' w') (h : K (a.put o.dst v') w') : o.wp P a w K Q := by
  unfold Oper.wp
  simp [execOp, ho, resolve, invoke, builtin, hd, hs, hr, Result.andThen]
  exact h
theorem wp_append_of_run (d s : Operand) (dT sT : TypeId) (ho : o.op = .call { callee := .builtin .append, args := #[d, s], argTypes := #[dT, sT] }) {vd vs v' : Value} {w' : World} (hd : a.eval d = vd) (hs : a.eval s = vs)
    (hr : (Builtin.append_ #[dT, sT] o.type #[vd, vs]).run P w = .ok v' w') (h : K (a.put o.dst v') w') : o.wp P a w K Q := by
  unfold Oper.wp
  simp [execOp, ho, resolve, invoke, builtin, hd, hs, hr, Result.andThen]
  exact h
/-- One step of a region that draws its order, by a law on the operation. -/
theorem step_of_wp {E : Prop} (hgd : o.guard = none) (h : o.wp P a w K Q) : if Region.wanted o (yielded ops a.tmps) = true then Oper.wp P o a w K Q else E := by
  rw [if_pos (by simp [Region.wanted, hgd])]
  exact h

/-- copy of bytes into a row, as a step of a walk. -/
theorem wp_copyB (d s : Operand) (dT sT : TypeId) (ho : o.op = .call { callee := .builtin .copy, args := #[d, s], argTypes := #[dT, sT] }) (E : TypeId) (i : TypeInfo) (hu : P.underlying dT = some (.slice E)) (hi : P.info? E = some i) (hs1 : i.size = 1)
    (r off n c k : Nat) (all l : List UInt8) (D : Option Addr) (v : Value) (hd : a.eval d = .slice D n c) (hs : a.eval s = v) (hrow : Row E w r all) (hsrc : Src w v l) (hk : Nat.min l.length n = k)
    (hD : 0 < k → D = some ⟨r, off, none⟩) (hfit : off + k ≤ all.length)
    (h : ∀ w', Row E w' r (splice all off (l.take k)) → Fr (Just r) w w' → K (a.put o.dst (.int .i64 (k : Int))) w') : o.wp P a w K Q := by
  obtain ⟨w', h1, h2, h3⟩ := run_copy_bytes (P := P) (sT := sT) (ty := o.type) (c := c) hu hi hs1 hrow hsrc hk hD hfit
  exact wp_copy_of_run d s dT sT ho hd hs h1 (h w' h2 h3)
theorem wpList_copyB (hgd : o.guard = none) (d s : Operand) (dT sT : TypeId) (ho : o.op = .call { callee := .builtin .copy, args := #[d, s], argTypes := #[dT, sT] }) (E : TypeId) (i : TypeInfo) (hu : P.underlying dT = some (.slice E)) (hi : P.info? E = some i) (hs1 : i.size = 1)
    (r off n c k : Nat) (all l : List UInt8) (D : Option Addr) (v : Value) (hd : a.eval d = .slice D n c) (hs : a.eval s = v) (hrow : Row E w r all) (hsrc : Src w v l) (hk : Nat.min l.length n = k)
    (hD : 0 < k → D = some ⟨r, off, none⟩) (hfit : off + k ≤ all.length)
    (h : ∀ w', Row E w' r (splice all off (l.take k)) → Fr (Just r) w w' → wpList P ops Q rest (a.put o.dst (.int .i64 (k : Int))) w') : wpList P ops Q (o :: rest) a w :=
  wpList_plain hgd fun _ hK => wp_copyB d s dT sT ho E i hu hi hs1 r off n c k all l D v hd hs hrow hsrc hk hD hfit fun w' h1 h2 => hK _ _ (h w' h1 h2)
end
end Go.Proofs.YtmifjolehieccaaDoor
