/- laws.FnPipeline returns true whatever texts it is given, and leaves its argument as it was: where what it reads is of bulk at most 1048576, and the library's errors and tables are as the program's own text lays them. -/
import Derived.Test.YtimigjjokdnfbaaDoorCards
import Derived.Test.YtimigjjokdnfbaaDoorTie
import Derived.Test.YtimigjjokdnfbaaDoorLaid
import Derived.Test.YtimigjjokdnfbaaDoorBulk
import Derived.Test.YtimigjjokdnfbaaDoorPipeW
import Derived.SliceStrings
import Derived.ProofKit
import Derived.OpenShut
import Derived.ShutString
import Derived.ChangeOld
import Derived.LaidMore
import Derived.Stop.LaidErr
import Derived.Lib.SmallJoins
import Derived.Deep.DeepHandedRow
import Derived.Deep.DeepWitnessRowRef
namespace Go.Proofs.YtimigjjokdnfbaaDoor.fnPipeline
open Go.ChangeShapes Go.WideShapes Go.ChangeAt Go.RowKit Go.Joins
open Go.ChangeMaps (open_string shut_string)

theorem own : ownKnob Tryd.prog.godebug = none := by kernel_rfl
theorem laidOut : laidOutB Tryd.prog = true := by kernel_rfl
theorem cellsStr : Tryd.prog.cellsOf 9 = 1 := by kernel_rfl
theorem bytes_of (s : ByteArray) : s = ⟨s.data.toList.toArray⟩ := by
  apply ByteArray.ext
  simp
theorem gl {W : World} (h : laidMetH Tryd.prog Rows.fnPipelineUptoRow.laid W) : ∃ ea eu, Gl W.heap.size ea eu W := by
  rw [MakeChecks.laidMetH_plain _ _ _ (by kernel_rfl)] at h
  exact gl_of_laid h (by simp only [Rows.fnPipelineUptoRow]; exact .cons _ (.cons _ (.cons_cons _ (.cons _ (.cons _ (.cons_cons _ (List.nil_sublist _))))))) (by simp [Rows.fnPipelineUptoRow]) (by simp [Rows.fnPipelineUptoRow])
theorem bulk_strs {H : Type} : ∀ ss : List ByteArray, Rows.uptoBulkAll (Go.ChangeShapes.strs (H := H) ss) = tsum (ss.map (·.data.toList)) + ss.length
  | [] => by simp [Go.ChangeShapes.strs, Rows.uptoBulkAll, tsum]
  | s :: ss => by
    have := bulk_strs (H := H) ss
    simp only [Go.ChangeShapes.strs, List.map_cons, Rows.uptoBulkAll, Rows.uptoBulk, tsum_cons, List.length_cons] at this ⊢
    omega
/-- A slice of strings that came in. -/
theorem open_texts {H : Type} {enc : TypeId × Value → H} {W : World} {a : Option Addr} {len cap : Nat} {d : DataW H} {p : List MemPlace} (h : DataW.Trod enc Tryd.prog W 0 (fun _ => true) true 28 (.slice a len cap) d p) :
    ∃ ts : List (List UInt8), len = ts.length ∧ Reads strC 1 W a ts ∧ tsum ts + len ≤ Rows.uptoBulk d := by
  obtain ⟨fuel, hf⟩ := h
  rcases open_strings Tryd.underlying28 Tryd.underlying9 cellsStr hf with ⟨hcs, _⟩ | ⟨x, l, c, ss, hcs, _, hl, hm, hz, hx, hcell, hwz⟩
  · simp [Value.cells] at hcs
    obtain ⟨rfl, rfl, rfl⟩ := hcs
    exact ⟨[], rfl, Reads.nil _ _ _ _, Nat.zero_le _⟩
  · simp [Value.cells] at hcs
    obtain ⟨rfl, rfl, rfl⟩ := hcs
    have hzl : ss.length = cap := by simpa using hz
    have hlen : ((ss.take len).map (·.data.toList)).length = len := by simp; omega
    refine ⟨(ss.take len).map (·.data.toList), hlen.symm, ⟨fun j y hy => ?_⟩, ?_⟩
    · have hj : j < len := by have := (List.getElem?_eq_some_iff.1 hy).1; omega
      have hjs : j < ss.length := by omega
      obtain ⟨r, o, sp⟩ := x
      have hc := hcell j hjs
      have hsp : sp = none := by simpa [Addr.add] using World.cell?_spot (hcell 0 (by omega))
      subst hsp
      refine ⟨r, o, rfl, fun k v hv => ?_⟩
      cases k with
      | succ k => simp [strC] at hv
      | zero =>
        simp only [strC, List.getElem?_cons_zero, Option.some.injEq] at hv
        subst hv
        simp only [List.getElem?_map, List.getElem?_take_of_lt hj, List.getElem?_eq_getElem hjs, Option.map_some, Option.some.injEq] at hy
        rw [addr_add] at hc
        rw [Nat.mul_one, Nat.add_zero, hc, ← hy]
        simp only [List.getD, List.getElem?_eq_getElem hjs, Option.getD_some, strV]
    · simp only [Prod.mk.injEq] at hx
      rw [hx.1]
      have h1 := bulks.slice_elems (H := H) (Go.ChangeShapes.strs (ss.take len)) (Go.ChangeShapes.strs (ss.drop len))
      rw [bulk_strs] at h1
      have h2 : (ss.take len).length = len := by simp; omega
      omega


set_option maxRecDepth 100000 in
/-- WHAT THE WALK GIVES, for every argument and every world. -/
theorem contract (H : Type) (enc : TypeId × Value → H) (W : World) (base : Nat) (args : Array Value) (ds gs : List (DataW H)) (before : List MemPlace)
    (hval : ∀ (j : Nat) t v, Tryd.f4.params[j]? = some t → args[j]? = some v → Value.okWide Tryd.prog W .any base t v)
    (hW : DataW.Whole enc Tryd.prog Tryd.f4.params.toList Rows.fnPipelineSpec.vars false W args.toList ds gs before) (hk : Rows.uptoBulkAll (ds ++ gs) ≤ 1048576) (hL : laidMetH Tryd.prog Rows.fnPipelineUptoRow.laid W) :
    Calls Tryd.prog 4 args W fun e W' => ∃ v, e = .returned v ∧ Rows.fnPipelineSpec.post enc Tryd.prog Tryd.f4 false true false false W args v W' := by
  have hW' := hW
  obtain ⟨p, q, hA0, hV, rfl, hfz, hnd⟩ := hW
  have hA : DataW.TrodAll enc Tryd.prog W 0 (fun _ => true) true Tryd.f4.params.toList args.toList ds p := hA0
  rw [Tryd.params4] at hA hval
  obtain ⟨v0, vs0, d0, ds0, p0, q0, hargs, rfl, rfl, h0, r0⟩ := trodAll_cons hA
  obtain ⟨rfl, rfl, rfl⟩ := trodAll_nil r0
  obtain rfl : args = #[v0] := by cases args; simp_all
  obtain ⟨rfl, rfl⟩ := trodVars_none hV
  have lt : ∀ {t : TypeId} {v : Value} {d : DataW H} {p : List MemPlace}, DataW.Trod enc Tryd.prog W 0 (fun _ => true) true t v d p → ∀ x ∈ p, x.block < W.heap.size := fun h => by obtain ⟨m, hm⟩ := h; exact DataW.trod_lt m _ _ _ hm
  have k0 := h0
  obtain ⟨ea, eu, hG⟩ := gl hL
  obtain ⟨a0, len0, cap0, rfl⟩ := okWide_slice Tryd.underlying28 (hval 0 28 v0 rfl rfl)
  obtain ⟨ts, hlen, hR, hbk⟩ := open_texts h0
  have hk' : Rows.uptoBulk d0 ≤ 1048576 := by
    simp only [List.append_nil, Rows.uptoBulkAll] at hk
    omega
  have walk : Calls Tryd.prog 4 #[.slice a0 len0 cap0] W (LawPost W) := by
    have := pipeline_any ts a0 cap0 ea eu W hR hG (by omega) (by omega)
    rw [← hlen] at this
    exact this
  refine walk.mono fun e W' ⟨he', hfr⟩ => ?_
  subst he'
  have bel : Below W.heap.size W W' := hfr.below (Nat.le_refl _) (fun _ q => q.elim)
  exact ⟨_, rfl, _, _, _, [], _, [], hW', trodAll_mk1 (shut_bool Tryd.underlying4 _),
    (trodAll_cons_mk (Below.trod laidOut (by kernel_rfl) (of_decide_eq_true (by kernel_rfl)) k0 bel (lt k0)) trodAll_mk0), rfl, bel.frame _, fun h => by cases h⟩

/-- A WORLD FOR THE WITNESS: the heap that the door's own run leaves. -/
theorem laid_met (os : Os) : laidMetH Tryd.prog Rows.fnPipelineUptoRow.laid ((tabW (World.doorLaid Tryd.prog 133 os)).forCall (fun _ _ => 0) ⟨#[], #[.slice none 0 0], []⟩).memory :=
  laidMetH_of_parts3 (fuel := 8) (laidMet_of_run' 8 (by kernel_rfl) (by kernel_rfl)) (by kernel_rfl) (by kernel_rfl)
theorem reads (os : Os) {H : Type} (enc : TypeId × Value → H) : ∃ places, DataW.whole enc Tryd.prog ((tabW (World.doorLaid Tryd.prog 133 os)).forCall (fun _ _ => 0) ⟨#[], #[.slice none 0 0], []⟩).memory Tryd.f4.params.toList Rows.fnPipelineSpec.vars false #[.slice none 0 0].toList 8 = some ([.nil], [], places) :=
  ⟨[], by kernel_rfl⟩

set_option maxRecDepth 100000 in
theorem liftedUpto (os : Os) (started : os.Started) (H : Type) (enc : TypeId × Value → H) (F : Stop.Interp) :
    ReturnsInHanded {} Tryd.checked os 4 .any ((Rows.OpenSpec.upto Rows.fnPipelineSpec).preRow enc Tryd.prog Tryd.f4 Rows.fnPipelineUptoRow.domain false Rows.fnPipelineUptoRow.laid) (((Rows.OpenSpec.upto Rows.fnPipelineSpec).at F).post enc Tryd.prog Tryd.f4 false true false false) := by
  obtain ⟨places, hx⟩ := reads os enc
  refine returnsInHanded_of_row (C := Tryd.checked) (s := Rows.OpenSpec.upto Rows.fnPipelineSpec) own started (by kernel_rfl) Tryd.func4
    (witness_row_atRef (enc := enc) (C := Tryd.checked) false (tabW (World.doorLaid Tryd.prog 133 os)) #[.slice none 0 0] rfl (by kernel_rfl) (by kernel_rfl) (by kernel_rfl)
      (OpenSpec.preRow_of_cond 8 hx (by kernel_rfl) (fun k hk => by cases hk; kernel_rfl) (by kernel_rfl) (laid_met os))) ?_
  intro W base args ds gs before hval hW _ hcond _ hL _ _
  exact contract H enc W base args ds gs before hval hW (bulks.bound (hcond _ rfl)) hL

theorem saidUpto : Rows.FnPipelineUptoSaid :=
  OpenClaim.holds_of_cond 4 Tryd.f4 rfl rfl rfl rfl rfl rfl rfl ⟨rfl, rfl, rfl, rfl, rfl⟩ rfl rfl rfl rfl rfl (by kernel_rfl) Tryd.func4 (by kernel_rfl)
    (of_decide_eq_true (by kernel_rfl)) (by unfold Func.isWrapper; first | (rw [if_pos (by decide +kernel)]; kernel_rfl) | (rw [if_neg (by decide +kernel)]; exact ⟨rfl, rfl⟩))
    (fun os started H enc _ F => by rw [OpenClaim.pre_eq_preRow]; exact liftedUpto os started H enc F)

theorem plain (f : FuncId) (fn : Func) (hf : Tryd.pinned.checked.prog.funcNamed "lib-tideyard/laws.FnPipeline" = some f) (hfn : Tryd.pinned.checked.prog.funcs[f]? = some fn) :
    true = Tryd.pinned.checked.prog.looks [] ∧ ∀ (j : Nat) t, fn.params[j]? = some t → Tryd.pinned.checked.prog.wantsStandIn t = false := by
  obtain rfl : f = 4 := Option.some.inj ((show Tryd.prog.funcNamed "lib-tideyard/laws.FnPipeline" = some 4 by kernel_rfl).symm.trans hf) |>.symm
  obtain rfl : fn = Tryd.f4 := (Option.some.inj (Tryd.func4.symm.trans hfn)).symm
  refine ⟨by kernel_rfl, fun j t ht => ?_⟩
  rw [Tryd.params4] at ht
  have hm : t ∈ [28] := by simpa using Array.mem_of_getElem? ht
  have hall : ([28].all fun u => !Tryd.prog.wantsStandIn u) = true := by kernel_rfl
  exact (show Tryd.prog.wantsStandIn t = false by simpa using List.all_eq_true.1 hall t hm)

/-- THE CARD. -/
theorem cardUpto : Rows.FnPipelineUptoCardSaid :=
  Claim7.holds_tied_plain_at .later [] _ _ _ _ saidUpto (fun _ h => by cases h) (by kernel_rfl) (fun _ h => by cases h) fnPipelineUpto_row_tie rfl ⟨rfl, rfl⟩ (by kernel_rfl) rfl plain (by kernel_rfl)
#print axioms cardUpto
end Go.Proofs.YtimigjjokdnfbaaDoor.fnPipeline
