/- laws.FnBuilderGrowHolds returns true whatever it is given, and leaves its arguments as they were: where what it reads is of bulk at most 1048576, and the library's errors and tables are as the program's own text lays them. -/
import Derived.Test.YtkggebhkjgjijaaGreatDoorCards
import Derived.Test.YtkggebhkjgjijaaGreatDoorTie
import Derived.Test.YtkggebhkjgjijaaGreatDoorQ35
import Derived.Test.YtkggebhkjgjijaaGreatDoorQBghW
import Derived.ProofKit
import Derived.OpenShut
import Derived.ShutString
import Derived.ChangeOld
import Derived.LaidMore
import Derived.Stop.LaidErr
import Derived.Lib.SmallJoins
import Derived.Deep.DeepHandedRow
import Derived.Deep.DeepWitnessRowRef
namespace Go.Proofs.YtkggebhkjgjijaaGreatDoor.fnBuilderGrowHolds
open Go.ChangeShapes Go.WideShapes Go.ChangeAt Go.RowKit Go.Joins
open Go.ChangeMaps (open_string shut_string)

theorem own : ownKnob Tryz.prog.godebug = none := by kernel_rfl
theorem laidOut : laidOutB Tryz.prog = true := by kernel_rfl
theorem cellsStr : Tryz.prog.cellsOf 9 = 1 := by kernel_rfl
theorem bytes_of (s : ByteArray) : s = ⟨s.data.toList.toArray⟩ := by
  apply ByteArray.ext
  simp
theorem gl {W : World} (h : laidMetH Tryz.prog Rows.fnBuilderGrowHoldsUptoRow.laid W) : ∃ ea eu, Gl W.heap.size ea eu W := by
  rw [MakeChecks.laidMetH_plain _ _ _ (by kernel_rfl)] at h
  exact gl_of_laid h (by simp only [Rows.fnBuilderGrowHoldsUptoRow]; exact .cons _ (.cons _ (.cons_cons _ (.cons _ (.cons _ (.cons_cons _ (List.nil_sublist _))))))) (by simp [Rows.fnBuilderGrowHoldsUptoRow]) (by simp [Rows.fnBuilderGrowHoldsUptoRow])

set_option maxRecDepth 100000 in
/-- WHAT THE WALK GIVES, for every argument and every world. -/
theorem contract (H : Type) (enc : TypeId × Value → H) (W : World) (base : Nat) (args : Array Value) (ds gs : List (DataW H)) (before : List MemPlace)
    (hval : ∀ (j : Nat) t v, Tryz.f3.params[j]? = some t → args[j]? = some v → Value.okWide Tryz.prog W .any base t v)
    (hW : DataW.Whole enc Tryz.prog Tryz.f3.params.toList Rows.fnBuilderGrowHoldsSpec.vars false W args.toList ds gs before) (hk : Rows.uptoBulkAll (ds ++ gs) ≤ 1048576) (hL : laidMetH Tryz.prog Rows.fnBuilderGrowHoldsUptoRow.laid W) :
    Calls Tryz.prog 3 args W fun e W' => ∃ v, e = .returned v ∧ Rows.fnBuilderGrowHoldsSpec.post enc Tryz.prog Tryz.f3 false true false false W args v W' := by
  have hW' := hW
  obtain ⟨p, q, hA0, hV, rfl, hfz, hnd⟩ := hW
  have hA : DataW.TrodAll enc Tryz.prog W 0 (fun _ => true) true Tryz.f3.params.toList args.toList ds p := hA0
  rw [Tryz.params3] at hA hval
  obtain ⟨v0, vs0, d0, ds0, p0, q0, hargs, rfl, rfl, h0, r0⟩ := trodAll_cons hA
  obtain ⟨v1, vs1, d1, ds1, p1, q1, rfl, rfl, rfl, h1, r1⟩ := trodAll_cons r0
  obtain ⟨v2, vs2, d2, ds2, p2, q2, rfl, rfl, rfl, h2, r2⟩ := trodAll_cons r1
  obtain ⟨rfl, rfl, rfl⟩ := trodAll_nil r2
  obtain rfl : args = #[v0, v1, v2] := by cases args; simp_all
  obtain ⟨rfl, rfl⟩ := trodVars_none hV
  have lt : ∀ {t : TypeId} {v : Value} {d : DataW H} {p : List MemPlace}, DataW.Trod enc Tryz.prog W 0 (fun _ => true) true t v d p → ∀ x ∈ p, x.block < W.heap.size := fun h => by obtain ⟨m, hm⟩ := h; exact DataW.trod_lt m _ _ _ hm
  have k0 := h0; have k1 := h1; have k2 := h2
  obtain ⟨ea, eu, hG⟩ := gl hL
  obtain ⟨a0, len0, cap0, rfl⟩ := okWide_slice Tryz.underlying22 (hval 0 22 v0 rfl rfl)
  obtain ⟨z1, rfl, rfl, rfl, wz1⟩ := open_int Tryz.underlying23 (hval 1 23 v1 rfl rfl) h1
  have bz1 := bounds_u16 wz1
  obtain ⟨m1, rfl⟩ := Int.eq_ofNat_of_zero_le bz1.1
  obtain ⟨a2, len2, cap2, rfl⟩ := okWide_slice Tryz.underlying22 (hval 2 22 v2 rfl rfl)
  have hk' : Rows.uptoBulk d0 ≤ 1048576 ∧ Rows.uptoBulk d2 ≤ 1048576 := by
    simp only [List.append_nil, Rows.uptoBulkAll] at hk
    omega
  obtain ⟨hb0, hb2⟩ := hk'
  obtain ⟨cs0, hlen0, hR0, hOK0, hfew0⟩ := open_calls h0 hb0
  obtain ⟨cs2, hlen2, hR2, hOK2, hfew2⟩ := open_calls h2 hb2
  have walk : Calls Tryz.prog 3 #[.slice a0 len0 cap0, .int .u16 (m1 : Int), .slice a2 len2 cap2] W (LawPost W) := by
    have := builderGrow_any cs0 a0 cap0 m1 cs2 a2 cap2 ea eu W hR0 hOK0 hfew0.2 hR2 hOK2 (by omega) hG
    rw [← hlen0, ← hlen2] at this
    exact this
  refine walk.mono fun e W' ⟨he', hfr⟩ => ?_
  subst he'
  have bel : Below W.heap.size W W' := hfr.below (Nat.le_refl _) (fun _ q => q.elim)
  exact ⟨_, rfl, _, _, _, [], _, [], hW', trodAll_mk1 (shut_bool Tryz.underlying4 _),
    (trodAll_cons_mk (Below.trod laidOut (by kernel_rfl) (of_decide_eq_true (by kernel_rfl)) k0 bel (lt k0)) (trodAll_cons_mk (Below.trod laidOut (by kernel_rfl) (of_decide_eq_true (by kernel_rfl)) k1 bel (lt k1)) (trodAll_cons_mk (Below.trod laidOut (by kernel_rfl) (of_decide_eq_true (by kernel_rfl)) k2 bel (lt k2)) trodAll_mk0))), rfl, bel.frame _, fun h => by cases h⟩

/-- A WORLD FOR THE WITNESS: the heap that the door's own run leaves. -/
theorem laid_met (os : Os) : laidMetH Tryz.prog Rows.fnBuilderGrowHoldsUptoRow.laid ((tabW (World.doorLaid Tryz.prog 133 os)).forCall (fun _ _ => 0) ⟨#[], #[.slice none 0 0, .int .u16 0, .slice none 0 0], []⟩).memory :=
  laidMetH_of_parts3 (fuel := 8) (laidMet_of_run' 8 (by kernel_rfl) (by kernel_rfl)) (by kernel_rfl) (by kernel_rfl)
theorem reads (os : Os) {H : Type} (enc : TypeId × Value → H) : ∃ places, DataW.whole enc Tryz.prog ((tabW (World.doorLaid Tryz.prog 133 os)).forCall (fun _ _ => 0) ⟨#[], #[.slice none 0 0, .int .u16 0, .slice none 0 0], []⟩).memory Tryz.f3.params.toList Rows.fnBuilderGrowHoldsSpec.vars false #[.slice none 0 0, .int .u16 0, .slice none 0 0].toList 8 = some ([.nil, .lit (.int .u16 0), .nil], [], places) :=
  ⟨[], by kernel_rfl⟩

set_option maxRecDepth 100000 in
theorem liftedUpto (os : Os) (started : os.Started) (H : Type) (enc : TypeId × Value → H) (F : Stop.Interp) :
    ReturnsInHanded {} Tryz.checked os 3 .any ((Rows.OpenSpec.upto Rows.fnBuilderGrowHoldsSpec).preRow enc Tryz.prog Tryz.f3 Rows.fnBuilderGrowHoldsUptoRow.domain false Rows.fnBuilderGrowHoldsUptoRow.laid) (((Rows.OpenSpec.upto Rows.fnBuilderGrowHoldsSpec).at F).post enc Tryz.prog Tryz.f3 false true false false) := by
  obtain ⟨places, hx⟩ := reads os enc
  refine returnsInHanded_of_row (C := Tryz.checked) (s := Rows.OpenSpec.upto Rows.fnBuilderGrowHoldsSpec) own started (by kernel_rfl) Tryz.func3
    (witness_row_atRef (enc := enc) (C := Tryz.checked) false (tabW (World.doorLaid Tryz.prog 133 os)) #[.slice none 0 0, .int .u16 0, .slice none 0 0] rfl (by kernel_rfl) (by kernel_rfl) (by kernel_rfl)
      (OpenSpec.preRow_of_cond 8 hx (by kernel_rfl) (fun k hk => by cases hk; kernel_rfl) (by kernel_rfl) (laid_met os))) ?_
  intro W base args ds gs before hval hW _ hcond _ hL _ _
  exact contract H enc W base args ds gs before hval hW (bulks.bound (hcond _ rfl)) hL

theorem saidUpto : Rows.FnBuilderGrowHoldsUptoSaid :=
  OpenClaim.holds_of_cond 3 Tryz.f3 rfl rfl rfl rfl rfl rfl rfl ⟨rfl, rfl, rfl, rfl, rfl⟩ rfl rfl rfl rfl rfl (by kernel_rfl) Tryz.func3 (by kernel_rfl)
    (of_decide_eq_true (by kernel_rfl)) (by unfold Func.isWrapper; first | (rw [if_pos (by decide +kernel)]; kernel_rfl) | (rw [if_neg (by decide +kernel)]; exact ⟨rfl, rfl⟩))
    (fun os started H enc _ F => by rw [OpenClaim.pre_eq_preRow]; exact liftedUpto os started H enc F)

theorem plain (f : FuncId) (fn : Func) (hf : Tryz.pinned.checked.prog.funcNamed "lib-tideyard/laws.FnBuilderGrowHolds" = some f) (hfn : Tryz.pinned.checked.prog.funcs[f]? = some fn) :
    true = Tryz.pinned.checked.prog.looks [] ∧ ∀ (j : Nat) t, fn.params[j]? = some t → Tryz.pinned.checked.prog.wantsStandIn t = false := by
  obtain rfl : f = 3 := Option.some.inj ((show Tryz.prog.funcNamed "lib-tideyard/laws.FnBuilderGrowHolds" = some 3 by kernel_rfl).symm.trans hf) |>.symm
  obtain rfl : fn = Tryz.f3 := (Option.some.inj (Tryz.func3.symm.trans hfn)).symm
  refine ⟨by kernel_rfl, fun j t ht => ?_⟩
  rw [Tryz.params3] at ht
  have hm : t ∈ [22, 23, 22] := by simpa using Array.mem_of_getElem? ht
  have hall : ([22, 23, 22].all fun u => !Tryz.prog.wantsStandIn u) = true := by kernel_rfl
  exact (show Tryz.prog.wantsStandIn t = false by simpa using List.all_eq_true.1 hall t hm)

/-- THE CARD. -/
theorem cardUpto : Rows.FnBuilderGrowHoldsUptoCardSaid :=
  Claim7.holds_tied_plain_at .later [] _ _ _ _ saidUpto (fun _ h => by cases h) (by kernel_rfl) (fun _ h => by cases h) fnBuilderGrowHoldsUpto_row_tie rfl ⟨rfl, rfl⟩ (by kernel_rfl) rfl plain (by kernel_rfl)
#print axioms cardUpto
end Go.Proofs.YtkggebhkjgjijaaGreatDoor.fnBuilderGrowHolds
