/- laws.FnLinesFed returns true whatever text, cuts and byte it is given, and leaves its arguments as they were: where what it reads is of bulk at most 1048576, and the library's errors and tables are as the program's own text lays them. -/
import Derived.Test.YtimigjjokdnfbaaDoorCards
import Derived.Test.YtimigjjokdnfbaaDoorTie
import Derived.Test.YtimigjjokdnfbaaDoorLaid
import Derived.Test.YtimigjjokdnfbaaDoorBulk
import Derived.Test.YtimigjjokdnfbaaDoorLinesW
import Derived.ProofKit
import Derived.OpenShut
import Derived.ShutString
import Derived.ChangeOld
import Derived.LaidMore
import Derived.Stop.LaidErr
import Derived.Lib.SmallJoins
import Derived.Deep.DeepHandedRow
import Derived.Deep.DeepWitnessRowRef
namespace Go.Proofs.YtimigjjokdnfbaaDoor.fnLinesFed
open Go.ChangeShapes Go.WideShapes Go.ChangeAt Go.RowKit Go.Joins
open Go.ChangeMaps (open_string shut_string)

theorem own : ownKnob Tryd.prog.godebug = none := by kernel_rfl
theorem laidOut : laidOutB Tryd.prog = true := by kernel_rfl
theorem cellsStr : Tryd.prog.cellsOf 9 = 1 := by kernel_rfl
theorem bytes_of (s : ByteArray) : s = ⟨s.data.toList.toArray⟩ := by
  apply ByteArray.ext
  simp
theorem gl {W : World} (h : laidMetH Tryd.prog Rows.fnLinesFedUptoRow.laid W) : ∃ ea eu, Gl W.heap.size ea eu W := by
  rw [MakeChecks.laidMetH_plain _ _ _ (by kernel_rfl)] at h
  exact gl_of_laid h (by simp only [Rows.fnLinesFedUptoRow]; exact .cons _ (.cons _ (.cons_cons _ (.cons _ (.cons _ (.cons_cons _ (List.nil_sublist _))))))) (by simp [Rows.fnLinesFedUptoRow]) (by simp [Rows.fnLinesFedUptoRow])
theorem cellsU16 : Tryd.prog.cellsOf 24 = 1 := by kernel_rfl
/-- A slice of uint16 that came in. -/
theorem open_cuts {H : Type} {enc : TypeId × Value → H} {W : World} {a : Option Addr} {len cap : Nat} {d : DataW H} {p : List MemPlace} (h : DataW.Trod enc Tryd.prog W 0 (fun _ => true) true 22 (.slice a len cap) d p) :
    ∃ ks : List Nat, len = ks.length ∧ U16s W a ks ∧ len ≤ Rows.uptoBulk d := by
  obtain ⟨fuel, hf⟩ := h
  rcases open_ints Tryd.underlying22 Tryd.underlying24 cellsU16 hf with ⟨hcs, _⟩ | ⟨x, l, c, zs, hcs, _, hl, hm, hz, hx, hcell, hwz⟩
  · simp [Value.cells] at hcs
    obtain ⟨rfl, rfl, rfl⟩ := hcs
    exact ⟨[], rfl, ⟨by simp, fun q => absurd q (by simp)⟩, Nat.zero_le _⟩
  · simp [Value.cells] at hcs
    obtain ⟨rfl, rfl, rfl⟩ := hcs
    have hzl : zs.length = cap := by simpa using hz
    have hu : ∀ z ∈ zs, 0 ≤ z ∧ z ≤ 65535 := fun z hz => by
      have := bounds_u16 (hwz z hz)
      omega
    refine ⟨(zs.take len).map Int.toNat, by simp; omega, ⟨?_, fun q => ?_⟩, ?_⟩
    · intro n hn
      simp only [List.mem_map] at hn
      obtain ⟨z, hz1, rfl⟩ := hn
      have := hu z (List.mem_of_mem_take hz1)
      omega
    · have hq : 0 < len := by simp at q; omega
      obtain ⟨r, o, sp⟩ := x
      have hsp : sp = none := by
        have := hcell 0 (by omega)
        simpa [Addr.add] using World.cell?_spot this
      subst hsp
      refine ⟨r, o, rfl, fun j hj => ?_⟩
      have hj' : j < len := by simp at hj; omega
      have hjz : j < zs.length := by omega
      have := hcell j hjz
      rw [addr_add] at this
      rw [this]
      have hz0 := hu zs[j] (List.getElem_mem _)
      simp [hjz]
      omega
    · simp only [Prod.mk.injEq] at hx
      rw [hx.1]
      have := bulks.slice_le (H := H) (lits .u16 (zs.take len)) (lits .u16 (zs.drop len))
      have e : (lits (H := H) .u16 (zs.take len)).length = len := by simp [lits]; omega
      omega


set_option maxRecDepth 100000 in
/-- WHAT THE WALK GIVES, for every argument and every world. -/
theorem contract (H : Type) (enc : TypeId × Value → H) (W : World) (base : Nat) (args : Array Value) (ds gs : List (DataW H)) (before : List MemPlace)
    (hval : ∀ (j : Nat) t v, Tryd.f3.params[j]? = some t → args[j]? = some v → Value.okWide Tryd.prog W .any base t v)
    (hW : DataW.Whole enc Tryd.prog Tryd.f3.params.toList Rows.fnLinesFedSpec.vars false W args.toList ds gs before) (hk : Rows.uptoBulkAll (ds ++ gs) ≤ 1048576) (hL : laidMetH Tryd.prog Rows.fnLinesFedUptoRow.laid W) :
    Calls Tryd.prog 3 args W fun e W' => ∃ v, e = .returned v ∧ Rows.fnLinesFedSpec.post enc Tryd.prog Tryd.f3 false true false false W args v W' := by
  have hW' := hW
  obtain ⟨p, q, hA0, hV, rfl, hfz, hnd⟩ := hW
  have hA : DataW.TrodAll enc Tryd.prog W 0 (fun _ => true) true Tryd.f3.params.toList args.toList ds p := hA0
  rw [Tryd.params3] at hA hval
  obtain ⟨v0, vs0, d0, ds0, p0, q0, hargs, rfl, rfl, h0, r0⟩ := trodAll_cons hA
  obtain ⟨v1, vs1, d1, ds1, p1, q1, rfl, rfl, rfl, h1, r1⟩ := trodAll_cons r0
  obtain ⟨v2, vs2, d2, ds2, p2, q2, rfl, rfl, rfl, h2, r2⟩ := trodAll_cons r1
  obtain ⟨rfl, rfl, rfl⟩ := trodAll_nil r2
  obtain rfl : args = #[v0, v1, v2] := by cases args; simp_all
  obtain ⟨rfl, rfl⟩ := trodVars_none hV
  have lt : ∀ {t : TypeId} {v : Value} {d : DataW H} {p : List MemPlace}, DataW.Trod enc Tryd.prog W 0 (fun _ => true) true t v d p → ∀ x ∈ p, x.block < W.heap.size := fun h => by obtain ⟨m, hm⟩ := h; exact DataW.trod_lt m _ _ _ hm
  have k0 := h0; have k1 := h1; have k2 := h2
  obtain ⟨ea, eu, hG⟩ := gl hL
  obtain ⟨s0, rfl, rfl, rfl, ws0⟩ := open_string Tryd.underlying9 (hval 0 9 v0 rfl rfl) h0
  obtain ⟨a1, len1, cap1, rfl⟩ := okWide_slice Tryd.underlying22 (hval 1 22 v1 rfl rfl)
  obtain ⟨ks, hlen, hU, hbk⟩ := open_cuts h1
  obtain ⟨z, rfl, rfl, rfl, wz⟩ := open_int Tryd.underlying5 (hval 2 5 v2 rfl rfl) h2
  have bz := bounds_u8 wz
  obtain ⟨m, rfl⟩ := Int.eq_ofNat_of_zero_le bz.1
  have hk' : s0.data.toList.length ≤ 1048576 ∧ Rows.uptoBulk d1 ≤ 1048576 := by
    simp only [List.append_nil, Rows.uptoBulkAll, Rows.uptoBulk] at hk
    omega
  have walk : Calls Tryd.prog 3 #[.string s0, .slice a1 len1 cap1, .int .u8 (m : Int)] W (LawPost W) := by
    have := linesFed_any s0.data.toList ks a1 cap1 (UInt8.ofNat m) ea eu W hU hG hk'.1 (by omega)
    have hm : (UInt8.ofNat m).toNat = m := by rw [UInt8.toNat_ofNat']; omega
    rw [← hlen, hm, ← bytes_of s0] at this
    exact this
  refine walk.mono fun e W' ⟨he', hfr⟩ => ?_
  subst he'
  have bel : Below W.heap.size W W' := hfr.below (Nat.le_refl _) (fun _ q => q.elim)
  exact ⟨_, rfl, _, _, _, [], _, [], hW', trodAll_mk1 (shut_bool Tryd.underlying4 _),
    (trodAll_cons_mk (Below.trod laidOut (by kernel_rfl) (of_decide_eq_true (by kernel_rfl)) k0 bel (lt k0)) (trodAll_cons_mk (Below.trod laidOut (by kernel_rfl) (of_decide_eq_true (by kernel_rfl)) k1 bel (lt k1)) (trodAll_cons_mk (Below.trod laidOut (by kernel_rfl) (of_decide_eq_true (by kernel_rfl)) k2 bel (lt k2)) trodAll_mk0))), rfl, bel.frame _, fun h => by cases h⟩

/-- A WORLD FOR THE WITNESS: the heap that the door's own run leaves. -/
theorem laid_met (os : Os) : laidMetH Tryd.prog Rows.fnLinesFedUptoRow.laid ((tabW (World.doorLaid Tryd.prog 133 os)).forCall (fun _ _ => 0) ⟨#[], #[.string ⟨#[]⟩, .slice none 0 0, .int .u8 0], []⟩).memory :=
  laidMetH_of_parts3 (fuel := 8) (laidMet_of_run' 8 (by kernel_rfl) (by kernel_rfl)) (by kernel_rfl) (by kernel_rfl)
theorem reads (os : Os) {H : Type} (enc : TypeId × Value → H) : ∃ places, DataW.whole enc Tryd.prog ((tabW (World.doorLaid Tryd.prog 133 os)).forCall (fun _ _ => 0) ⟨#[], #[.string ⟨#[]⟩, .slice none 0 0, .int .u8 0], []⟩).memory Tryd.f3.params.toList Rows.fnLinesFedSpec.vars false #[.string ⟨#[]⟩, .slice none 0 0, .int .u8 0].toList 8 = some ([.lit (.string []), .nil, .lit (.int .u8 0)], [], places) :=
  ⟨[], by kernel_rfl⟩

set_option maxRecDepth 100000 in
theorem liftedUpto (os : Os) (started : os.Started) (H : Type) (enc : TypeId × Value → H) (F : Stop.Interp) :
    ReturnsInHanded {} Tryd.checked os 3 .any ((Rows.OpenSpec.upto Rows.fnLinesFedSpec).preRow enc Tryd.prog Tryd.f3 Rows.fnLinesFedUptoRow.domain false Rows.fnLinesFedUptoRow.laid) (((Rows.OpenSpec.upto Rows.fnLinesFedSpec).at F).post enc Tryd.prog Tryd.f3 false true false false) := by
  obtain ⟨places, hx⟩ := reads os enc
  refine returnsInHanded_of_row (C := Tryd.checked) (s := Rows.OpenSpec.upto Rows.fnLinesFedSpec) own started (by kernel_rfl) Tryd.func3
    (witness_row_atRef (enc := enc) (C := Tryd.checked) false (tabW (World.doorLaid Tryd.prog 133 os)) #[.string ⟨#[]⟩, .slice none 0 0, .int .u8 0] rfl (by kernel_rfl) (by kernel_rfl) (by kernel_rfl)
      (OpenSpec.preRow_of_cond 8 hx (by kernel_rfl) (fun k hk => by cases hk; kernel_rfl) (by kernel_rfl) (laid_met os))) ?_
  intro W base args ds gs before hval hW _ hcond _ hL _ _
  exact contract H enc W base args ds gs before hval hW (bulks.bound (hcond _ rfl)) hL

theorem saidUpto : Rows.FnLinesFedUptoSaid :=
  OpenClaim.holds_of_cond 3 Tryd.f3 rfl rfl rfl rfl rfl rfl rfl ⟨rfl, rfl, rfl, rfl, rfl⟩ rfl rfl rfl rfl rfl (by kernel_rfl) Tryd.func3 (by kernel_rfl)
    (of_decide_eq_true (by kernel_rfl)) (by unfold Func.isWrapper; first | (rw [if_pos (by decide +kernel)]; kernel_rfl) | (rw [if_neg (by decide +kernel)]; exact ⟨rfl, rfl⟩))
    (fun os started H enc _ F => by rw [OpenClaim.pre_eq_preRow]; exact liftedUpto os started H enc F)

theorem plain (f : FuncId) (fn : Func) (hf : Tryd.pinned.checked.prog.funcNamed "lib-tideyard/laws.FnLinesFed" = some f) (hfn : Tryd.pinned.checked.prog.funcs[f]? = some fn) :
    true = Tryd.pinned.checked.prog.looks [] ∧ ∀ (j : Nat) t, fn.params[j]? = some t → Tryd.pinned.checked.prog.wantsStandIn t = false := by
  obtain rfl : f = 3 := Option.some.inj ((show Tryd.prog.funcNamed "lib-tideyard/laws.FnLinesFed" = some 3 by kernel_rfl).symm.trans hf) |>.symm
  obtain rfl : fn = Tryd.f3 := (Option.some.inj (Tryd.func3.symm.trans hfn)).symm
  refine ⟨by kernel_rfl, fun j t ht => ?_⟩
  rw [Tryd.params3] at ht
  have hm : t ∈ [9, 22, 5] := by simpa using Array.mem_of_getElem? ht
  have hall : ([9, 22, 5].all fun u => !Tryd.prog.wantsStandIn u) = true := by kernel_rfl
  exact (show Tryd.prog.wantsStandIn t = false by simpa using List.all_eq_true.1 hall t hm)

/-- THE CARD. -/
theorem cardUpto : Rows.FnLinesFedUptoCardSaid :=
  Claim7.holds_tied_plain_at .later [] _ _ _ _ saidUpto (fun _ h => by cases h) (by kernel_rfl) (fun _ h => by cases h) fnLinesFedUpto_row_tie rfl ⟨rfl, rfl⟩ (by kernel_rfl) rfl plain (by kernel_rfl)
#print axioms cardUpto
end Go.Proofs.YtimigjjokdnfbaaDoor.fnLinesFed
