/- laws.FnAskLeast returns true whatever buffer, growth, text and cuts it is given, and leaves its arguments as they were: where what it reads is of bulk at most 1048576, and io.EOF, bytes.ErrTooLarge and bytes.errNegativeRead are as the program's own text lays them. -/
import Derived.Test.YtmifjolehieccaaDoorCards
import Derived.Test.YtmifjolehieccaaDoorTie
import Derived.Test.YtmifjolehieccaaDoorAskLaws
import Derived.Test.YtmifjolehieccaaDoorBulk
import Derived.ProofKit
import Derived.OpenShut
import Derived.ShutString
import Derived.ChangeOld
import Derived.LaidMore
import Derived.Stop.LaidErr
import Derived.Lib.SmallJoins
import Derived.Deep.DeepHandedRow
import Derived.Deep.DeepWitnessRowRef
namespace Go.Proofs.YtmifjolehieccaaDoor.fnAskLeast
open Go.ChangeShapes Go.WideShapes Go.ChangeAt Go.RowKit Go.Joins
open Go.ChangeMaps (open_string shut_string)

theorem own : ownKnob Tryd.prog.godebug = none := by kernel_rfl
theorem laidOut : laidOutB Tryd.prog = true := by kernel_rfl
theorem gEOF : Tryd.prog.globalNamed "io.EOF" = some 1 := by kernel_rfl
theorem gEOFType : (Tryd.prog.globals[1]?).map (·.type) = some 55 := by kernel_rfl
theorem cellsErr : Tryd.prog.cellsOf 125 = 1 := by kernel_rfl
theorem cellsStr : Tryd.prog.cellsOf 9 = 1 := by kernel_rfl
theorem cellsU16 : Tryd.prog.cellsOf 22 = 1 := by kernel_rfl
theorem cellsStart : Tryd.prog.cellsOf 24 = 3 := by kernel_rfl
theorem star : "*errors.errorString" = "*" ++ "errors.errorString" := by decide
theorem rowErr (u : TypeId) (h : Tryd.prog.typeName? 3 u = some "*errors.errorString") : u = 123 :=
  typeName_ptr_named (nm := "errors.errorString") (by rw [← star]; kernel_rfl) (by kernel_rfl) (by decide) u (by rw [← star]; exact h)

/-- What the row's list gives: the variable io.EOF holds an error. -/
theorem eof {W : World} (h : laidMetH Tryd.prog Rows.fnAskLeastUptoRow.laid W) : ∃ ea, W.cell? ⟨1, 0, none⟩ = some (errV ea) := by
  rw [MakeChecks.laidMetH_plain _ _ _ (by kernel_rfl)] at h
  obtain ⟨a, s, hv, _⟩ := laid_sentinel h gEOF gEOFType Tryd.underlying55 rowErr Tryd.underlying123 Tryd.underlying125 rfl rfl Tryd.underlying9 cellsErr cellsStr
  exact ⟨a, by simpa using World.var?_cell gEOF hv 0⟩

theorem bytes_of (s : ByteArray) : s = ⟨s.data.toList.toArray⟩ := by
  apply ByteArray.ext
  simp

/-- A slice of uint16 that came in. -/
theorem open_cuts {H : Type} {enc : TypeId × Value → H} {W : World} {a : Option Addr} {len cap : Nat} {d : DataW H} {p : List MemPlace} (h : DataW.Trod enc Tryd.prog W 0 (fun _ => true) true 25 (.slice a len cap) d p) :
    ∃ ks : List Nat, len = ks.length ∧ U16s W a ks ∧ len ≤ Rows.uptoBulk d := by
  obtain ⟨fuel, hf⟩ := h
  rcases open_ints Tryd.underlying25 Tryd.underlying22 cellsU16 hf with ⟨hcs, _⟩ | ⟨x, l, c, zs, hcs, _, hl, hm, hz, hx, hcell, hwz⟩
  · simp [Value.cells] at hcs
    obtain ⟨rfl, rfl, rfl⟩ := hcs
    exact ⟨[], rfl, ⟨by simp, fun q => absurd q (by simp)⟩, Nat.zero_le _⟩
  · simp [Value.cells] at hcs
    obtain ⟨rfl, rfl, rfl⟩ := hcs
    have hzl : zs.length = cap := by simpa using hz
    have hu : ∀ z ∈ zs, 0 ≤ z ∧ z ≤ 65535 := fun z hz => by
      have := bounds_u16 (hwz z hz)
      omega
    refine ⟨(zs.take len).map Int.toNat, by simp; omega, ⟨?_, fun q => ?_⟩, ?_⟩
    · intro n hn
      simp only [List.mem_map] at hn
      obtain ⟨z, hz1, rfl⟩ := hn
      have := hu z (List.mem_of_mem_take hz1)
      omega
    · have hq : 0 < len := by simp at q; omega
      obtain ⟨r, o, sp⟩ := x
      have hsp : sp = none := by
        have := hcell 0 (by omega)
        simpa [Addr.add] using World.cell?_spot this
      subst hsp
      refine ⟨r, o, rfl, fun j hj => ?_⟩
      have hj' : j < len := by simp at hj; omega
      have hjz : j < zs.length := by omega
      have := hcell j hjz
      rw [addr_add] at this
      rw [this]
      have hz0 := hu zs[j] (List.getElem_mem _)
      simp [hjz]
      omega
    · simp only [Prod.mk.injEq] at hx
      rw [hx.1]
      have := bulks.slice_le (H := H) (lits .u16 (zs.take len)) (lits .u16 (zs.drop len))
      have e : (lits (H := H) .u16 (zs.take len)).length = len := by simp [lits]; omega
      omega

set_option maxRecDepth 100000 in
/-- WHAT THE askLeast_any GIVES, for every argument and every world. -/
theorem contract (H : Type) (enc : TypeId × Value → H) (W : World) (base : Nat) (args : Array Value) (ds gs : List (DataW H)) (before : List MemPlace)
    (hval : ∀ (j : Nat) t v, Tryd.f4.params[j]? = some t → args[j]? = some v → Value.okWide Tryd.prog W .any base t v)
    (hW : DataW.Whole enc Tryd.prog Tryd.f4.params.toList Rows.fnAskLeastSpec.vars false W args.toList ds gs before) (hk : Rows.uptoBulkAll (ds ++ gs) ≤ 1048576) (hL : laidMetH Tryd.prog Rows.fnAskLeastUptoRow.laid W) :
    Calls Tryd.prog 4 args W fun e W' => ∃ v, e = .returned v ∧ Rows.fnAskLeastSpec.post enc Tryd.prog Tryd.f4 false true false false W args v W' := by
  have hW' := hW
  obtain ⟨p, q, hA0, hV, rfl, hfz, hnd⟩ := hW
  have hA : DataW.TrodAll enc Tryd.prog W 0 (fun _ => true) true Tryd.f4.params.toList args.toList ds p := hA0
  rw [Tryd.params4] at hA hval
  obtain ⟨v0, vs0, d0, ds0, p0, q0, hargs, rfl, rfl, h0, r0⟩ := trodAll_cons hA
  obtain ⟨v1, vs1, d1, ds1, p1, q1, rfl, rfl, rfl, h1, r1⟩ := trodAll_cons r0
  obtain ⟨v2, vs2, d2, ds2, p2, q2, rfl, rfl, rfl, h2, r2⟩ := trodAll_cons r1
  obtain ⟨v3, vs3, d3, ds3, p3, q3, rfl, rfl, rfl, h3, r3⟩ := trodAll_cons r2
  obtain ⟨rfl, rfl, rfl⟩ := trodAll_nil r3
  obtain rfl : args = #[v0, v1, v2, v3] := by cases args; simp_all
  obtain ⟨rfl, rfl⟩ := trodVars_none hV
  have lt : ∀ {t : TypeId} {v : Value} {d : DataW H} {p : List MemPlace}, DataW.Trod enc Tryd.prog W 0 (fun _ => true) true t v d p → ∀ x ∈ p, x.block < W.heap.size := fun h => by obtain ⟨m, hm⟩ := h; exact DataW.trod_lt m _ _ _ hm
  have k0 := h0; have k1 := h1; have k2 := h2; have k3 := h3
  obtain ⟨c0, c1, c2, y0, y1, y2, m, rfl, rfl, rfl, hy0, hy1, hy2⟩ := open_agg3 Tryd.underlying24 (by kernel_rfl) cellsStart (hval 0 24 v0 rfl rfl) h0
  obtain ⟨s0, e0, e0', ws0⟩ := DataW.trod_string Tryd.underlying9 hy0
  obtain ⟨way, e1, e1', ww⟩ := DataW.trod_int Tryd.underlying3 hy1
  obtain ⟨space, e2, e2', wsp⟩ := DataW.trod_int Tryd.underlying22 hy2
  simp only [List.cons.injEq, and_true] at e0 e1 e2
  subst e0 e1 e2
  obtain ⟨grow, rfl, rfl, rfl, wg⟩ := open_int Tryd.underlying22 (hval 1 22 v1 rfl rfl) h1
  obtain ⟨s2, rfl, rfl, rfl, ws2⟩ := open_string Tryd.underlying9 (hval 2 9 v2 rfl rfl) h2
  obtain ⟨a3, len3, cap3, rfl⟩ := okWide_slice Tryd.underlying25 (hval 3 25 v3 rfl rfl)
  obtain ⟨ks, hlen, hU, hbk⟩ := open_cuts h3
  obtain ⟨ea, he⟩ := eof hL
  have b0 := bounds_u16 wsp
  have b1 := bounds_u16 wg
  obtain ⟨sp, rfl⟩ := Int.eq_ofNat_of_zero_le b0.1
  obtain ⟨gr, rfl⟩ := Int.eq_ofNat_of_zero_le b1.1
  have hk' : s0.data.toList.length ≤ 1048576 ∧ s2.data.toList.length ≤ 1048576 ∧ Rows.uptoBulk d3 ≤ 1048576 := by
    simp only [List.append_nil, Rows.uptoBulkAll, Rows.uptoBulk, e0', e1', e2'] at hk
    omega
  have walk : Calls Tryd.prog 4 #[.agg #[.string s0, .int .i64 way, .int .u16 (sp : Int)], .int .u16 (gr : Int), .string s2, .slice a3 len3 cap3] W (TruePost W) := by
    have := askLeast_any s0.data.toList way sp gr s2.data.toList ks a3 cap3 ea W hU he hk'.1 hk'.2.1 (by omega) (by omega) (by omega)
    rw [← hlen] at this
    unfold startV at this
    rw [← bytes_of s0, ← bytes_of s2] at this
    exact this
  refine walk.mono fun e W' ⟨he', hfr⟩ => ?_
  subst he'
  have bel : Below W.heap.size W W' := hfr.below (Nat.le_refl _) (fun _ q => q.elim)
  exact ⟨_, rfl, _, _, _, [], _, [], hW', trodAll_mk1 (shut_bool Tryd.underlying4 _),
    trodAll_cons_mk (Below.trod laidOut (by kernel_rfl) (of_decide_eq_true (by kernel_rfl)) k0 bel (lt k0))
      (trodAll_cons_mk (Below.trod laidOut (by kernel_rfl) (of_decide_eq_true (by kernel_rfl)) k1 bel (lt k1))
        (trodAll_cons_mk (Below.trod laidOut (by kernel_rfl) (of_decide_eq_true (by kernel_rfl)) k2 bel (lt k2))
          (trodAll_cons_mk (Below.trod laidOut (by kernel_rfl) (of_decide_eq_true (by kernel_rfl)) k3 bel (lt k3)) trodAll_mk0))), rfl, bel.frame _, fun h => by cases h⟩

/-- A WORLD FOR THE WITNESS: the heap that the door's own run leaves. -/
theorem laid_met (os : Os) : laidMetH Tryd.prog Rows.fnAskLeastUptoRow.laid ((World.doorLaid Tryd.prog 133 os).forCall (fun _ _ => 0) ⟨#[], #[.agg #[.string ⟨#[]⟩, .int .i64 0, .int .u16 0], .int .u16 0, .string ⟨#[]⟩, .slice none 0 0], []⟩).memory :=
  laidMetH_of_parts3 (fuel := 8) (laidMet_of_run' 8 (by kernel_rfl) (by kernel_rfl)) (by kernel_rfl) (by kernel_rfl)
theorem reads (os : Os) {H : Type} (enc : TypeId × Value → H) : ∃ places, DataW.whole enc Tryd.prog ((World.doorLaid Tryd.prog 133 os).forCall (fun _ _ => 0) ⟨#[], #[.agg #[.string ⟨#[]⟩, .int .i64 0, .int .u16 0], .int .u16 0, .string ⟨#[]⟩, .slice none 0 0], []⟩).memory Tryd.f4.params.toList Rows.fnAskLeastSpec.vars false #[.agg #[.string ⟨#[]⟩, .int .i64 0, .int .u16 0], .int .u16 0, .string ⟨#[]⟩, .slice none 0 0].toList 8 = some ([.agg [.lit (.string []), .lit (.int .i64 0), .lit (.int .u16 0)], .lit (.int .u16 0), .lit (.string []), .nil], [], places) :=
  ⟨[], by kernel_rfl⟩

set_option maxRecDepth 100000 in
theorem liftedUpto (os : Os) (started : os.Started) (H : Type) (enc : TypeId × Value → H) (F : Stop.Interp) :
    ReturnsInHanded {} Tryd.checked os 4 .any ((Rows.OpenSpec.upto Rows.fnAskLeastSpec).preRow enc Tryd.prog Tryd.f4 Rows.fnAskLeastUptoRow.domain false Rows.fnAskLeastUptoRow.laid) (((Rows.OpenSpec.upto Rows.fnAskLeastSpec).at F).post enc Tryd.prog Tryd.f4 false true false false) := by
  obtain ⟨places, hx⟩ := reads os enc
  refine returnsInHanded_of_row (C := Tryd.checked) (s := Rows.OpenSpec.upto Rows.fnAskLeastSpec) own started (by kernel_rfl) Tryd.func4
    (witness_row_atRef (enc := enc) (C := Tryd.checked) false (World.doorLaid Tryd.prog 133 os) #[.agg #[.string ⟨#[]⟩, .int .i64 0, .int .u16 0], .int .u16 0, .string ⟨#[]⟩, .slice none 0 0] rfl (by kernel_rfl) (by kernel_rfl) (by kernel_rfl)
      (OpenSpec.preRow_of_cond 8 hx (by kernel_rfl) (fun k hk => by cases hk; kernel_rfl) (by kernel_rfl) (laid_met os))) ?_
  intro W base args ds gs before hval hW _ hcond _ hL _ _
  exact contract H enc W base args ds gs before hval hW (bulks.bound (hcond _ rfl)) hL

theorem saidUpto : Rows.FnAskLeastUptoSaid :=
  OpenClaim.holds_of_cond 4 Tryd.f4 rfl rfl rfl rfl rfl rfl rfl ⟨rfl, rfl, rfl, rfl, rfl⟩ rfl rfl rfl rfl rfl (by kernel_rfl) Tryd.func4 (by kernel_rfl)
    (of_decide_eq_true (by kernel_rfl)) (by unfold Func.isWrapper; first | (rw [if_pos (by decide +kernel)]; kernel_rfl) | (rw [if_neg (by decide +kernel)]; exact ⟨rfl, rfl⟩))
    (fun os started H enc _ F => by rw [OpenClaim.pre_eq_preRow]; exact liftedUpto os started H enc F)

theorem plain (f : FuncId) (fn : Func) (hf : Tryd.pinned.checked.prog.funcNamed "lib-tideyard/laws.FnAskLeast" = some f) (hfn : Tryd.pinned.checked.prog.funcs[f]? = some fn) :
    true = Tryd.pinned.checked.prog.looks [] ∧ ∀ (j : Nat) t, fn.params[j]? = some t → Tryd.pinned.checked.prog.wantsStandIn t = false := by
  obtain rfl : f = 4 := Option.some.inj ((show Tryd.prog.funcNamed "lib-tideyard/laws.FnAskLeast" = some 4 by kernel_rfl).symm.trans hf) |>.symm
  obtain rfl : fn = Tryd.f4 := (Option.some.inj (Tryd.func4.symm.trans hfn)).symm
  refine ⟨by kernel_rfl, fun j t ht => ?_⟩
  rw [Tryd.params4] at ht
  have hm : t ∈ [24, 22, 9, 25] := by simpa using Array.mem_of_getElem? ht
  have hall : ([24, 22, 9, 25].all fun u => !Tryd.prog.wantsStandIn u) = true := by kernel_rfl
  exact (show Tryd.prog.wantsStandIn t = false by simpa using List.all_eq_true.1 hall t hm)

/-- THE CARD. -/
theorem cardUpto : Rows.FnAskLeastUptoCardSaid :=
  Claim7.holds_tied_plain_at .later [] _ _ _ _ saidUpto (fun _ h => by cases h) (by kernel_rfl) (fun _ h => by cases h) fnAskLeastUpto_row_tie rfl ⟨rfl, rfl⟩ (by kernel_rfl) rfl plain (by kernel_rfl)
#print axioms cardUpto
end Go.Proofs.YtmifjolehieccaaDoor.fnAskLeast
