/- impl.Ask. -/
import Derived.Test.YtmifjolehieccaaDoorReadFrom
namespace Go.Proofs.YtmifjolehieccaaDoor
open Go Go.RowKit

theorem begin_any (text : List UInt8) (way : Int) (space : Nat) (w : World) (hl : text.length ≤ 1099511627776) (hs : space ≤ 65535) :
    Calls Tryd.prog 13 #[startV text way space] w (BeginPost w text) := by
  by_cases h1 : way = 1
  · subst h1
    exact begin_slice text space w hl hs
  · by_cases h2 : way = 2
    · subst h2
      exact begin_write text space w hl
    · exact begin_string text way space w (by simpa using h1) (by simpa using h2) hl

theorem buf_cap_q (w : World) (b : Nat) (g : Gh) (h : BufAt w b g) : Calls Tryd.prog 15 #[.pointer (some ⟨b, 0, none⟩)] w fun e w' => e = .returned (.int .i64 (g.all.length : Int)) ∧ w' = w :=
  (buf_cap w b g h).mono fun _ _ ⟨h1, h2⟩ => ⟨h1, h2.symm⟩
theorem buf_string_q (w : World) (b : Nat) (g : Gh) (h : BufAt w b g) : Calls Tryd.prog 18 #[.pointer (some ⟨b, 0, none⟩)] w fun e w' => e = .returned (.string ⟨g.txt.toArray⟩) ∧ ∃ m, w' = w.drewN m :=
  (buf_string w b g h).mono fun _ _ ⟨h1, h2⟩ => ⟨h1, 1, h2⟩

/-- A new reader of pieces. -/
theorem SrcAt.new {w : World} {base : Nat} {v : Value} {ps : List (List UInt8)} (fl : Bool) (h : Own 9 1 w base v ps.length (strs ps)) (hb : base ≤ w.heap.size) :
    SrcAt (w.alloc (.cells #[v, .bool fl, .slice none 0 0] 53)) w.heap.size base ps fl [] := by
  have hf : Fr (fun _ => False) w (w.alloc (.cells #[v, .bool fl, .slice none 0 0] 53)) := (Fr.refl _ w).alloc _
  rcases h.2 with ⟨rfl, h0⟩ | ⟨g, cap, cur, rfl, h1, h2, h3, h4, h5, h6⟩
  · refine ⟨none, 0, _, hb, ?_, fun q => absurd (List.eq_nil_of_length_eq_zero h0) q, by omega, Own.nil _ _ _ _⟩
    rw [h0]
    exact heap_alloc_new w _
  · refine ⟨_, cap, _, hb, heap_alloc_new w _, fun _ => ⟨g, 0, cur, rfl, h1, hf.blk h2 (fun q => q), fun j p hp => ?_⟩, h3, Own.nil _ _ _ _⟩
    have hj : j < ps.length := (List.getElem?_eq_some_iff.1 hp).1
    have e : (strs ps)[j]? = some (strV p) := by simp [strs, hp]
    rw [← h6, List.getElem?_take_of_lt (by omega)] at e
    simpa using e

theorem Own.base {E : TypeId} {size : Nat} {w : World} {base base' : Nat} {v : Value} {n : Nat} {xs : List Value} (h : Own E size w base v n xs) (hb : base' ≤ base) : Own E size w base' v n xs := by
  refine ⟨h.1, ?_⟩
  rcases h.2 with h | ⟨g, cap, cur, rfl, h1, h2⟩
  · exact .inl h
  · exact .inr ⟨g, cap, cur, rfl, Nat.le_trans hb h1, h2⟩
theorem Own.n_le {E : TypeId} {size : Nat} {w : World} {base : Nat} {v : Value} {n : Nat} {xs : List Value} (h : Own E size w base v n xs) : n ≤ 9223372036854775807 := by
  rcases h.2 with ⟨_, rfl⟩ | ⟨g, cap, cur, rfl, h1, h2, h3, h4, _⟩
  · omega
  · unfold maxLen at h4; omega

def AskPost (w : World) (start text : List UInt8) (grow : Nat) (e : Ending) (w' : World) : Prop :=
  ∃ (v : Value) (ak : List Nat) (c1 c2 : Nat), e = .returned (.tuple #[v, .int .i64 (c1 : Int), .int .i64 (c2 : Int), .string ⟨(start ++ text).toArray⟩]) ∧ Own 3 1 w' w.heap.size v ak.length (ints' ak) ∧ (∀ n ∈ ak, 512 ≤ n) ∧ ak ≠ [] ∧
    (text.length + 512 ≤ grow → c1 = c2) ∧ (start ++ text).length ≤ c2 ∧ c2 ≤ 9223372036854775807 ∧ Fr (fun _ => False) w w'

set_option maxHeartbeats 1600000 in
set_option maxRecDepth 100000 in
theorem ask_any (start : List UInt8) (way : Int) (space grow : Nat) (text : List UInt8) (cuts : List Nat) (A : Option Addr) (c : Nat) (ea : Addr) (w : World) (hA : U16s w A cuts) (he : w.cell? ⟨1, 0, none⟩ = some (errV ea))
    (h1 : start.length ≤ 1048576) (h2 : text.length ≤ 1048576) (h3 : cuts.length ≤ 1048576) (h4 : space ≤ 65535) (h5 : grow ≤ 65535) :
    Calls Tryd.prog 7 #[startV start way space, .int .u16 (grow : Int), .string ⟨text.toArray⟩, .slice A cuts.length c] w (AskPost w start text grow) := by
  have HA := Lib.hid hA
  have HE := Lib.hid he
  clear hA he
  unfold startV
  go_enter Tryd.func7, Tryd.ntmps7
  go_wp2_with fail
  refine (begin_any start way space _ (by omega) h4).mono ?_
  rintro e w1 ⟨b, g, rfl, F1, ht1, hr1⟩
  have F1 := F1.weaken ((Fr.refl _ w).alloc (.cells #[.string ⟨start.toArray⟩, .int .i64 way, .int .u16 (space : Int)] 24))
  have HF1 := Lib.hid F1
  have HT1 := Lib.hid ht1
  clear F1 ht1 hr1
  have hcv : IntKind.i64.wrap (grow : Int) = (grow : Int) := IntWalk.i64_in _ (by omega)
  go_wp2_with fail
  refine (buf_grow grow _ b g HF1.out.at' (by rw [HT1.out]; omega)).mono ?_
  rintro e w2 ⟨g2, rfl, S2, G2⟩
  have HF2 := Lib.hid (HF1.out.step S2)
  have HG2 := Lib.hid G2
  clear S2 G2
  go_wp2_with fail
  refine (buf_cap _ b g2 HF2.out.at').mono ?_
  rintro e w2' ⟨rfl, rfl⟩
  go_wp2_with fail
  have hU2 : U16s w2 A cuts := HA.out.fr HF2.out.fr (fun _ _ _ q => q)
  refine (pieces_any text cuts A c _ hU2 (by omega) (by omega)).mono ?_
  rintro e w3 ⟨v3, rfl, hown3, hfr3⟩
  obtain ⟨A3, cap3, hv3⟩ := hown3.value
  rw [hv3] at hown3
  rw [hv3]
  have hs4 := SrcAt.new false hown3 hfr3.size
  have hF4 : Fr (fun _ => False) w2 (w3.alloc (.cells #[.slice A3 (piecesF text cuts).length cap3, .bool false, .slice none 0 0] 53)) := hfr3.alloc _
  have hA4 := HF2.out.at'.fr hF4 (fun _ _ q => q)
  have hE4 : (w3.alloc (.cells #[.slice A3 (piecesF text cuts).length cap3, .bool false, .slice none 0 0] 53)).cell? ⟨1, 0, none⟩ = some (errV ea) := by
    have k := HF2.out.fr.trans hF4
    exact (k.cell (World.block_lt_of_cell? _ _ HE.out) (fun q => q)).trans HE.out
  generalize hw4 : w3.alloc (.cells #[.slice A3 (piecesF text cuts).length cap3, .bool false, .slice none 0 0] 53) = w4 at *
  obtain ⟨sb, hsb⟩ : ∃ sb, w3.heap.size = sb := ⟨_, rfl⟩
  rw [hsb] at hs4
  have HS4 := Lib.hid hs4
  have HFR4 := Lib.hid hF4
  have HA4 := Lib.hid hA4
  have HE4 := Lib.hid hE4
  clear hs4 hF4 hA4 hE4 hown3 hfr3 hU2
  have hpf : Hid (tot (piecesF text cuts) = text.length) := by unfold tot; rw [piecesF_flat]; exact rfl
  have hpl : (piecesF text cuts).length ≤ 1048577 := by
    unfold piecesF
    rw [List.length_append, cutAll_len]
    split <;> simp <;> omega
  have hsz2 := HF2.out.at'.lt
  go_wp2_with fail
  refine (readFrom_src w4 b g2 sb w2.heap.size (piecesF text cuts) ea HA4.out HS4.out hsz2 HFR4.out.size HE4.out ?_ ?_ ?_).mono ?_
  · exact Nat.lt_of_lt_of_le (World.block_lt_of_cell? _ _ HE.out) HF2.out.fr.size
  · rw [hpf.out, HG2.out.txt, HT1.out]; omega
  · rw [hpf.out]; omega
  rintro e w5 ⟨g5, ak, rfl, G5, hlr5, htx5, hs5, hmin5, hne5, hcap5⟩
  have hA5 := Lib.hid G5.at'
  obtain ⟨A5, c5, v5, hC5⟩ := hs5
  have k2 := hC5.c2
  have HC5 := Lib.hid hC5
  have HG5 := Lib.hid G5
  have HT5 := Lib.hid htx5
  clear G5 hC5 htx5 hlr5
  go_wp2_with fail
  go_quiet ((first | (go_at_call 15; exact Calls.quiet_of_same (buf_cap_q _ b g5 (hA5.out.drewN _))) | (go_at_call 18; exact Calls.quiet_of (buf_string_q _ b g5 (hA5.out.drewN _)))))
  go_wp2_with fail
  have hA5' := hA5.out
  have htx : g5.txt = start ++ text := by rw [HT5.out, HG2.out.txt, HT1.out, piecesF_flat]
  refine bodyPost_ret (v := .tuple #[v5, .int .i64 (g2.all.length : Int), .int .i64 (g5.all.length : Int), .string ⟨(start ++ text).toArray⟩]) (by rw [← htx]; simp [results, Tryd.results7, go_sem]) rfl ⟨v5, ak, g2.all.length, g5.all.length, rfl, ?_, hmin5, hne5, ?_, ?_, hA5'.sz, ?_⟩
  · exact (HC5.out.own.fr ((Fr.refl (fun _ => False) w5).drewN _) (fun _ _ q => q)).base HF2.out.fr.size
  · intro q
    exact (hcap5 (by rw [hpf.out]; have := HG2.out.room; omega)).symm
  · rw [← htx, g5.txt_length hA5'.lc]
    have := hA5'.lc
    omega
  · refine ((HF2.out.fr.trans HFR4.out).trans' HG5.out.fr ?_).drewN _
    intro i hi q
    rcases q with (q | q) | q
    · have := HF2.out.blk; omega
    · have := HF2.out.row i q; omega
    · have := q.1; have := HF2.out.fr.size; omega
end Go.Proofs.YtmifjolehieccaaDoor
