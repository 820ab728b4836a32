/- laws.FnAskHolds, laws.FnAskLeast: the walks. -/
import Derived.Test.YtmifjolehieccaaDoorAsk
namespace Go.Proofs.YtmifjolehieccaaDoor
open Go Go.RowKit

theorem bytes_app (a b : List UInt8) : (⟨a.toArray⟩ ++ ⟨b.toArray⟩ : ByteArray) = ⟨(a ++ b).toArray⟩ := by
  apply ByteArray.ext
  simp

/-- It returns true, and leaves all that there was. -/
def TruePost (w : World) (e : Ending) (w' : World) : Prop := e = .returned (.bool true) ∧ Fr (fun _ => False) w w'

set_option maxHeartbeats 1600000 in
set_option maxRecDepth 100000 in
theorem askHolds_any (start : List UInt8) (way : Int) (space grow : Nat) (text : List UInt8) (cuts : List Nat) (A : Option Addr) (c : Nat) (ea : Addr) (w : World) (hA : U16s w A cuts) (he : w.cell? ⟨1, 0, none⟩ = some (errV ea))
    (h1 : start.length ≤ 1048576) (h2 : text.length ≤ 1048576) (h3 : cuts.length ≤ 1048576) (h4 : space ≤ 65535) (h5 : grow ≤ 65535) :
    Calls Tryd.prog 3 #[startV start way space, .int .u16 (grow : Int), .string ⟨text.toArray⟩, .slice A cuts.length c] w (TruePost w) := by
  have HA := Lib.hid hA
  have HE := Lib.hid he
  clear hA he
  unfold startV
  have hcv : IntKind.i64.wrap (grow : Int) = (grow : Int) := IntWalk.i64_in _ (by omega)
  by_cases hg : grow < text.length + 512
  · go_enter Tryd.func3, Tryd.ntmps3
    go_wp2_with fail
    go_ret
    exact ⟨rfl, (Fr.refl _ w).alloc _⟩
  · go_enter Tryd.func3, Tryd.ntmps3
    go_wp2_with fail
    have hF0 : Fr (fun _ => False) w (w.alloc (.cells #[.string ⟨start.toArray⟩, .int .i64 way, .int .u16 (space : Int)] 24)) := (Fr.refl _ w).alloc _
    refine (ask_any start way space grow text cuts A c ea _ (HA.out.fr hF0 (fun _ _ _ q => q)) ((hF0.cell (World.block_lt_of_cell? _ _ HE.out) (fun q => q)).trans HE.out) h1 h2 h3 h4 h5).mono ?_
    rintro e w1 ⟨v, ak, c1, c2, rfl, hown, hmin, hne, hcc, hlen, hc2, hfr⟩
    obtain rfl : c1 = c2 := hcc (by omega)
    have k0 : w1.cell? ⟨w.heap.size, 0, none⟩ = some (.string ⟨start.toArray⟩) := by
      rw [hfr.cell (by simp) (fun q => q)]
      simp
    have HF := Lib.hid (hF0.trans hfr)
    have hl : start.length + text.length ≤ c1 := by simpa using hlen
    clear hown hmin hne hcc hlen hfr hF0
    have hap := bytes_app start text
    go_wp2_with fail
    go_ret
    exact ⟨rfl, HF.out⟩

/-- slices.Min of numbers that are at least 512. -/
def MinPost (w : World) (e : Ending) (w' : World) : Prop := ∃ m : Nat, 512 ≤ m ∧ e = .returned (.int .i64 (m : Int)) ∧ w = w'
set_option maxHeartbeats 800000 in
set_option maxRecDepth 100000 in
theorem min_any (ak : List Nat) (v : Value) (base : Nat) (w : World) (h : Own 3 1 w base v ak.length (ints' ak)) (hmin : ∀ n ∈ ak, 512 ≤ n) (hne : ak ≠ []) :
    Calls Tryd.prog 8 #[v] w (MinPost w) := by
  have hp : 0 < ak.length := List.length_pos_iff.2 hne
  have hle := h.n_le
  obtain ⟨A, cap, rfl⟩ := h.value
  have hcell : ∀ j, j < ak.length → ∃ r, A = some ⟨r, 0, none⟩ ∧ ∃ m : Nat, 512 ≤ m ∧ w.cell? ⟨r, j, none⟩ = some (.int .i64 (m : Int)) := by
    intro j hj
    rcases h.2 with ⟨e, h0⟩ | ⟨g, cap', cur, e, h1, h2, h3, h4, h5, h6⟩
    · omega
    · injection e with e1 e2 e3
      refine ⟨g, e1, ak[j], hmin _ (List.getElem_mem _), ?_⟩
      rw [cell_of_row w g j _ _ _ h2]
      have e : (ints' ak)[j]? = some (intV ak[j]) := by simp [ints', List.getElem?_eq_getElem hj]
      rw [← h6, List.getElem?_take_of_lt (by omega)] at e
      simpa [intV] using e
  obtain ⟨r, rfl, m0, hm0, hc0⟩ := hcell 0 hp
  have HC := Lib.hid hcell
  clear hcell h hmin hne
  go_enter Tryd.func8, Tryd.ntmps8
  go_wp2_with fail
  go_loop [3, 4] (fun m i => ∃ (k : Nat) (x : Nat), k ≤ ak.length ∧ 1 ≤ k ∧ i = .int .i64 (k : Int) ∧ 512 ≤ x ∧ m = .int .i64 (x : Int)) (fun _ i => ak.length - (intOf i).toNat)
  case atStart => exact ⟨1, m0, by omega, by omega, rfl, hm0, rfl⟩
  case round =>
    obtain ⟨k, x, hk, hk1, rfl, hx, rfl⟩ := hrel
    by_cases hlt : k < ak.length
    · obtain ⟨r', e, y, hy, hcy⟩ := HC.out k hlt
      injection e with e
      injection e with e
      subst e
      have hmm : min (x : Int) (y : Int) = ((min x y : Nat) : Int) := by omega
      go_wp2_with fail
      go_round
      case rel => exact ⟨k + 1, min x y, by omega, by omega, by go_num, by omega, by go_num⟩
      case measure => simp [intOf]; omega
    · go_wp2_with fail
      go_ret
      exact ⟨x, hx, rfl, rfl⟩

set_option maxHeartbeats 1600000 in
set_option maxRecDepth 100000 in
theorem askLeast_any (start : List UInt8) (way : Int) (space grow : Nat) (text : List UInt8) (cuts : List Nat) (A : Option Addr) (c : Nat) (ea : Addr) (w : World) (hA : U16s w A cuts) (he : w.cell? ⟨1, 0, none⟩ = some (errV ea))
    (h1 : start.length ≤ 1048576) (h2 : text.length ≤ 1048576) (h3 : cuts.length ≤ 1048576) (h4 : space ≤ 65535) (h5 : grow ≤ 65535) :
    Calls Tryd.prog 4 #[startV start way space, .int .u16 (grow : Int), .string ⟨text.toArray⟩, .slice A cuts.length c] w (TruePost w) := by
  have HA := Lib.hid hA
  have HE := Lib.hid he
  clear hA he
  unfold startV
  go_enter Tryd.func4, Tryd.ntmps4
  go_wp2_with fail
  have hF0 : Fr (fun _ => False) w (w.alloc (.cells #[.string ⟨start.toArray⟩, .int .i64 way, .int .u16 (space : Int)] 24)) := (Fr.refl _ w).alloc _
  refine (ask_any start way space grow text cuts A c ea _ (HA.out.fr hF0 (fun _ _ _ q => q)) ((hF0.cell (World.block_lt_of_cell? _ _ HE.out) (fun q => q)).trans HE.out) h1 h2 h3 h4 h5).mono ?_
  rintro e w1 ⟨v, ak, c1, c2, rfl, hown, hmin, hne, hcc, hlen, hc2, hfr⟩
  have k0 : w1.cell? ⟨w.heap.size, 0, none⟩ = some (.string ⟨start.toArray⟩) := by
    rw [hfr.cell (by simp) (fun q => q)]
    simp
  have HF := Lib.hid (hF0.trans hfr)
  have hp : 0 < ak.length := List.length_pos_iff.2 hne
  obtain ⟨A1, cap1, rfl⟩ := hown.value
  have HO := Lib.hid hown
  have HM := Lib.hid hmin
  have HN := Lib.hid hne
  clear hown hmin hne hcc hlen hfr hF0
  have hap := bytes_app start text
  go_wp2_with fail
  refine (min_any ak _ _ _ HO.out HM.out HN.out).mono ?_
  rintro e w2 ⟨m, hm, rfl, rfl⟩
  go_wp2_with fail
  go_ret
  exact ⟨rfl, HF.out⟩
end Go.Proofs.YtmifjolehieccaaDoor
