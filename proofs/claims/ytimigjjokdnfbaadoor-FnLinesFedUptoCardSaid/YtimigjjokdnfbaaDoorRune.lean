/- unicode/utf8.DecodeRune: the shelf's contract, laid at this program. unicode/utf8.AppendRune: it is an append of the rune's bytes. -/
import Derived.Test.YtimigjjokdnfbaaDoorBufF
import Derived.Shelf.Spec.DecodeRune
import Derived.Test.YtimigjjokdnfbaaDoorPure
namespace Go.Proofs.YtimigjjokdnfbaaDoor
open Go Go.RowKit

/-- The numbers of the shelf's names in this program. -/
def decRen : Go.Shelf.Ren := ⟨fun | 32 => 62 | 49 => 71 | n => n,
  fun | 0 => 0 | 3 => 3 | 4 => 4 | 5 => 5 | 21 => 21 | 25 => 132 | 30 => 52 | 33 => 104 | 66 => 133 | 68 => 135 | 69 => 136 | n => n,
  fun | 2 => 6 | 3 => 7 | n => n⟩
theorem decLays : Lays7.n32 Tryd.prog decRen :=
  { mixed := by kernel_rfl, f32 := Tryd.func62, f49 := Tryd.func71,
    t0 := by kernel_rfl, a0 := fun w => by kernel_rfl, z0 := fun w => by kernel_rfl, v0 := fun w => by kernel_rfl, i0 := by kernel_rfl, t3 := by kernel_rfl, a3 := fun w => by kernel_rfl, z3 := fun w => by kernel_rfl, v3 := fun w => by kernel_rfl, i3 := by kernel_rfl, t4 := by kernel_rfl, a4 := fun w => by kernel_rfl, z4 := fun w => by kernel_rfl, v4 := fun w => by kernel_rfl, i4 := by kernel_rfl, t5 := by kernel_rfl, a5 := fun w => by kernel_rfl, z5 := fun w => by kernel_rfl, v5 := fun w => by kernel_rfl, i5 := by kernel_rfl, t21 := by kernel_rfl, a21 := fun w => by kernel_rfl, z21 := fun w => by kernel_rfl, v21 := fun w => by kernel_rfl, i21 := by kernel_rfl, t25 := by kernel_rfl, a25 := fun w => by kernel_rfl, z25 := fun w => by kernel_rfl, v25 := fun w => by kernel_rfl, i25 := by kernel_rfl, t30 := by kernel_rfl, a30 := fun w => by kernel_rfl, z30 := fun w => by kernel_rfl, v30 := fun w => by kernel_rfl, i30 := by kernel_rfl, t33 := by kernel_rfl, a33 := fun w => by kernel_rfl, z33 := fun w => by kernel_rfl, v33 := fun w => by kernel_rfl, i33 := by kernel_rfl, t66 := by kernel_rfl, a66 := fun w => by kernel_rfl, z66 := fun w => by kernel_rfl, t68 := by kernel_rfl, a68 := fun w => by kernel_rfl, z68 := fun w => by kernel_rfl, v68 := fun w => by kernel_rfl, i68 := by kernel_rfl, t69 := by kernel_rfl, a69 := fun w => by kernel_rfl, z69 := fun w => by kernel_rfl, v69 := fun w => by kernel_rfl, i69 := by kernel_rfl, g2 := by kernel_rfl, g3 := by kernel_rfl }
end Go.Proofs.YtimigjjokdnfbaaDoor

namespace Go.Proofs.YtimigjjokdnfbaaDoor
open Go Go.RowKit

theorem bcs_rune (r : Int) : bcs (Lib.encodeRune r) = Lib.runeCells r := Lib.byteCells_encodeRune r
/-- The append that AppendRune comes to. -/
def RuneApp (w : World) (v : Value) (r : Int) (v' : Value) (w2 : World) : Prop :=
  (Builtin.append_ #[52, 52] 52 #[v, .slice (some ⟨w.heap.size, 0, none⟩) (Lib.runeCells r).length (Lib.runeCells r).length]).run Tryd.prog (w.alloc (.cells (Lib.runeCells r).toArray 5)) = .ok v' w2
theorem RuneApp.at {w w2 : World} {v v' : Value} {r : Int} {l : List Int} (h : RuneApp w v r v' w2) (hl : Lib.encodeRuneZ r = l) :
    (Builtin.append_ #[52, 52] 52 #[v, .slice (some ⟨w.heap.size, 0, none⟩) l.length l.length]).run Tryd.prog (w.alloc (.cells (l.map fun x => Value.int .u8 x).toArray 5)) = .ok v' w2 := by
  subst hl
  have := h
  unfold RuneApp Lib.runeCells at this
  rw [List.length_map] at this
  exact this

set_option maxHeartbeats 1600000 in
set_option maxRecDepth 100000 in
theorem appendNonASCII_of (v v' : Value) (r : Int) (w w2 : World) (hr : ¬ badRune r) (hr8 : 128 ≤ r) (happ : RuneApp w v r v' w2) :
    Calls Tryd.prog 68 #[v, .int .i32 r] w fun e w' => e = .returned v' ∧ w' = w2 := by
  unfold badRune at hr
  rcases (show (128 ≤ r ∧ r ≤ 2047) ∨ (2048 ≤ r ∧ r < 55296) ∨ (57343 < r ∧ r ≤ 65535) ∨ (65536 ≤ r ∧ r ≤ 1114111) by omega) with ⟨h0, h1⟩ | ⟨h0, h1⟩ | ⟨h0, h1⟩ | ⟨h0, h1⟩
  · have ha := happ.at (Lib.encodeRuneZ_two h0 h1)
    simp only [List.map_cons, List.map_nil, List.length_cons, List.length_nil] at ha
    clear happ hr hr8
    go_enter Tryd.func68, Tryd.ntmps68
    go_wp2_with (at_builtin; refine wpList_plain rfl (fun K hK => wp_append_of_run _ _ _ _ rfl rfl rfl ha (hK _ _ ?_)))
    go_ret
    exact ⟨rfl, rfl⟩
  · have ha := happ.at (Lib.encodeRuneZ_three (.inl ⟨h0, h1⟩))
    simp only [List.map_cons, List.map_nil, List.length_cons, List.length_nil] at ha
    clear happ hr hr8
    go_enter Tryd.func68, Tryd.ntmps68
    go_wp2_with (at_builtin; refine wpList_plain rfl (fun K hK => wp_append_of_run _ _ _ _ rfl rfl rfl ha (hK _ _ ?_)))
    go_ret
    exact ⟨rfl, rfl⟩
  · have ha := happ.at (Lib.encodeRuneZ_three (.inr ⟨h0, h1⟩))
    simp only [List.map_cons, List.map_nil, List.length_cons, List.length_nil] at ha
    clear happ hr hr8
    go_enter Tryd.func68, Tryd.ntmps68
    go_wp2_with (at_builtin; refine wpList_plain rfl (fun K hK => wp_append_of_run _ _ _ _ rfl rfl rfl ha (hK _ _ ?_)))
    go_ret
    exact ⟨rfl, rfl⟩
  · have ha := happ.at (Lib.encodeRuneZ_four h0 h1)
    simp only [List.map_cons, List.map_nil, List.length_cons, List.length_nil] at ha
    clear happ hr hr8
    go_enter Tryd.func68, Tryd.ntmps68
    go_wp2_with (at_builtin; refine wpList_plain rfl (fun K hK => wp_append_of_run _ _ _ _ rfl rfl rfl ha (hK _ _ ?_)))
    go_ret
    exact ⟨rfl, rfl⟩

set_option maxHeartbeats 1600000 in
set_option maxRecDepth 100000 in
theorem appendRune_of (v v' : Value) (r : Int) (w w2 : World) (hr : ¬ badRune r) (happ : RuneApp w v r v' w2) :
    Calls Tryd.prog 58 #[v, .int .i32 r] w fun e w' => e = .returned v' ∧ w' = w2 := by
  by_cases h1 : r ≤ 127
  · have h0 : 0 ≤ r := by unfold badRune at hr; omega
    have ha := happ.at (Lib.encodeRuneZ_one h0 h1)
    simp only [List.map_cons, List.map_nil, List.length_cons, List.length_nil] at ha
    clear happ hr
    go_enter Tryd.func58, Tryd.ntmps58
    go_wp2_with (at_builtin; refine wpList_plain rfl (fun K hK => wp_append_of_run _ _ _ _ rfl rfl rfl ha (hK _ _ ?_)))
    go_ret
    exact ⟨rfl, rfl⟩
  · have h2 : r ≤ 1114111 := by unfold badRune at hr; omega
    have hc := appendNonASCII_of v v' r w w2 hr (by omega) happ
    clear happ hr
    go_enter Tryd.func58, Tryd.ntmps58
    go_wp2_with fail
    refine hc.mono ?_
    rintro e w' ⟨rfl, rfl⟩
    go_wp2_with fail
    go_ret
    exact ⟨rfl, rfl⟩
end Go.Proofs.YtimigjjokdnfbaaDoor
