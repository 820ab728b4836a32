/- What the walk of FnWritesEarlier asks: laws.full, and what its script is. -/
import Derived.Test.YtbodbajgpgaoeaaGreatDoorQUrP
import Derived.Test.YtbodbajgpgaoeaaGreatDoorQ20
namespace Go.Proofs.YtbodbajgpgaoeaaGreatDoor
open Go Go.RowKit

theorem earlier_first : KeepFirst (fun c => decide (c.op < 28 ∧ c.writes ∨ c.isRead)) := by
  intro c ha hk
  have h := of_decide_eq_true hk
  refine ⟨ha, ?_⟩
  unfold Cl.writes Cl.isRead at h
  omega
theorem earlier_wr (s : St) (cs : List Cl) : ∀ c ∈ calmF (Yd.begin [s] 0) (keepF (fun c => decide (c.op < 28 ∧ c.writes ∨ c.isRead)) cs), c.wr := by
  intro c hc
  have hv := calm_valid (keepF (fun c => decide (c.op < 28 ∧ c.writes ∨ c.isRead)) cs) (b0 s) (fun d hd => by
    obtain ⟨x, _, rfl, hk⟩ := keep_mem hd
    exact (earlier_first _ rfl hk).one) c hc
  obtain ⟨d, _, rfl, hk⟩ := keep_mem (calm_mem _ _ c hc)
  have h := of_decide_eq_true hk
  refine ⟨rfl, h, fun q => ?_⟩
  rcases q with q | q
  · exact hv q
  · unfold Cl.writes Cl.isRead at h
    omega
theorem int_beq (a b : Int) : (a == b) = decide (a = b) := by
  by_cases h : a = b <;> simp [h]
theorem len_beq (a b : Nat) : ((a : Int) == (b : Int)) = decide (a = b) := by
  rw [int_beq]
  by_cases h : a = b
  · simp [h]
  · rw [decide_eq_false (by omega), decide_eq_false h]
def FullPost (w : World) (c : Cl) (t : Td) (e : Ending) (w' : World) : Prop := e = .returned (.bool (decide (fullF c t))) ∧ Fr (fun _ => False) w w'
set_option maxHeartbeats 3200000 in
set_option maxRecDepth 100000 in
theorem full_any (c : Cl) (t : Td) (w : World) (hsz : c.size ≤ 65535) : Calls Tryz.prog 31 #[c.val, t.val] w (FullPost w c t) := by
  obtain ⟨op, a, bb, size, n, sign, char, text, cuts, ad, cap⟩ := c
  obtain ⟨tn, tt, tc, ts⟩ := t
  simp only [Cl.val, Cl.cells, Td.val, Td.cells] at hsz ⊢
  have hF : Fr (fun _ => False) w ((w.alloc (.cells #[.int .i64 op, .int .i64 a, .int .i64 bb, .int .u16 (size : Int), .int .i64 n, .int .u8 (sign.toNat : Int), .int .i32 char, .string ⟨text.toArray⟩, .slice ad cuts.length cap] 36)).alloc (.cells #[.int .i64 tn, .string ⟨tt.toArray⟩, .int .i32 tc, .int .i64 ts] 39)) := ((Fr.refl _ w).alloc _).alloc _
  have HF := Lib.hid hF
  clear hF
  have hws : wrap64 (size : Int) = (size : Int) := IntWalk.wrap64_in _ (by omega)
  unfold FullPost
  by_cases h6 : op = 6
  · subst h6
    go_enter Tryz.func31, Tryz.ntmps31
    go_wp2_with fail
    go_ret
    exact ⟨by rw [len_beq]; simp [fullF], HF.out⟩
  by_cases h7 : op = 7
  · subst h7
    go_enter Tryz.func31, Tryz.ntmps31
    go_wp2_with fail
    go_ret
    exact ⟨by rw [len_beq]; simp [fullF], HF.out⟩
  by_cases h11 : op = 11
  · subst h11
    by_cases hs : ts = 0
    · subst hs
      by_cases hc : tc = 65533
      · subst hc
        by_cases hn : tn = 1
        · subst hn
          go_enter Tryz.func31, Tryz.ntmps31
          go_wp2_with fail
          go_ret
          exact ⟨by simp [fullF], HF.out⟩
        · go_enter Tryz.func31, Tryz.ntmps31
          go_wp2_with fail
          go_ret
          exact ⟨by simp [fullF, hn], HF.out⟩
      · go_enter Tryz.func31, Tryz.ntmps31
        go_wp2_with fail
        go_ret
        exact ⟨by simp [fullF, hc], HF.out⟩
    · go_enter Tryz.func31, Tryz.ntmps31
      go_wp2_with fail
      go_ret
      exact ⟨by simp [fullF, hs], HF.out⟩
  go_enter Tryz.func31, Tryz.ntmps31
  go_wp2_with fail
  go_ret
  exact ⟨by rw [int_beq]; simp [fullF, h6, h7, h11], HF.out⟩
end Go.Proofs.YtbodbajgpgaoeaaGreatDoor
