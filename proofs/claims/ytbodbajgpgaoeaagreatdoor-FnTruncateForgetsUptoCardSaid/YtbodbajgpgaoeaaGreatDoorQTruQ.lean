/- What the walk of FnTruncateForgets asks of plain Lean. -/
import Derived.Test.YtbodbajgpgaoeaaGreatDoorQDelC
import Derived.Test.YtbodbajgpgaoeaaGreatDoorQUrP
import Derived.Test.YtbodbajgpgaoeaaGreatDoorQErlS
namespace Go.Proofs.YtbodbajgpgaoeaaGreatDoor
open Go Go.RowKit

theorem trC_first (k : Nat) : (trC k).first := ⟨rfl, .inl (by show (15 : Int) < 23; decide)⟩
theorem trC_ok (w : World) (k : Nat) : ClOk w (trC k) := ⟨by simp [trC], ⟨(by intro x h; cases h), (by intro h; cases h)⟩, by simp [trC], by simp [trC]⟩
theorem trunc_play {w : World} {s : St} {l1 l3 : List Cl} {k : Nat} {b : SB} (h : Play1 w s l1) (hb : (runF (yd1 (b0 s)) l1).2 = yd1 b) (hk : k ≤ b.text.length) (h3 : Play1 w ⟨b.text.take k, 0, 0⟩ l3) (hnb : ∀ c ∈ l3, ¬ c.isBack)
    (hsz : s.text.length + wsum l1 + wsum l3 + 67000 ≤ 1099511627776) (hfew : l1.length + l3.length + 1 ≤ 4294967296) :
    Play1 w s (l1 ++ [trC k] ++ l3) ∧ (runF (yd1 (b0 s)) (l1 ++ [trC k] ++ l3)).1 = ((runF (yd1 (b0 s)) l1).1 ++ [Td.zero]) ++ (runF (yd1 (b0 ⟨b.text.take k, 0, 0⟩)) l3).1 ∧ (runF (yd1 (b0 s)) (l1 ++ [trC k] ++ l3)).2.texts = (runF (yd1 (b0 ⟨b.text.take k, 0, 0⟩)) l3).2.texts := by
  have hd := trunc_do b k hk
  have m1 : Mild (yd1 b) [trC k] := ⟨by rw [hd], by rw [hd]; show (0 : Int) ≠ 3; decide, trivial⟩
  have r1 : runF (yd1 b) [trC k] = ([Td.zero], yd1 (b.other (b.text.take k))) := by
    simp only [runF, hd]
    rw [if_neg (by show ¬ (0 : Int) = 3; decide)]
  have p1 : Play1 w s (l1 ++ [trC k]) := h.append (by rw [hb]; exact m1) (by
      intro x hx
      rw [List.mem_singleton] at hx
      subst hx
      exact trC_first k) (by
      intro x hx
      rw [List.mem_singleton] at hx
      subst hx
      exact trC_ok w k) (by simp only [wsum, trC, List.map_cons, List.map_nil, List.sum_cons, List.sum_nil, List.length_nil] at *; omega) (by simp only [List.length_cons, List.length_nil]; omega)
  have e1 : runF (yd1 (b0 s)) (l1 ++ [trC k]) = ((runF (yd1 (b0 s)) l1).1 ++ [Td.zero], yd1 (b.other (b.text.take k))) := by rw [runF_append _ _ _ h.mild, hb, r1]
  obtain ⟨m3, t3, x3⟩ := same_run l3 (b0 ⟨b.text.take k, 0, 0⟩) (b.other (b.text.take k)) rfl (fun c hc => ⟨(h3.first c hc).one, hnb c hc⟩) h3.mild
  have p2 : Play1 w s (l1 ++ [trC k] ++ l3) := p1.append (by rw [e1]; exact m3) h3.first h3.ok (by rw [wsum_append]; simp only [wsum, trC, List.map_cons, List.map_nil, List.sum_cons, List.sum_nil, List.length_nil] at *; omega) (by simp only [List.length_append, List.length_cons, List.length_nil]; omega)
  refine ⟨p2, ?_, ?_⟩
  · rw [runF_append _ _ _ p1.mild, e1]
    simp only
    rw [t3]
  · rw [runF_append _ _ _ p1.mild, e1]
    exact x3
theorem keepB_mem {l : List Cl} {c : Cl} (h : c ∈ keepB l) : c ∈ l ∧ ¬ c.isBack := by
  obtain ⟨h1, h2⟩ := List.mem_filter.1 h
  exact ⟨h1, by simpa using h2⟩
theorem wsum_keepB : ∀ l : List Cl, wsum (keepB l) ≤ wsum l
  | [] => Nat.le_refl _
  | c :: l => by
    have h := wsum_keepB l
    unfold keepB at h ⊢
    by_cases hb : c.isBack
    · simp [hb, wsum_cons] at h ⊢
      omega
    · simp [hb, wsum_cons] at h ⊢
      omega
/-- The calls behind the cut. -/
theorem plain_play {w : World} {s : St} {l : List Cl} (h : Play1 w s l) : InvB (Yd.begin [s] 0) (keepB l) ∧ Play1 w s (calmF (Yd.begin [s] 0) (keepB l)) ∧ (∀ c ∈ calmF (Yd.begin [s] 0) (keepB l), ¬ c.isBack) ∧ wsum (calmF (Yd.begin [s] 0) (keepB l)) ≤ wsum l ∧ (calmF (Yd.begin [s] 0) (keepB l)).length ≤ l.length := by
  have h1 := calm_mild (keepB l) (Yd.begin [s] 0)
  have h2 := wsum_calm (keepB l) (Yd.begin [s] 0)
  have h3 := wsum_keepB l
  have h4 := calm_len (keepB l) (Yd.begin [s] 0)
  have h5 : (keepB l).length ≤ l.length := by unfold keepB; exact List.length_filter_le _ _
  have h6 := h.sz
  have h7 := h.few
  refine ⟨⟨b0 s, rfl, b0_good s, fun c hc => ⟨h.first c (keepB_mem hc).1, (h.ok c (keepB_mem hc).1).size⟩, by show s.text.length + _ + 16 ≤ _; omega⟩, ⟨h1, fun c hc => h.first c (keepB_mem (calm_mem _ _ c hc)).1, fun c hc => h.ok c (keepB_mem (calm_mem _ _ c hc)).1, by omega, by omega⟩, fun c hc => (keepB_mem (calm_mem _ _ c hc)).2, by omega, by omega⟩
end Go.Proofs.YtbodbajgpgaoeaaGreatDoor
