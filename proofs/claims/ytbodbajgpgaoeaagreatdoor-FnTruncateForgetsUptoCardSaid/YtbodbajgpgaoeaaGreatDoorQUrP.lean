/- What FnUnreadReads plays: a script of one buffer, a read behind it, and the two calls that take its last byte back and read it again. -/
import Derived.Test.YtbodbajgpgaoeaaGreatDoorQ20
namespace Go.Proofs.YtbodbajgpgaoeaaGreatDoor
open Go Go.RowKit

theorem run_len : ∀ (l : List Cl) (b : SB), b.good → (∀ c ∈ l, c.first) → Mild (yd1 b) l → ∃ b', (runF (yd1 b) l).2 = yd1 b' ∧ b'.text.length ≤ b.text.length + wsum l
  | [], b, _, _, _ => ⟨b, rfl, by omega⟩
  | c :: l, b, hg, hf, hm => by
    obtain ⟨m1, m2, m3⟩ := hm
    obtain ⟨b1, e1, g1, l1⟩ := yd1_step b c (hf c (by simp)) hg
    rw [e1] at m3
    obtain ⟨b2, e2, l2⟩ := run_len l b1 g1 (fun d hd => hf d (by simp [hd])) m3
    refine ⟨b2, ?_, ?_⟩
    · simp only [runF]
      rw [if_neg m2, e1]
      exact e2
    · rw [wsum_cons]
      omega
end Go.Proofs.YtbodbajgpgaoeaaGreatDoor
