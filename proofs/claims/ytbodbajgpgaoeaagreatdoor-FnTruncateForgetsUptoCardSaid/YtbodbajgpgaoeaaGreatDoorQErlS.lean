/- What the last part of the walk of FnWritesEarlier asks. -/
import Derived.Test.YtbodbajgpgaoeaaGreatDoorQErlR
namespace Go.Proofs.YtbodbajgpgaoeaaGreatDoor
open Go Go.RowKit

theorem slice_told_from (A : Option Addr) (n c m : Nat) (hm : m ≤ n) (hn : n ≤ c) : ∃ A', (∀ w, (Instr.slice 29 (.slice A n c) (some (.int .i64 (m : Int))) none none).run Tryz.prog w = .ok (.slice A' (n - m) (c - m)) w) ∧
    ∀ {w' : World} {xs ys : List Td}, xs.length = m → ys.length = n - m → Reads Td.cells 4 w' A (xs ++ ys) → Reads Td.cells 4 w' A' ys := by
  obtain ⟨i0, hi, hz0, hz1, hz2⟩ := info_parts info_toldU
  have h2 : (m : Int) ≤ (n : Int) := by omega
  have h1 : (0 : Int) ≤ (m : Int) := by omega
  cases A with
  | none =>
    refine ⟨none, fun w => ?_, fun {w' xs ys} hx hy h => ?_⟩
    · simp [Instr.slice, run_underlying Tryz.underlying29, Instr.sliceBounds, run_sliceBound, sizeOf, typeInfo, hi, h2]
    · cases ys with
      | nil => exact Reads.nil _ _ _ _
      | cons y ys =>
        obtain ⟨r, o, e, _⟩ := h.at' xs.length y (by rw [List.getElem?_append_right (Nat.le_refl _), Nat.sub_self]; rfl)
        cases e
  | some a =>
    by_cases hc : c = m
    · subst hc
      refine ⟨some a, fun w => ?_, fun {w' xs ys} _ hy _ => ?_⟩
      · simp [Instr.slice, run_underlying Tryz.underlying29, Instr.sliceBounds, run_sliceBound, sizeOf, typeInfo, hi, hz1, h2]
      · obtain rfl : ys = [] := List.length_eq_zero_iff.1 (by omega)
        exact Reads.nil _ _ _ _
    · refine ⟨some (a.add (m * 4)), fun w => ?_, fun {w' xs ys} hx hy h => ?_⟩
      · simp [Instr.slice, run_underlying Tryz.underlying29, Instr.sliceBounds, run_sliceBound, sizeOf, typeInfo, hi, hz1, h2]
        exact fun q => absurd q hc
      · cases ys with
        | nil => exact Reads.nil _ _ _ _
        | cons y ys =>
          obtain ⟨r, o, e, _⟩ := h.at' xs.length y (by rw [List.getElem?_append_right (Nat.le_refl _), Nat.sub_self]; rfl)
          injection e with e
          subst e
          rw [addr_add, ← hx]
          exact h.right
theorem slOk_of {w : World} {base : Nat} {A : Option Addr} {q : Nat} {l : List Cl} (h : OwnC w base (.slice A l.length q) l) : SlOk w ⟨A, l, q⟩ := by
  refine ⟨Own.readsAt Cl.cells_len (by decide) (by have k := h; exact k), fun e => ?_⟩
  have hz := Own.zero h e
  refine ⟨?_, hz.2⟩
  cases l with
  | nil => rfl
  | cons x l =>
    have h1 := hz.1
    simp [cls, Cl.cells] at h1
end Go.Proofs.YtbodbajgpgaoeaaGreatDoor
