/- What the last part of the walk of FnWritesEarlier asks. -/
import Derived.Test.YtbodbajgpgaoeaaGreatDoorQErlR
namespace Go.Proofs.YtbodbajgpgaoeaaGreatDoor
open Go Go.RowKit

theorem pickR_snoc : ∀ (s : List Cl) (ts : List Td) (d : Cl) (t : Td), s.length = ts.length → pickR (s ++ [d]) (ts ++ [t]) = pickR s ts ++ if d.isRead then [t] else []
  | [], [], d, t, _ => by
    by_cases h : d.isRead <;> simp [pickR, h]
  | [], _ :: _, _, _, h => by simp at h
  | _ :: _, [], _, _, h => by simp at h
  | c :: s, u :: ts, d, t, h => by
    have ih := pickR_snoc s ts d t (by simpa using h)
    by_cases hc : c.isRead
    · simp only [List.cons_append, pickR, if_pos hc, ih]
    · simp only [List.cons_append, pickR, if_neg hc, ih]
theorem pickR_succ {s : List Cl} {ts : List Td} {k : Nat} {d : Cl} {t : Td} (hl : s.length = ts.length) (hd : s[k]? = some d) (ht : ts[k]? = some t) : pickR (s.take (k + 1)) (ts.take (k + 1)) = pickR (s.take k) (ts.take k) ++ if d.isRead then [t] else [] := by
  obtain ⟨h1, e1⟩ := List.getElem?_eq_some_iff.1 hd
  obtain ⟨h2, e2⟩ := List.getElem?_eq_some_iff.1 ht
  rw [List.take_succ_eq_append_getElem h1, List.take_succ_eq_append_getElem h2, e1, e2]
  exact pickR_snoc _ _ _ _ (by simp; omega)
theorem pickR_len : ∀ (s : List Cl) (ts : List Td), (pickR s ts).length ≤ s.length
  | [], _ => by simp [pickR]
  | _ :: _, [] => by simp [pickR]
  | c :: s, u :: ts => by
    have ih := pickR_len s ts
    by_cases hc : c.isRead
    · simp only [pickR, if_pos hc, List.length_cons]
      omega
    · simp only [pickR, if_neg hc, List.length_cons]
      omega
theorem slice_told_from (A : Option Addr) (n c m : Nat) (hm : m ≤ n) (hn : n ≤ c) : ∃ A', (∀ w, (Instr.slice 29 (.slice A n c) (some (.int .i64 (m : Int))) none none).run Tryz.prog w = .ok (.slice A' (n - m) (c - m)) w) ∧
    ∀ {w' : World} {xs ys : List Td}, xs.length = m → ys.length = n - m → Reads Td.cells 4 w' A (xs ++ ys) → Reads Td.cells 4 w' A' ys := by
  obtain ⟨i0, hi, hz0, hz1, hz2⟩ := info_parts info_toldU
  have h2 : (m : Int) ≤ (n : Int) := by omega
  have h1 : (0 : Int) ≤ (m : Int) := by omega
  cases A with
  | none =>
    refine ⟨none, fun w => ?_, fun {w' xs ys} hx hy h => ?_⟩
    · simp [Instr.slice, run_underlying Tryz.underlying29, Instr.sliceBounds, run_sliceBound, sizeOf, typeInfo, hi, h2]
    · cases ys with
      | nil => exact Reads.nil _ _ _ _
      | cons y ys =>
        obtain ⟨r, o, e, _⟩ := h.at' xs.length y (by rw [List.getElem?_append_right (Nat.le_refl _), Nat.sub_self]; rfl)
        cases e
  | some a =>
    by_cases hc : c = m
    · subst hc
      refine ⟨some a, fun w => ?_, fun {w' xs ys} _ hy _ => ?_⟩
      · simp [Instr.slice, run_underlying Tryz.underlying29, Instr.sliceBounds, run_sliceBound, sizeOf, typeInfo, hi, hz1, h2]
      · obtain rfl : ys = [] := List.length_eq_zero_iff.1 (by omega)
        exact Reads.nil _ _ _ _
    · refine ⟨some (a.add (m * 4)), fun w => ?_, fun {w' xs ys} hx hy h => ?_⟩
      · simp [Instr.slice, run_underlying Tryz.underlying29, Instr.sliceBounds, run_sliceBound, sizeOf, typeInfo, hi, hz1, h2]
        exact fun q => absurd q hc
      · cases ys with
        | nil => exact Reads.nil _ _ _ _
        | cons y ys =>
          obtain ⟨r, o, e, _⟩ := h.at' xs.length y (by rw [List.getElem?_append_right (Nat.le_refl _), Nat.sub_self]; rfl)
          injection e with e
          subst e
          rw [addr_add, ← hx]
          exact h.right
theorem parts_wsum : ∀ s : List Cl, wsum (wrL s) + wsum (rdL s) = wsum s
  | [] => rfl
  | d :: s => by
    have h := parts_wsum s
    unfold wrL rdL at h ⊢
    by_cases hd : d.isRead
    · simp [hd, wsum_cons] at h ⊢
      omega
    · simp [hd, wsum_cons] at h ⊢
      omega
theorem parts_mem {s : List Cl} {x : Cl} (h : x ∈ wrL s ++ rdL s) : x ∈ s := by
  rcases List.mem_append.1 h with h | h
  · exact (List.mem_filter.1 h).1
  · exact (List.mem_filter.1 h).1
theorem td_one (t : Td) : ∀ u ∈ t.cells, u.oneCell' = true := by simp [Td.cells, Value.oneCell']
theorem slOk_of {w : World} {base : Nat} {A : Option Addr} {q : Nat} {l : List Cl} (h : OwnC w base (.slice A l.length q) l) : SlOk w ⟨A, l, q⟩ := by
  refine ⟨Own.readsAt Cl.cells_len (by decide) (by have k := h; exact k), fun e => ?_⟩
  have hz := Own.zero h e
  refine ⟨?_, hz.2⟩
  cases l with
  | nil => rfl
  | cons x l =>
    have h1 := hz.1
    simp [cls, Cl.cells] at h1
end Go.Proofs.YtbodbajgpgaoeaaGreatDoor
