/- What the walk of FnReadsInOrder asks of plain Lean. -/
import Derived.Test.YtbodbajgpgaoeaaGreatDoorQ22
import Derived.Test.YtbodbajgpgaoeaaGreatDoorQ20
namespace Go.Proofs.YtbodbajgpgaoeaaGreatDoor
open Go Go.RowKit

theorem streams_first : KeepFirst (fun c => decide c.streams) := by
  intro c ha hk
  have h := of_decide_eq_true hk
  refine ⟨ha, ?_⟩
  unfold Cl.streams Cl.writes Cl.isRead Cl.isBack at h
  omega
theorem streams_all (s : St) (cs : List Cl) : ∀ c ∈ calmF (Yd.begin [s] 0) (keepF (fun c => decide c.streams) cs), c.a = 0 ∧ c.streams := by
  intro c hc
  obtain ⟨d, _, rfl, hk⟩ := keep_mem (calm_mem _ _ c hc)
  exact ⟨rfl, of_decide_eq_true hk⟩
theorem ord_begin {s : St} : OrdI (b0 s) s.text 0 0 :=
  ⟨Nat.zero_le _, rfl, fun q => by simp only [b0] at q; split at q <;> omega, fun q => by simp only [b0] at q; split at q <;> omega, by omega⟩
theorem char8 : ∀ (l : List Cl) (b : SB), (∀ c ∈ l, c.one) → Mild (yd1 b) l → ∀ (i : Nat) (c : Cl) (t : Td), l[i]? = some c → (runF (yd1 b) l).1[i]? = some t → c.op = 8 → 0 ≤ t.char ∧ t.char ≤ 255
  | [], _, _, _, i, c, t, h, _, _ => by simp at h
  | d :: l, b, ho, hm, i, c, t, h, ht, h8 => by
    obtain ⟨m1, m2, m3⟩ := hm
    simp only [runF] at ht
    rw [if_neg m2] at ht
    cases i with
    | succ i =>
      obtain ⟨b', e⟩ := yd1_one b d (ho d (by simp))
      rw [e] at m3 ht
      exact char8 l b' (fun x hx => ho x (by simp [hx])) m3 i c t (by simpa using h) (by simpa using ht) h8
    | zero =>
      simp only [List.getElem?_cons_zero, Option.some.injEq] at h ht
      subst h ht
      rw [yd1_do b d (ho d (by simp)).1 (by omega) (by omega), do_read b d ⟨by omega, by omega⟩]
      unfold SB.reads
      simp only [h8]
      rw [if_neg (by omega), if_neg (by omega), if_pos trivial]
      split
      · simp [Td.said']
      · rename_i x _ _
        have := x.toNat_lt
        simp only
        omega
theorem textF_len (c : Cl) : (textF c).length ≤ c.text.length + 4 := by
  unfold textF
  split
  · simp
  · split
    · have := enc_le c.char
      omega
    · omega
theorem wrF_le (c : Cl) : (wrF c).length ≤ c.text.length + 4 := by
  unfold wrF
  split
  · exact textF_len c
  · simp
theorem allF_len : ∀ L : List Cl, (allF L).length ≤ wsum L
  | [] => by simp [allF]
  | c :: l => by
    have h := allF_len l
    have h1 := wrF_le c
    rw [wsum_cons]
    simp only [allF, List.flatMap_cons, List.length_append] at h ⊢
    omega
theorem allF_app (l m : List Cl) : allF (l ++ m) = allF l ++ allF m := by simp [allF]
theorem allF_take (L : List Cl) (k : Nat) : (allF (L.take k)).length ≤ (allF L).length := by
  have h : allF L = allF (L.take k) ++ allF (L.drop k) := by rw [← allF_app, List.take_append_drop]
  rw [h, List.length_append]
  omega
theorem allF_succ {L : List Cl} {k : Nat} {d : Cl} (h : L[k]? = some d) : allF (L.take (k + 1)) = allF (L.take k) ++ wrF d := by
  obtain ⟨hl, e⟩ := List.getElem?_eq_some_iff.1 h
  rw [List.take_succ_eq_append_getElem hl, e, allF_app]
  simp [allF]
theorem wrF_len {L : List Cl} {k : Nat} {d : Cl} (h : L[k]? = some d) : (wrF d).length ≤ wsum L := by
  have h1 := allF_len L
  have h2 := allF_take L (k + 1)
  rw [allF_succ h, List.length_append] at h2
  omega
/-- The step of the second loop. -/
theorem ord_next {all fin : List UInt8} {L : List Cl} {ts : List Td} {k at' size : Nat} {d : Cl} (hd : L[k]? = some d) (h : OrdGo all fin (L.drop k) (ts.drop k) at' size) :
    ∃ t, ts[k]? = some t ∧ OrdOk all at' size d t ∧ at' ≤ all.length ∧ size ≤ 4 ∧ OrdGo all fin (L.drop (k + 1)) (ts.drop (k + 1)) (nextF all at' size d t) (sizeF size d t) := by
  obtain ⟨hl, e⟩ := List.getElem?_eq_some_iff.1 hd
  rw [List.drop_eq_getElem_cons hl, e] at h
  obtain ⟨t, ts', hts, h1, h2, h3, h4⟩ := h
  have ht : ts[k]? = some t := by
    have := congrArg (fun l : List Td => l[0]?) hts
    simpa [List.getElem?_drop] using this
  have ht' : ts' = ts.drop (k + 1) := by
    have := congrArg List.tail hts
    simpa [List.tail_drop] using this.symm
  rw [ht'] at h4
  exact ⟨t, ht, h1, h2, h3, h4⟩
theorem told_slice {all D : List UInt8} {at' e' : Nat} (hle : at' + D.length ≤ all.length) (heq : (all.drop at').take D.length = D) (he : e' = at' + D.length) (w : World) : (Instr.slice 9 (.string ⟨all.toArray⟩) (some (.int .i64 (at' : Int))) (some (.int .i64 (e' : Int))) none).run Tryz.prog w = .ok (.string ⟨D.toArray⟩) w := by
  have h := slice_str all at' e' (by omega) (by omega) w
  have hD : (all.take e').drop at' = D := by
    rw [List.drop_take, show e' - at' = D.length by omega]
    exact heq
  rw [hD] at h
  exact h
end Go.Proofs.YtbodbajgpgaoeaaGreatDoor
