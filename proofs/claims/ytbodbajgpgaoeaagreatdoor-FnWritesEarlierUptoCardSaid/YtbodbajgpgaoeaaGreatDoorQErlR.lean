/- How far the first loop of FnWritesEarlier has come. -/
import Derived.Test.YtbodbajgpgaoeaaGreatDoorQErlQ
import Derived.Test.YtbodbajgpgaoeaaGreatDoorQCatC
namespace Go.Proofs.YtbodbajgpgaoeaaGreatDoor
open Go Go.RowKit

theorem row9 {w : World} {h : Nat} {v0 v1 v2 v3 v4 v5 v6 v7 v8 : Value} {T : TypeId} {fz : Nat × Nat} (hb : w.heap[h]? = some (.cells #[v0, v1, v2, v3, v4, v5, v6, v7, v8] T fz)) : w.cell? ⟨h, 0, none⟩ = some v0 ∧ w.cell? ⟨h, 1, none⟩ = some v1 ∧ w.cell? ⟨h, 2, none⟩ = some v2 ∧ w.cell? ⟨h, 3, none⟩ = some v3 ∧ w.cell? ⟨h, 4, none⟩ = some v4 ∧ w.cell? ⟨h, 5, none⟩ = some v5 ∧ w.cell? ⟨h, 6, none⟩ = some v6 ∧ w.cell? ⟨h, 7, none⟩ = some v7 ∧ w.cell? ⟨h, 8, none⟩ = some v8 := by
  refine ⟨?_, ?_, ?_, ?_, ?_, ?_, ?_, ?_, ?_⟩
  all_goals (rw [cell_of_row _ _ _ _ _ _ hb]; rfl)
theorem rowT {w : World} {h : Nat} {v0 v1 v2 v3 : Value} {T : TypeId} {fz : Nat × Nat} (hb : w.heap[h]? = some (.cells #[v0, v1, v2, v3] T fz)) : w.cell? ⟨h, 0, none⟩ = some v0 ∧ w.cell? ⟨h, 1, none⟩ = some v1 ∧ w.cell? ⟨h, 2, none⟩ = some v2 ∧ w.cell? ⟨h, 3, none⟩ = some v3 := by
  refine ⟨?_, ?_, ?_, ?_⟩
  all_goals (rw [cell_of_row _ _ _ _ _ _ hb]; rfl)
theorem scr_mem : ∀ (l : List Cl) (y : Yd), ∀ c ∈ scrF y l, c ∈ l
  | [], _, c, h => h
  | d :: l, y, c, h => by
    simp only [scrF] at h
    split at h
    · exact List.mem_cons_of_mem _ (scr_mem l _ c h)
    · rcases List.mem_cons.1 h with h | h
      · exact h ▸ List.mem_cons_self
      · exact List.mem_cons_of_mem _ (scr_mem l _ c h)
theorem scr_wsum : ∀ (l : List Cl) (y : Yd), wsum (scrF y l) ≤ wsum l
  | [], _ => Nat.le_refl _
  | d :: l, y => by
    simp only [scrF]
    split
    · have := scr_wsum l y
      rw [wsum_cons]
      omega
    · have := scr_wsum l (y.do d).1
      rw [wsum_cons, wsum_cons]
      omega
theorem scr_len : ∀ (l : List Cl) (y : Yd), (scrF y l).length ≤ l.length
  | [], _ => Nat.le_refl _
  | d :: l, y => by
    simp only [scrF]
    split
    · have := scr_len l y
      rw [List.length_cons]
      omega
    · have := scr_len l (y.do d).1
      rw [List.length_cons, List.length_cons]
      omega
theorem wr_do {c : Cl} (h : c.wr) (b : SB) : ∃ b' t, (yd1 b).do c = (yd1 b', t, true) := by
  by_cases hr : c.isRead
  · exact ⟨_, _, (wr_read h hr b).1⟩
  · obtain ⟨b', t, e, _⟩ := wr_write h hr b
    exact ⟨b', t, e⟩
theorem wr_first {c : Cl} (h : c.wr) : c.first := by
  refine ⟨h.1, ?_⟩
  have := h.2.1
  unfold Cl.writes Cl.isRead at this
  omega
def wrL (s : List Cl) : List Cl := s.filter fun c => ¬ c.isRead
def rdL (s : List Cl) : List Cl := s.filter fun c => c.isRead
theorem wrL_app (s : List Cl) (d : Cl) : wrL (s ++ [d]) = if d.isRead then wrL s else wrL s ++ [d] := by
  unfold wrL
  rw [List.filter_append]
  by_cases h : d.isRead <;> simp [h]
theorem rdL_app (s : List Cl) (d : Cl) : rdL (s ++ [d]) = if d.isRead then rdL s ++ [d] else rdL s := by
  unfold rdL
  rw [List.filter_append]
  by_cases h : d.isRead <;> simp [h]
theorem parts_len : ∀ s : List Cl, (wrL s).length + (rdL s).length = s.length
  | [] => rfl
  | d :: s => by
    have h := parts_len s
    unfold wrL rdL at h ⊢
    by_cases hd : d.isRead
    · simp [hd] at h ⊢
      omega
    · simp [hd] at h ⊢
      omega
/-- The state of the loop at a world. -/
structure EI (w wl wr : World) (base H : Nat) (full rest : List Cl) (v7 v8 v9 : Value) (b : SB) (A1 : Option Addr) (c1 : Nat) (A2 : Option Addr) (c2 : Nat) (s : List Cl) : Prop where
  eq : full = s ++ scrF (yd1 b) rest
  good : b.good
  len : b.text.length + wsum rest + 16 ≤ 1099511627776
  yb : wr.heap[H]? = some (.cells #[.slice A1 1 c1, .slice A2 0 c2] 59 (0, 0))
  yv : YV wr A1 1 c1 A2 0 c2 (yd1 b)
  o7 : OwnC wr base v7 s
  o8 : OwnC wr base v8 (wrL s)
  o9 : OwnC wr base v9 (rdL s)
  d78 : ∀ x, v7.ownBlock = some x → v8.ownBlock ≠ some x
  d79 : ∀ x, v7.ownBlock = some x → v9.ownBlock ≠ some x
  d89 : ∀ x, v8.ownBlock = some x → v9.ownBlock ≠ some x
  a1 : ∀ r o s, A1 = some ⟨r, o, s⟩ → r ≠ H ∧ v7.ownBlock ≠ some r ∧ v8.ownBlock ≠ some r ∧ v9.ownBlock ≠ some r
  hH : H < base
  hw : w.heap.size ≤ H
  fr : Fr (fun _ => False) w wr
  hb : base = wl.heap.size
  frb : Fr (fun x => x = H) wl wr
section
variable {w wl wr : World} {base H : Nat} {full rest : List Cl} {v7 v8 v9 : Value} {b : SB} {A1 : Option Addr} {c1 : Nat} {A2 : Option Addr} {c2 : Nat} {s : List Cl} {d : Cl} {b' : SB} {t : Td}
/-- A call that is left out. -/
theorem EI.skip {w' : World} (h : EI w wl wr base H full (d :: rest) v7 v8 v9 b A1 c1 A2 c2 s) (hdo : (yd1 b).do d = (yd1 b', t, true)) (hr : d.isRead) (hf : ¬ fullF d t) (F : Fr (fun _ => False) wr w') : EI w wl w' base H full rest v7 v8 v9 b A1 c1 A2 c2 s := by
  refine ⟨?_, h.good, ?_, F.blk h.yb (fun q => q), h.yv.fr F, h.o7.fr F (fun _ _ q => q), h.o8.fr F (fun _ _ q => q), h.o9.fr F (fun _ _ q => q), h.d78, h.d79, h.d89, h.a1, h.hH, h.hw, h.fr.trans F, h.hb, h.frb.trans (F.mono (fun _ _ q => q.elim))⟩
  · rw [h.eq]
    simp only [scrF, hdo]
    rw [if_pos ⟨hr, hf⟩]
  · have := h.len
    rw [wsum_cons] at this
    omega
/-- The state between the call and the appends: the yard is stored. -/
structure EJ (w wl wr w6 : World) (base H : Nat) (full rest : List Cl) (v7 v8 v9 : Value) (d : Cl) (b' : SB) (B1 : Option Addr) (k1 : Nat) (B2 : Option Addr) (k2 : Nat) (s : List Cl) : Prop where
  eq : full = (s ++ [d]) ++ scrF (yd1 b') rest
  good : b'.good
  len : b'.text.length + wsum rest + 16 ≤ 1099511627776
  yb : w6.heap[H]? = some (.cells #[.slice B1 1 k1, .slice B2 0 k2] 59 (0, 0))
  yv : YV w6 B1 1 k1 B2 0 k2 (yd1 b')
  o7 : OwnC w6 base v7 s
  o8 : OwnC w6 base v8 (wrL s)
  o9 : OwnC w6 base v9 (rdL s)
  d78 : ∀ x, v7.ownBlock = some x → v8.ownBlock ≠ some x
  d79 : ∀ x, v7.ownBlock = some x → v9.ownBlock ≠ some x
  d89 : ∀ x, v8.ownBlock = some x → v9.ownBlock ≠ some x
  a1 : ∀ r o s, B1 = some ⟨r, o, s⟩ → (r ≠ H ∧ v7.ownBlock ≠ some r ∧ v8.ownBlock ≠ some r ∧ v9.ownBlock ≠ some r) ∧ r < w6.heap.size
  hH : H < base
  hw : w.heap.size ≤ H
  fr : Fr (fun _ => False) w w6
  hb : base = wl.heap.size
  frb : Fr (fun x => x = H) wl w6
theorem EJ.of {w5 : World} {B1 : Option Addr} {k1 : Nat} {B2 : Option Addr} {k2 : Nat} (h : EI w wl wr base H full (d :: rest) v7 v8 v9 b A1 c1 A2 c2 s) (hdo : (yd1 b).do d = (yd1 b', t, true)) (hf : ¬ (d.isRead ∧ ¬ fullF d t)) (hg : b'.good) (hl : b'.text.length ≤ b.text.length + d.text.length + 4)
    (F5 : Fr (fun _ => False) wr w5) (hyv : YV w5 B1 1 k1 B2 0 k2 (yd1 b')) (hB : ∀ r o s, B1 = some ⟨r, o, s⟩ → wr.heap.size ≤ r ∨ A1 = some ⟨r, o, s⟩) :
    EJ w wl wr ((w5.setCell ⟨H, 0, none⟩ (.slice B1 1 k1)).setCell ⟨H, 1, none⟩ (.slice B2 0 k2)) base H full rest v7 v8 v9 d b' B1 k1 B2 k2 s := by
  have J := just2 w5 H (.slice B1 1 k1) (.slice B2 0 k2)
  have hb5 := F5.blk h.yb (fun q => q)
  have own : ∀ {v : Value} {l : List Cl}, OwnC wr base v l → OwnC ((w5.setCell ⟨H, 0, none⟩ (.slice B1 1 k1)).setCell ⟨H, 1, none⟩ (.slice B2 0 k2)) base v l := fun ho => (ho.fr F5 (fun _ _ q => q)).fr J (fun x hx q => by
    have q : x = H := q
    have := ho.blk_ge hx
    have := h.hH
    omega)
  have hHl : H < wr.heap.size := lt_of_blk h.yb
  have sep : ∀ r o s, B1 = some ⟨r, o, s⟩ → r ≠ H ∧ v7.ownBlock ≠ some r ∧ v8.ownBlock ≠ some r ∧ v9.ownBlock ≠ some r := by
    intro r o s q
    rcases hB r o s q with k | k
    · refine ⟨by omega, fun e => ?_, fun e => ?_, fun e => ?_⟩
      · have := h.o7.blk_lt e
        omega
      · have := h.o8.blk_lt e
        omega
      · have := h.o9.blk_lt e
        omega
    · exact h.a1 r o s k
  have hb : (yd1 b').bufs ≠ [] := by simp [yd1]
  have hsz : w5.heap.size ≤ ((w5.setCell ⟨H, 0, none⟩ (.slice B1 1 k1)).setCell ⟨H, 1, none⟩ (.slice B2 0 k2)).heap.size := J.size
  refine ⟨?_, hg, ?_, ?_, ?_, own h.o7, own h.o8, own h.o9, h.d78, h.d79, h.d89, fun r o s q => ⟨sep r o s q, ?_⟩, h.hH, h.hw, ?_, h.hb, (h.frb.trans (F5.mono (fun _ _ q => q.elim))).trans (J.mono (fun _ _ q => q))⟩
  · rw [h.eq]
    simp only [scrF, hdo]
    rw [if_neg hf]
    simp
  · have := h.len
    rw [wsum_cons] at this
    omega
  · simp [World.setCell, Array.getElem?_modify, hb5]
  · refine hyv.fr' J (fun _ r o s q k => ?_) (fun k => absurd rfl k)
    have k : r = H := k
    exact (sep r o s q).1 k
  · have := hyv.lt1 hb r o s q
    omega
  · exact (h.fr.trans F5).trans' J (fun x hx q => by have q : x = H := q; have := h.hw; omega)
/-- Both appends are done. -/
theorem EJ.next_w {w6 w7 w8 w9 : World} {o o' : Obj} {v7' v8' : Value} {B1 : Option Addr} {k1 : Nat} {B2 : Option Addr} {k2 : Nat} (h : EJ w wl wr w6 base H full rest v7 v8 v9 d b' B1 k1 B2 k2 s) (hr : ¬ d.isRead)
    (o7 : OwnC w7 base v7' (s ++ [d])) (f7 : Fr (fun x => v7.ownBlock = some x) (w6.alloc o) w7) (a7 : v7'.ownBlock = v7.ownBlock ∨ v7'.ownBlock = some (w6.heap.size + 1)) (F8 : Fr (fun _ => False) w7 w8)
    (o8 : OwnC w9 base v8' (wrL s ++ [d])) (f9 : Fr (fun x => v8.ownBlock = some x) (w8.alloc o') w9) (a9 : v8'.ownBlock = v8.ownBlock ∨ v8'.ownBlock = some (w8.heap.size + 1)) :
    EI w wl w9 base H full rest v7' v8' v9 b' B1 k1 B2 k2 (s ++ [d]) := by
  have z7 := f7.size
  have z8 := F8.size
  have z9 := f9.size
  rw [World.size_alloc] at z7 z9
  have hHl : H < w6.heap.size := lt_of_blk h.yb
  have G : Fr (fun x => v7.ownBlock = some x ∨ v8.ownBlock = some x) w6 w9 := ((((Fr.refl (fun _ => False) w6).alloc o).mono (fun _ _ q => q.elim)).trans (f7.mono (fun _ _ q => .inl q))).trans (((F8.alloc o').mono (fun _ _ q => q.elim)).trans (f9.mono (fun _ _ q => .inr q)))
  have e8 : ∀ x, v7'.ownBlock = some x → v8.ownBlock ≠ some x := fun x hx q => by
    rcases a7 with k | k
    · rw [k] at hx
      exact h.d78 x hx q
    · rw [k] at hx
      injection hx with hx
      have := h.o8.blk_lt q
      omega
  have e9 : ∀ x, v7'.ownBlock = some x → v9.ownBlock ≠ some x := fun x hx q => by
    rcases a7 with k | k
    · rw [k] at hx
      exact h.d79 x hx q
    · rw [k] at hx
      injection hx with hx
      have := h.o9.blk_lt q
      omega
  refine ⟨h.eq, h.good, h.len, G.blk h.yb ?_, h.yv.fr' G (fun _ r o s q k => ?_) (fun k => absurd rfl k), ((o7.fr F8 (fun _ _ q => q)).fr (fr_one w8 o') (fun _ _ q => q)).fr f9 (fun x hx q => e8 x hx q), ?_, ?_, fun x hx q => ?_, e9, fun x hx q => ?_, fun r o s q => ?_, h.hH, h.hw, ?_, h.hb, ?_⟩
  · rintro (q | q)
    · have := h.o7.blk_ge q
      have := h.hH
      omega
    · have := h.o8.blk_ge q
      have := h.hH
      omega
  · obtain ⟨⟨_, k7, k8, _⟩, _⟩ := h.a1 r o s q
    rcases k with k | k
    · exact k7 k
    · exact k8 k
  · rw [wrL_app, if_neg hr]
    exact o8
  · rw [rdL_app, if_neg hr]
    exact h.o9.fr G (fun x hx q => by
      rcases q with q | q
      · exact h.d79 x q hx
      · exact h.d89 x q hx)
  · rcases a9 with k | k
    · rw [k] at q
      exact e8 x hx q
    · rw [k] at q
      injection q with q
      have := o7.blk_lt hx
      omega
  · rcases a9 with k | k
    · rw [k] at hx
      exact h.d89 x hx q
    · rw [k] at hx
      injection hx with hx
      have := h.o9.blk_lt q
      omega
  · obtain ⟨⟨kH, k7, k8, k9⟩, kl⟩ := h.a1 r o s q
    refine ⟨kH, fun e => ?_, fun e => ?_, k9⟩
    · rcases a7 with k | k
      · exact k7 (k ▸ e)
      · rw [k] at e
        injection e with e
        omega
    · rcases a9 with k | k
      · exact k8 (k ▸ e)
      · rw [k] at e
        injection e with e
        omega
  · exact h.fr.trans' G (fun x hx q => by
      have := h.hw
      have := h.hH
      rcases q with q | q
      · have := h.o7.blk_ge q
        omega
      · have := h.o8.blk_ge q
        omega)
  · exact h.frb.trans' G (fun x hx q => by
      have := h.hb
      exfalso
      rcases q with q | q
      · have := h.o7.blk_ge q
        omega
      · have := h.o8.blk_ge q
        omega)
theorem EJ.next_r {w6 w7 w8 w9 : World} {o o' : Obj} {v7' v9' : Value} {B1 : Option Addr} {k1 : Nat} {B2 : Option Addr} {k2 : Nat} (h : EJ w wl wr w6 base H full rest v7 v8 v9 d b' B1 k1 B2 k2 s) (hr : d.isRead)
    (o7 : OwnC w7 base v7' (s ++ [d])) (f7 : Fr (fun x => v7.ownBlock = some x) (w6.alloc o) w7) (a7 : v7'.ownBlock = v7.ownBlock ∨ v7'.ownBlock = some (w6.heap.size + 1)) (F8 : Fr (fun _ => False) w7 w8)
    (o9 : OwnC w9 base v9' (rdL s ++ [d])) (f9 : Fr (fun x => v9.ownBlock = some x) (w8.alloc o') w9) (a9 : v9'.ownBlock = v9.ownBlock ∨ v9'.ownBlock = some (w8.heap.size + 1)) :
    EI w wl w9 base H full rest v7' v8 v9' b' B1 k1 B2 k2 (s ++ [d]) := by
  have z7 := f7.size
  have z8 := F8.size
  have z9 := f9.size
  rw [World.size_alloc] at z7 z9
  have hHl : H < w6.heap.size := lt_of_blk h.yb
  have G : Fr (fun x => v7.ownBlock = some x ∨ v9.ownBlock = some x) w6 w9 := ((((Fr.refl (fun _ => False) w6).alloc o).mono (fun _ _ q => q.elim)).trans (f7.mono (fun _ _ q => .inl q))).trans (((F8.alloc o').mono (fun _ _ q => q.elim)).trans (f9.mono (fun _ _ q => .inr q)))
  have e8 : ∀ x, v7'.ownBlock = some x → v8.ownBlock ≠ some x := fun x hx q => by
    rcases a7 with k | k
    · rw [k] at hx
      exact h.d78 x hx q
    · rw [k] at hx
      injection hx with hx
      have := h.o8.blk_lt q
      omega
  have e9 : ∀ x, v7'.ownBlock = some x → v9.ownBlock ≠ some x := fun x hx q => by
    rcases a7 with k | k
    · rw [k] at hx
      exact h.d79 x hx q
    · rw [k] at hx
      injection hx with hx
      have := h.o9.blk_lt q
      omega
  refine ⟨h.eq, h.good, h.len, G.blk h.yb ?_, h.yv.fr' G (fun _ r o s q k => ?_) (fun k => absurd rfl k), ((o7.fr F8 (fun _ _ q => q)).fr (fr_one w8 o') (fun _ _ q => q)).fr f9 (fun x hx q => e9 x hx q), ?_, ?_, e8, fun x hx q => ?_, fun x hx q => ?_, fun r o s q => ?_, h.hH, h.hw, ?_, h.hb, ?_⟩
  · rintro (q | q)
    · have := h.o7.blk_ge q
      have := h.hH
      omega
    · have := h.o9.blk_ge q
      have := h.hH
      omega
  · obtain ⟨⟨_, k7, _, k9⟩, _⟩ := h.a1 r o s q
    rcases k with k | k
    · exact k7 k
    · exact k9 k
  · rw [wrL_app, if_pos hr]
    exact h.o8.fr G (fun x hx q => by
      rcases q with q | q
      · exact h.d78 x q hx
      · exact h.d89 x hx q)
  · rw [rdL_app, if_pos hr]
    exact o9
  · rcases a9 with k | k
    · rw [k] at q
      exact e9 x hx q
    · rw [k] at q
      injection q with q
      have := o7.blk_lt hx
      omega
  · rcases a9 with k | k
    · rw [k] at q
      exact h.d89 x hx q
    · rw [k] at q
      injection q with q
      have := h.o8.blk_lt hx
      omega
  · obtain ⟨⟨kH, k7, k8, k9⟩, kl⟩ := h.a1 r o s q
    refine ⟨kH, fun e => ?_, k8, fun e => ?_⟩
    · rcases a7 with k | k
      · exact k7 (k ▸ e)
      · rw [k] at e
        injection e with e
        omega
    · rcases a9 with k | k
      · exact k9 (k ▸ e)
      · rw [k] at e
        injection e with e
        omega
  · exact h.fr.trans' G (fun x hx q => by
      have := h.hw
      have := h.hH
      rcases q with q | q
      · have := h.o7.blk_ge q
        omega
      · have := h.o9.blk_ge q
        omega)
  · exact h.frb.trans' G (fun x hx q => by
      have := h.hb
      exfalso
      rcases q with q | q
      · have := h.o7.blk_ge q
        omega
      · have := h.o9.blk_ge q
        omega)
end
end Go.Proofs.YtbodbajgpgaoeaaGreatDoor
