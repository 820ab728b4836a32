/- How far the first loop of FnWritesEarlier has come. -/
import Derived.Test.YtbodbajgpgaoeaaGreatDoorQErlQ
import Derived.Test.YtbodbajgpgaoeaaGreatDoorQCatC
namespace Go.Proofs.YtbodbajgpgaoeaaGreatDoor
open Go Go.RowKit

def wrL (s : List Cl) : List Cl := s.filter fun c => ¬ c.isRead
def rdL (s : List Cl) : List Cl := s.filter fun c => c.isRead
/-- The state of the loop at a world. -/
structure EI (w wl wr : World) (base H : Nat) (full rest : List Cl) (v7 v8 v9 : Value) (b : SB) (A1 : Option Addr) (c1 : Nat) (A2 : Option Addr) (c2 : Nat) (s : List Cl) : Prop where
  eq : full = s ++ scrF (yd1 b) rest
  good : b.good
  len : b.text.length + wsum rest + 16 ≤ 1099511627776
  yb : wr.heap[H]? = some (.cells #[.slice A1 1 c1, .slice A2 0 c2] 59 (0, 0))
  yv : YV wr A1 1 c1 A2 0 c2 (yd1 b)
  o7 : OwnC wr base v7 s
  o8 : OwnC wr base v8 (wrL s)
  o9 : OwnC wr base v9 (rdL s)
  d78 : ∀ x, v7.ownBlock = some x → v8.ownBlock ≠ some x
  d79 : ∀ x, v7.ownBlock = some x → v9.ownBlock ≠ some x
  d89 : ∀ x, v8.ownBlock = some x → v9.ownBlock ≠ some x
  a1 : ∀ r o s, A1 = some ⟨r, o, s⟩ → r ≠ H ∧ v7.ownBlock ≠ some r ∧ v8.ownBlock ≠ some r ∧ v9.ownBlock ≠ some r
  hH : H < base
  hw : w.heap.size ≤ H
  fr : Fr (fun _ => False) w wr
  hb : base = wl.heap.size
  frb : Fr (fun x => x = H) wl wr
section
variable {w wl wr : World} {base H : Nat} {full rest : List Cl} {v7 v8 v9 : Value} {b : SB} {A1 : Option Addr} {c1 : Nat} {A2 : Option Addr} {c2 : Nat} {s : List Cl} {d : Cl} {b' : SB} {t : Td}
/-- The state between the call and the appends: the yard is stored. -/
structure EJ (w wl wr w6 : World) (base H : Nat) (full rest : List Cl) (v7 v8 v9 : Value) (d : Cl) (b' : SB) (B1 : Option Addr) (k1 : Nat) (B2 : Option Addr) (k2 : Nat) (s : List Cl) : Prop where
  eq : full = (s ++ [d]) ++ scrF (yd1 b') rest
  good : b'.good
  len : b'.text.length + wsum rest + 16 ≤ 1099511627776
  yb : w6.heap[H]? = some (.cells #[.slice B1 1 k1, .slice B2 0 k2] 59 (0, 0))
  yv : YV w6 B1 1 k1 B2 0 k2 (yd1 b')
  o7 : OwnC w6 base v7 s
  o8 : OwnC w6 base v8 (wrL s)
  o9 : OwnC w6 base v9 (rdL s)
  d78 : ∀ x, v7.ownBlock = some x → v8.ownBlock ≠ some x
  d79 : ∀ x, v7.ownBlock = some x → v9.ownBlock ≠ some x
  d89 : ∀ x, v8.ownBlock = some x → v9.ownBlock ≠ some x
  a1 : ∀ r o s, B1 = some ⟨r, o, s⟩ → (r ≠ H ∧ v7.ownBlock ≠ some r ∧ v8.ownBlock ≠ some r ∧ v9.ownBlock ≠ some r) ∧ r < w6.heap.size
  hH : H < base
  hw : w.heap.size ≤ H
  fr : Fr (fun _ => False) w w6
  hb : base = wl.heap.size
  frb : Fr (fun x => x = H) wl w6
theorem EJ.of {w5 : World} {B1 : Option Addr} {k1 : Nat} {B2 : Option Addr} {k2 : Nat} (h : EI w wl wr base H full (d :: rest) v7 v8 v9 b A1 c1 A2 c2 s) (hdo : (yd1 b).do d = (yd1 b', t, true)) (hf : ¬ (d.isRead ∧ ¬ fullF d t)) (hg : b'.good) (hl : b'.text.length ≤ b.text.length + d.text.length + 4)
    (F5 : Fr (fun _ => False) wr w5) (hyv : YV w5 B1 1 k1 B2 0 k2 (yd1 b')) (hB : ∀ r o s, B1 = some ⟨r, o, s⟩ → wr.heap.size ≤ r ∨ A1 = some ⟨r, o, s⟩) :
    EJ w wl wr ((w5.setCell ⟨H, 0, none⟩ (.slice B1 1 k1)).setCell ⟨H, 1, none⟩ (.slice B2 0 k2)) base H full rest v7 v8 v9 d b' B1 k1 B2 k2 s := by
  have J := just2 w5 H (.slice B1 1 k1) (.slice B2 0 k2)
  have hb5 := F5.blk h.yb (fun q => q)
  have own : ∀ {v : Value} {l : List Cl}, OwnC wr base v l → OwnC ((w5.setCell ⟨H, 0, none⟩ (.slice B1 1 k1)).setCell ⟨H, 1, none⟩ (.slice B2 0 k2)) base v l := fun ho => (ho.fr F5 (fun _ _ q => q)).fr J (fun x hx q => by
    have q : x = H := q
    have := ho.blk_ge hx
    have := h.hH
    omega)
  have hHl : H < wr.heap.size := lt_of_blk h.yb
  have sep : ∀ r o s, B1 = some ⟨r, o, s⟩ → r ≠ H ∧ v7.ownBlock ≠ some r ∧ v8.ownBlock ≠ some r ∧ v9.ownBlock ≠ some r := by
    intro r o s q
    rcases hB r o s q with k | k
    · refine ⟨by omega, fun e => ?_, fun e => ?_, fun e => ?_⟩
      · have := h.o7.blk_lt e
        omega
      · have := h.o8.blk_lt e
        omega
      · have := h.o9.blk_lt e
        omega
    · exact h.a1 r o s k
  have hb : (yd1 b').bufs ≠ [] := by simp [yd1]
  have hsz : w5.heap.size ≤ ((w5.setCell ⟨H, 0, none⟩ (.slice B1 1 k1)).setCell ⟨H, 1, none⟩ (.slice B2 0 k2)).heap.size := J.size
  refine ⟨?_, hg, ?_, ?_, ?_, own h.o7, own h.o8, own h.o9, h.d78, h.d79, h.d89, fun r o s q => ⟨sep r o s q, ?_⟩, h.hH, h.hw, ?_, h.hb, (h.frb.trans (F5.mono (fun _ _ q => q.elim))).trans (J.mono (fun _ _ q => q))⟩
  · rw [h.eq]
    simp only [scrF, hdo]
    rw [if_neg hf]
    simp
  · have := h.len
    rw [wsum_cons] at this
    omega
  · simp [World.setCell, Array.getElem?_modify, hb5]
  · refine hyv.fr' J (fun _ r o s q k => ?_) (fun k => absurd rfl k)
    have k : r = H := k
    exact (sep r o s q).1 k
  · have := hyv.lt1 hb r o s q
    omega
  · exact (h.fr.trans F5).trans' J (fun x hx q => by have q : x = H := q; have := h.hw; omega)
end
end Go.Proofs.YtbodbajgpgaoeaaGreatDoor
