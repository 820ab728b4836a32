/- Yard. -/
import Derived.Test.YtkggebhkjgjijaaGreatDoorQ09
import Derived.Test.YtkggebhkjgjijaaGreatDoorQ11
import Derived.Test.YtkggebhkjgjijaaGreatDoorQ13
import Derived.Test.YtkggebhkjgjijaaGreatDoorQ10
import Derived.Test.YtkggebhkjgjijaaGreatDoorQ12
namespace Go.Proofs.YtkggebhkjgjijaaGreatDoor
open Go Go.RowKit

/-- What calls may write: young blocks of buffers, of builders, of bytes. -/
def ydS (w : World) (base x : Nat) : Prop := base ≤ x ∧ (Typed w x 84 ∨ Typed w x 74 ∨ Typed w x 5)
theorem Typed.of_block {w w' : World} {x : Nat} {T : TypeId} (h : Typed w' x T) (hb : w'.heap[x]? = w.heap[x]?) : Typed w x T := by
  obtain ⟨cs, fz, k⟩ := h
  exact ⟨cs, fz, hb.symm.trans k⟩
theorem ydS.of_block {w w' : World} {base x : Nat} (h : ydS w' base x) (hb : w'.heap[x]? = w.heap[x]?) : ydS w base x :=
  ⟨h.1, h.2.imp (fun q => q.of_block hb) (fun q => q.imp (fun q => q.of_block hb) (fun q => q.of_block hb))⟩
theorem ydS.lower {w : World} {base base' x : Nat} (h : ydS w base' x) (hb : base ≤ base') : ydS w base x := ⟨Nat.le_trans hb h.1, h.2⟩
theorem Fr.yd {w w1 w2 : World} {base : Nat} (h : Fr (ydS w base) w w1) (k : Fr (ydS w1 base) w1 w2) : Fr (ydS w base) w w2 := by
  refine h.trans' k fun x hx q => ?_
  by_cases hn : ydS w base x
  · exact hn
  · exact q.of_block (h.block x hx hn)
/-- The second step began behind a step that wrote nothing old. -/
theorem Fr.yd' {w w1 w2 : World} {base : Nat} (h : Fr (fun _ => False) w w1) (k : Fr (ydS w1 base) w1 w2) : Fr (ydS w base) w w2 :=
  (h.mono fun _ _ q => q.elim).yd k
/-- The block in which an error lies, among the old ones. -/
structure ErrBlk (w : World) (base x : Nat) (s : Array Value × TypeId) : Prop where
  blk : w.heap[x]? = some (.cells s.1 s.2 (0, 0))
  lt : x < base
section
variable {w w' : World} {base x : Nat} {s : Array Value × TypeId}
theorem ErrBlk.fr {S : Nat → Prop} (h : ErrBlk w base x s) (hf : Fr S w w') (hn : ¬ S x) : ErrBlk w' base x s := ⟨hf.blk h.blk hn, h.lt⟩
theorem ErrBlk.drew (h : ErrBlk w base x s) : ErrBlk w.drew base x s := ⟨h.blk, h.lt⟩
end

/-- The errors and tables that the calls look at lie among the old blocks. -/
structure Gl (base : Nat) (ea eu : Addr) (w : World) : Prop where
  eof : w.cell? ⟨0, 0, none⟩ = some (errV ea)
  unr : w.cell? ⟨1, 0, none⟩ = some (errV eu)
  be : ∃ s, ErrBlk w base ea.block s
  bu : ∃ s, ErrBlk w base eu.block s
  nu : eu ≠ ea
  e0 : 0 < base
  e2 : 1 < base
  tabs : ∀ w', (∀ x, x < base → w'.heap[x]? = w.heap[x]?) → Lib.Utf8Tabs 6 7 w'
theorem Gl.to {base : Nat} {ea eu : Addr} {w w' : World} (h : Gl base ea eu w) (hh : ∀ x, x < base → w'.heap[x]? = w.heap[x]?) : Gl base ea eu w' := by
  have hc : ∀ {x : Nat} {v : Value}, x < base → w.cell? ⟨x, 0, none⟩ = some v → w'.cell? ⟨x, 0, none⟩ = some v := fun hx hv => (World.cell?_of_block (hh _ hx)).trans hv
  have hE : ∀ {x : Nat}, (∃ s, ErrBlk w base x s) → ∃ s, ErrBlk w' base x s := fun ⟨s, k⟩ => ⟨s, (hh _ k.lt).trans k.blk, k.lt⟩
  exact ⟨hc h.e0 h.eof, hc h.e2 h.unr, hE h.be, hE h.bu, h.nu, h.e0, h.e2, fun w2 k => h.tabs w2 fun x hx => (k x hx).trans (hh x hx)⟩
theorem Gl.fr {base : Nat} {ea eu : Addr} {w w' : World} {S : Nat → Prop} (h : Gl base ea eu w) (hb : base ≤ w.heap.size) (hf : Fr S w w') (hS : ∀ x, x < base → ¬ S x) : Gl base ea eu w' :=
  h.to fun x hx => hf.block x (Nat.lt_of_lt_of_le hx hb) (hS x hx)

/-- The blocks of a yard: its struct, where the pointers lie, who owns which block. -/
structure YardC (w : World) (base yb : Nat) (A : Option Addr) (c : Nat) (A' : Option Addr) (c' : Nat) (lab : Nat → Nat) (bs : List (Nat × Gh)) (ds : List (Nat × BG)) : Prop where
  bb : base ≤ yb
  bw : base ≤ w.heap.size
  st : w.heap[yb]? = some (.cells #[.slice A bs.length c, .slice A' ds.length c'] 69 (0, 0))
  bp : ∀ (i : Nat) (p : Nat × Gh), bs[i]? = some p → ∃ r, A = some ⟨r, 0, none⟩ ∧ Typed w r 70 ∧ w.cell? ⟨r, i, none⟩ = some (.pointer (some ⟨p.1, 0, none⟩))
  dp : ∀ (i : Nat) (p : Nat × BG), ds[i]? = some p → ∃ r, A' = some ⟨r, 0, none⟩ ∧ Typed w r 72 ∧ w.cell? ⟨r, i, none⟩ = some (.pointer (some ⟨p.1, 0, none⟩))
  ba : ∀ (i : Nat) (p : Nat × Gh), bs[i]? = some p → BufAt w p.1 p.2
  da : ∀ (i : Nat) (p : Nat × BG), ds[i]? = some p → BldAt w p.1 p.2
  bl : ∀ (i : Nat) (p : Nat × Gh) (x : Nat), bs[i]? = some p → p.2.foot p.1 x → base ≤ x ∧ lab x = 2 * i
  dl : ∀ (i : Nat) (p : Nat × BG) (x : Nat), ds[i]? = some p → p.2.foot p.1 x → base ≤ x ∧ lab x = 2 * i + 1
def YardAt (w : World) (base yb : Nat) (bs : List (Nat × Gh)) (ds : List (Nat × BG)) : Prop := ∃ A c A' c' lab, YardC w base yb A c A' c' lab bs ds

theorem BufAt.foot_typed {w : World} {b x : Nat} {g : Gh} (h : BufAt w b g) (hx : g.foot b x) : Typed w x 84 ∨ Typed w x 5 := by
  rcases hx with rfl | hr
  · exact .inl ⟨_, _, h.st⟩
  · obtain ⟨fz, h1, _⟩ := h.row x hr
    exact .inr ⟨_, _, h1⟩
theorem BldAt.foot_typed {w : World} {d x : Nat} {g : BG} (h : BldAt w d g) (hx : g.foot d x) : Typed w x 74 ∨ Typed w x 5 := by
  rcases hx with rfl | hr
  · exact .inl ⟨_, _, h.st⟩
  · obtain ⟨rest, fz, h1, _⟩ := h.row x hr
    exact .inr ⟨_, _, h1⟩
theorem BldAt.foot_lt {w : World} {d x : Nat} {g : BG} (h : BldAt w d g) (hx : g.foot d x) : x < w.heap.size := by
  rcases h.foot_typed hx with ⟨cs, fz, k⟩ | ⟨cs, fz, k⟩ <;> exact lt_of_blk k

section
variable {w w' : World} {base yb : Nat} {A : Option Addr} {c : Nat} {A' : Option Addr} {c' : Nat} {lab lab' : Nat → Nat} {bs bs' : List (Nat × Gh)} {ds ds' : List (Nat × BG)}
theorem YardC.bfoot (h : YardC w base yb A c A' c' lab bs ds) {i : Nat} {p : Nat × Gh} {x : Nat} (hi : bs[i]? = some p) (hx : p.2.foot p.1 x) : ydS w base x :=
  ⟨(h.bl i p x hi hx).1, ((h.ba i p hi).foot_typed hx).imp id fun q => .inr q⟩
theorem YardC.dfoot (h : YardC w base yb A c A' c' lab bs ds) {i : Nat} {p : Nat × BG} {x : Nat} (hi : ds[i]? = some p) (hx : p.2.foot p.1 x) : ydS w base x :=
  ⟨(h.dl i p x hi hx).1, .inr ((h.da i p hi).foot_typed hx)⟩
theorem ydS.not_typed {x : Nat} {T : TypeId} (h : ydS w base x) (hT : Typed w x T) (h1 : T ≠ 84) (h2 : T ≠ 74) (h3 : T ≠ 5) : False := by
  rcases h.2 with q | q | q
  · exact hT.ne h1 q
  · exact hT.ne h2 q
  · exact hT.ne h3 q
/-- Some of its buffers and builders have been changed. -/
theorem YardC.upd {S : Nat → Prop} (h : YardC w base yb A c A' c' lab bs ds) (hf : Fr S w w') (hS : ∀ x, x < w.heap.size → S x → ydS w base x) (hbn : bs'.length = bs.length) (hdn : ds'.length = ds.length)
    (hb : ∀ (i : Nat) (p' : Nat × Gh), bs'[i]? = some p' → BufAt w' p'.1 p'.2 ∧ (∀ p, bs[i]? = some p → p'.1 = p.1) ∧ ∀ x, p'.2.foot p'.1 x → base ≤ x ∧ lab' x = 2 * i)
    (hd : ∀ (i : Nat) (p' : Nat × BG), ds'[i]? = some p' → BldAt w' p'.1 p'.2 ∧ (∀ p, ds[i]? = some p → p'.1 = p.1) ∧ ∀ x, p'.2.foot p'.1 x → base ≤ x ∧ lab' x = 2 * i + 1) : YardC w' base yb A c A' c' lab' bs' ds' := by
  have hkeep : ∀ {x : Nat} {T : TypeId}, Typed w x T → T ≠ 84 → T ≠ 74 → T ≠ 5 → w'.heap[x]? = w.heap[x]? := by
    intro x T hT h1 h2 h3
    have hlt : x < w.heap.size := by obtain ⟨_, _, k⟩ := hT; exact lt_of_blk k
    exact hf.block x hlt fun q => (hS x hlt q).not_typed hT h1 h2 h3
  refine ⟨h.bb, Nat.le_trans h.bw hf.size, ?_, fun i p' hp => ?_, fun i p' hp => ?_, fun i p' hp => (hb i p' hp).1, fun i p' hp => (hd i p' hp).1, fun i p' x hp hx => (hb i p' hp).2.2 x hx, fun i p' x hp hx => (hd i p' hp).2.2 x hx⟩
  · rw [hbn, hdn]
    exact (hkeep ⟨_, _, h.st⟩ (by decide) (by decide) (by decide)).trans h.st
  · have hi : i < bs.length := by rw [← hbn]; exact (List.getElem?_eq_some_iff.1 hp).1
    obtain ⟨r, hA, hT, hc⟩ := h.bp i _ (List.getElem?_eq_getElem hi)
    have hk := hkeep hT (by decide) (by decide) (by decide)
    refine ⟨r, hA, ?_, ?_⟩
    · obtain ⟨cs, fz, k⟩ := hT
      exact ⟨cs, fz, hk.trans k⟩
    · rw [(hb i p' hp).2.1 _ (List.getElem?_eq_getElem hi)]
      exact (World.cell?_of_block hk).trans hc
  · have hi : i < ds.length := by rw [← hdn]; exact (List.getElem?_eq_some_iff.1 hp).1
    obtain ⟨r, hA, hT, hc⟩ := h.dp i _ (List.getElem?_eq_getElem hi)
    have hk := hkeep hT (by decide) (by decide) (by decide)
    refine ⟨r, hA, ?_, ?_⟩
    · obtain ⟨cs, fz, k⟩ := hT
      exact ⟨cs, fz, hk.trans k⟩
    · rw [(hd i p' hp).2.1 _ (List.getElem?_eq_getElem hi)]
      exact (World.cell?_of_block hk).trans hc
/-- Two buffers lie apart. -/
theorem YardC.apart (h : YardC w base yb A c A' c' lab bs ds) {i j : Nat} {p q : Nat × Gh} (hi : bs[i]? = some p) (hj : bs[j]? = some q) (hne : i ≠ j) : Apart p.1 p.2 q.1 q.2 := by
  refine ⟨fun e => ?_, fun r h1 h2 => ?_⟩
  · have k1 := (h.bl i p p.1 hi (.inl rfl)).2
    have k2 := (h.bl j q p.1 hj (.inl e)).2
    omega
  · have k1 := (h.bl i p r hi (.inr h1)).2
    have k2 := (h.bl j q r hj (.inr h2)).2
    omega
end

/-- A step of all: the yard as it is then, and what of the old blocks was written. -/
structure YardStep (w : World) (base yb : Nat) (w' : World) (bs' : List (Nat × Gh)) (ds' : List (Nat × BG)) : Prop where
  at' : YardAt w' base yb bs' ds'
  fr : Fr (ydS w base) w w'

/-- Who owns a block: what is new is the item's. -/
def labNew (w : World) (lab : Nat → Nat) (k x : Nat) : Nat := if x < w.heap.size then lab x else k
theorem labNew_old {w : World} {lab : Nat → Nat} {k x : Nat} (h : x < w.heap.size) : labNew w lab k x = lab x := if_pos h
theorem labNew_new {w : World} {lab : Nat → Nat} {k x : Nat} (h : w.heap.size ≤ x) : labNew w lab k x = k := if_neg (by omega)

section
variable {w w' : World} {base yb : Nat} {bs : List (Nat × Gh)} {ds : List (Nat × BG)}
/-- Two buffers have been changed (or one), blocks of the first one may be new. -/
theorem YardAt.two {i j : Nat} {b b2 : Nat} {g g' g2 g2' : Gh} (h : YardAt w base yb bs ds) (hi : bs[i]? = some (b, g)) (hj : bs[j]? = some (b2, g2)) (hij : i ≠ j) (h1 : BufAt w' b g') (h2 : BufAt w' b2 g2')
    (r1 : g'.row = g.row ∨ ∃ r, g'.row = some r ∧ w.heap.size ≤ r) (r2 : g2'.row = g2.row) (hf : Fr (fun x => g.foot b x ∨ g2.foot b2 x) w w') : YardStep w base yb w' ((bs.set i (b, g')).set j (b2, g2')) ds := by
  obtain ⟨A, c, A', c', lab, h⟩ := h
  have hS : ∀ x, x < w.heap.size → (g.foot b x ∨ g2.foot b2 x) → ydS w base x := fun x _ q => q.elim (fun q => h.bfoot hi q) (fun q => h.bfoot hj q)
  have li : i < bs.length := (List.getElem?_eq_some_iff.1 hi).1
  have lj : j < bs.length := (List.getElem?_eq_some_iff.1 hj).1
  refine ⟨⟨A, c, A', c', labNew w lab (2 * i), h.upd hf hS (by simp) rfl (fun k p' hp => ?_) (fun k p' hp => ?_)⟩, hf.mono hS⟩
  · by_cases hkj : k = j
    · subst hkj
      rw [List.getElem?_set_self (by simpa using lj)] at hp
      injection hp with hp
      subst hp
      refine ⟨h2, fun p hp => by rw [hj] at hp; injection hp with hp; rw [← hp], fun x hx => ?_⟩
      have hx' : g2.foot b2 x := by
        rcases hx with q | q
        · exact .inl q
        · exact .inr (by rw [← r2]; exact q)
      rw [labNew_old ((h.ba k _ hj).foot_lt hx')]
      exact h.bl k _ x hj hx'
    · rw [List.getElem?_set_ne (by omega)] at hp
      by_cases hki : k = i
      · subst hki
        rw [List.getElem?_set_self li] at hp
        injection hp with hp
        subst hp
        refine ⟨h1, fun p hp => by rw [hi] at hp; injection hp with hp; rw [← hp], fun x hx => ?_⟩
        rcases Nat.lt_or_ge x w.heap.size with hlt | hge
        · have hx' : g.foot b x := by
            rcases hx with q | q
            · exact .inl q
            · rcases r1 with e | ⟨r, e, hr⟩
              · exact .inr (by rw [← e]; exact q)
              · have q : g'.row = some x := q
                rw [e] at q
                injection q with q
                omega
          rw [labNew_old hlt]
          exact h.bl k _ x hi hx'
        · rw [labNew_new hge]
          exact ⟨Nat.le_trans h.bw hge, rfl⟩
      · rw [List.getElem?_set_ne (by omega)] at hp
        refine ⟨(h.ba k p' hp).fr hf (fun x hx q => ?_), fun p hp' => by rw [hp] at hp'; injection hp' with hp'; rw [hp'], fun x hx => ?_⟩
        · have k0 := (h.bl k p' x hp hx).2
          rcases q with q | q
          · have := (h.bl i _ x hi q).2; omega
          · have := (h.bl j _ x hj q).2; omega
        · rw [labNew_old ((h.ba k p' hp).foot_lt hx)]
          exact h.bl k p' x hp hx
  · refine ⟨(h.da k p' hp).fr hf (fun x hx q => ?_), fun p hp' => by rw [hp] at hp'; injection hp' with hp'; rw [hp'], fun x hx => ?_⟩
    · have k0 := (h.dl k p' x hp hx).2
      rcases q with q | q
      · have := (h.bl i _ x hi q).2; omega
      · have := (h.bl j _ x hj q).2; omega
    · rw [labNew_old ((h.da k p' hp).foot_lt hx)]
      exact h.dl k p' x hp hx

/-- One buffer has been changed. -/
theorem YardAt.one {i : Nat} {b : Nat} {g g' : Gh} (h : YardAt w base yb bs ds) (hi : bs[i]? = some (b, g)) (S : BufStep w b g w' g') : YardStep w base yb w' (bs.set i (b, g')) ds := by
  obtain ⟨A, c, A', c', lab, h⟩ := h
  have hS : ∀ x, x < w.heap.size → g.foot b x → ydS w base x := fun x _ q => h.bfoot hi q
  have li : i < bs.length := (List.getElem?_eq_some_iff.1 hi).1
  refine ⟨⟨A, c, A', c', labNew w lab (2 * i), h.upd S.fr hS (by simp) rfl (fun k p' hp => ?_) (fun k p' hp => ?_)⟩, S.fr.mono hS⟩
  · by_cases hki : k = i
    · subst hki
      rw [List.getElem?_set_self li] at hp
      injection hp with hp
      subst hp
      refine ⟨S.at', fun p hp => by rw [hi] at hp; injection hp with hp; rw [← hp], fun x hx => ?_⟩
      rcases Nat.lt_or_ge x w.heap.size with hlt | hge
      · have hx' : g.foot b x := by
          rcases hx with q | q
          · exact .inl q
          · rcases S.row with e | ⟨r, e, hr⟩
            · exact .inr (by rw [← e]; exact q)
            · have q : g'.row = some x := q
              rw [e] at q
              injection q with q
              omega
        rw [labNew_old hlt]
        exact h.bl k _ x hi hx'
      · rw [labNew_new hge]
        exact ⟨Nat.le_trans h.bw hge, rfl⟩
    · rw [List.getElem?_set_ne (by omega)] at hp
      refine ⟨(h.ba k p' hp).fr S.fr (fun x hx q => ?_), fun p hp' => by rw [hp] at hp'; injection hp' with hp'; rw [hp'], fun x hx => ?_⟩
      · have k0 := (h.bl k p' x hp hx).2
        have := (h.bl i _ x hi q).2; omega
      · rw [labNew_old ((h.ba k p' hp).foot_lt hx)]
        exact h.bl k p' x hp hx
  · refine ⟨(h.da k p' hp).fr S.fr (fun x hx q => ?_), fun p hp' => by rw [hp] at hp'; injection hp' with hp'; rw [hp'], fun x hx => ?_⟩
    · have k0 := (h.dl k p' x hp hx).2
      have := (h.bl i _ x hi q).2; omega
    · rw [labNew_old ((h.da k p' hp).foot_lt hx)]
      exact h.dl k p' x hp hx

/-- One builder has been changed. -/
theorem YardAt.oneB {j : Nat} {d : Nat} {e e' : BG} (h : YardAt w base yb bs ds) (hj : ds[j]? = some (d, e)) (S : BldStep w d e w' e') : YardStep w base yb w' bs (ds.set j (d, e')) := by
  obtain ⟨A, c, A', c', lab, h⟩ := h
  have hS : ∀ x, x < w.heap.size → e.foot d x → ydS w base x := fun x _ q => h.dfoot hj q
  have lj : j < ds.length := (List.getElem?_eq_some_iff.1 hj).1
  refine ⟨⟨A, c, A', c', labNew w lab (2 * j + 1), h.upd S.fr hS rfl (by simp) (fun k p' hp => ?_) (fun k p' hp => ?_)⟩, S.fr.mono hS⟩
  · refine ⟨(h.ba k p' hp).fr S.fr (fun x hx q => ?_), fun p hp' => by rw [hp] at hp'; injection hp' with hp'; rw [hp'], fun x hx => ?_⟩
    · have k0 := (h.bl k p' x hp hx).2
      have := (h.dl j _ x hj q).2; omega
    · rw [labNew_old ((h.ba k p' hp).foot_lt hx)]
      exact h.bl k p' x hp hx
  · by_cases hkj : k = j
    · subst hkj
      rw [List.getElem?_set_self lj] at hp
      injection hp with hp
      subst hp
      refine ⟨S.at', fun p hp => by rw [hj] at hp; injection hp with hp; rw [← hp], fun x hx => ?_⟩
      rcases Nat.lt_or_ge x w.heap.size with hlt | hge
      · have hx' : e.foot d x := by
          rcases hx with q | q
          · exact .inl q
          · have q : e'.row = some x := q
            rcases S.row with k | k | ⟨r, k, hr⟩
            · exact .inr (by rw [← k]; exact q)
            · rw [k] at q; cases q
            · rw [k] at q
              injection q with q
              omega
        rw [labNew_old hlt]
        exact h.dl k _ x hj hx'
      · rw [labNew_new hge]
        exact ⟨Nat.le_trans h.bw hge, rfl⟩
    · rw [List.getElem?_set_ne (by omega)] at hp
      refine ⟨(h.da k p' hp).fr S.fr (fun x hx q => ?_), fun p hp' => by rw [hp] at hp'; injection hp' with hp'; rw [hp'], fun x hx => ?_⟩
      · have k0 := (h.dl k p' x hp hx).2
        have := (h.dl j _ x hj q).2; omega
      · rw [labNew_old ((h.da k p' hp).foot_lt hx)]
        exact h.dl k p' x hp hx

/-- Nothing that it has was changed. -/
theorem YardAt.fr {S : Nat → Prop} (h : YardAt w base yb bs ds) (hf : Fr S w w') (hS : ∀ x, x < w.heap.size → S x → x < base ∨ ∃ T, Typed w x T ∧ T ≠ 84 ∧ T ≠ 74 ∧ T ≠ 5 ∧ T ≠ 69 ∧ T ≠ 70 ∧ T ≠ 72) (hp : ∀ x, Typed w x 70 ∨ Typed w x 72 → ¬ S x) : YardAt w' base yb bs ds := by
  obtain ⟨A, c, A', c', lab, h⟩ := h
  have no : ∀ x, x < w.heap.size → ydS w base x → ¬ S x := fun x hx q k => by
    rcases hS x hx k with k | ⟨T, hT, h1, h2, h3, _⟩
    · have := q.1; omega
    · exact q.not_typed hT h1 h2 h3
  have hst : ¬ S yb := fun k => by
    rcases hS yb (lt_of_blk h.st) k with k | ⟨T, hT, _, _, _, h4, _⟩
    · have := h.bb; omega
    · exact hT.ne h4 ⟨_, _, h.st⟩
  refine ⟨A, c, A', c', lab, h.bb, Nat.le_trans h.bw hf.size, hf.blk h.st hst, fun i p hi => ?_, fun i p hi => ?_, fun i p hi => (h.ba i p hi).fr hf (fun x hx => no x ((h.ba i p hi).foot_lt hx) (h.bfoot hi hx)), fun i p hi => (h.da i p hi).fr hf (fun x hx => no x ((h.da i p hi).foot_lt hx) (h.dfoot hi hx)), h.bl, h.dl⟩
  · obtain ⟨r, hA, hT, hc⟩ := h.bp i p hi
    refine ⟨r, hA, ?_, ?_⟩
    · obtain ⟨cs, fz, k⟩ := hT
      exact ⟨cs, fz, hf.blk k (hp r (.inl ⟨cs, fz, k⟩))⟩
    · exact (hf.cell (World.block_lt_of_cell? _ _ hc) (hp r (.inl hT))).trans hc
  · obtain ⟨r, hA, hT, hc⟩ := h.dp i p hi
    refine ⟨r, hA, ?_, ?_⟩
    · obtain ⟨cs, fz, k⟩ := hT
      exact ⟨cs, fz, hf.blk k (hp r (.inr ⟨cs, fz, k⟩))⟩
    · exact (hf.cell (World.block_lt_of_cell? _ _ hc) (hp r (.inr hT))).trans hc
theorem YardAt.fr0 (h : YardAt w base yb bs ds) (hf : Fr (fun _ => False) w w') : YardAt w' base yb bs ds := h.fr hf (fun _ _ q => q.elim) (fun _ _ q => q)
end
end Go.Proofs.YtkggebhkjgjijaaGreatDoor
