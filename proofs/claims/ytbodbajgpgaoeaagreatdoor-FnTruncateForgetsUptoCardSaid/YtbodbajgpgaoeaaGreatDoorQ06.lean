/- Yard, Play, CallW. -/
import Derived.Test.YtbodbajgpgaoeaaGreatDoorQ04
import Derived.Test.YtbodbajgpgaoeaaGreatDoorQ05
namespace Go.Proofs.YtbodbajgpgaoeaaGreatDoor
open Go Go.RowKit

/-- What calls may write: young blocks of buffers, of builders, of bytes. -/
def ydS (w : World) (base x : Nat) : Prop := base ≤ x ∧ (Typed w x 96 ∨ Typed w x 90 ∨ Typed w x 5)
theorem Typed.of_block {w w' : World} {x : Nat} {T : TypeId} (h : Typed w' x T) (hb : w'.heap[x]? = w.heap[x]?) : Typed w x T := by
  obtain ⟨cs, fz, k⟩ := h
  exact ⟨cs, fz, hb.symm.trans k⟩
theorem ydS.of_block {w w' : World} {base x : Nat} (h : ydS w' base x) (hb : w'.heap[x]? = w.heap[x]?) : ydS w base x :=
  ⟨h.1, h.2.imp (fun q => q.of_block hb) (fun q => q.imp (fun q => q.of_block hb) (fun q => q.of_block hb))⟩
theorem ydS.lower {w : World} {base base' x : Nat} (h : ydS w base' x) (hb : base ≤ base') : ydS w base x := ⟨Nat.le_trans hb h.1, h.2⟩
theorem Fr.yd {w w1 w2 : World} {base : Nat} (h : Fr (ydS w base) w w1) (k : Fr (ydS w1 base) w1 w2) : Fr (ydS w base) w w2 := by
  refine h.trans' k fun x hx q => ?_
  by_cases hn : ydS w base x
  · exact hn
  · exact q.of_block (h.block x hx hn)
/-- The second step began behind a step that wrote nothing old. -/
theorem Fr.yd' {w w1 w2 : World} {base : Nat} (h : Fr (fun _ => False) w w1) (k : Fr (ydS w1 base) w1 w2) : Fr (ydS w base) w w2 :=
  (h.mono fun _ _ q => q.elim).yd k
/-- The block in which an error lies, among the old ones. -/
structure ErrBlk (w : World) (base x : Nat) (s : Array Value × TypeId) : Prop where
  blk : w.heap[x]? = some (.cells s.1 s.2 (0, 0))
  lt : x < base
section
variable {w w' : World} {base x : Nat} {s : Array Value × TypeId}
theorem ErrBlk.fr {S : Nat → Prop} (h : ErrBlk w base x s) (hf : Fr S w w') (hn : ¬ S x) : ErrBlk w' base x s := ⟨hf.blk h.blk hn, h.lt⟩
theorem ErrBlk.drew (h : ErrBlk w base x s) : ErrBlk w.drew base x s := ⟨h.blk, h.lt⟩
end

/-- The errors and tables that the calls look at lie among the old blocks. -/
structure Gl (base : Nat) (ea eu : Addr) (w : World) : Prop where
  eof : w.cell? ⟨0, 0, none⟩ = some (errV ea)
  unr : w.cell? ⟨1, 0, none⟩ = some (errV eu)
  be : ∃ s, ErrBlk w base ea.block s
  bu : ∃ s, ErrBlk w base eu.block s
  nu : eu ≠ ea
  e0 : 0 < base
  e2 : 1 < base
  tabs : ∀ w', (∀ x, x < base → w'.heap[x]? = w.heap[x]?) → Lib.Utf8Tabs 6 7 w'
theorem Gl.to {base : Nat} {ea eu : Addr} {w w' : World} (h : Gl base ea eu w) (hh : ∀ x, x < base → w'.heap[x]? = w.heap[x]?) : Gl base ea eu w' := by
  have hc : ∀ {x : Nat} {v : Value}, x < base → w.cell? ⟨x, 0, none⟩ = some v → w'.cell? ⟨x, 0, none⟩ = some v := fun hx hv => (World.cell?_of_block (hh _ hx)).trans hv
  have hE : ∀ {x : Nat}, (∃ s, ErrBlk w base x s) → ∃ s, ErrBlk w' base x s := fun ⟨s, k⟩ => ⟨s, (hh _ k.lt).trans k.blk, k.lt⟩
  exact ⟨hc h.e0 h.eof, hc h.e2 h.unr, hE h.be, hE h.bu, h.nu, h.e0, h.e2, fun w2 k => h.tabs w2 fun x hx => (k x hx).trans (hh x hx)⟩
theorem Gl.fr {base : Nat} {ea eu : Addr} {w w' : World} {S : Nat → Prop} (h : Gl base ea eu w) (hb : base ≤ w.heap.size) (hf : Fr S w w') (hS : ∀ x, x < base → ¬ S x) : Gl base ea eu w' :=
  h.to fun x hx => hf.block x (Nat.lt_of_lt_of_le hx hb) (hS x hx)

/-- The blocks of a yard: its struct, where the pointers lie, who owns which block. -/
structure YardC (w : World) (base yb : Nat) (A : Option Addr) (c : Nat) (A' : Option Addr) (c' : Nat) (lab : Nat → Nat) (bs : List (Nat × Gh)) (ds : List (Nat × BG)) : Prop where
  bb : base ≤ yb
  bw : base ≤ w.heap.size
  st : w.heap[yb]? = some (.cells #[.slice A bs.length c, .slice A' ds.length c'] 71 (0, 0))
  bp : ∀ (i : Nat) (p : Nat × Gh), bs[i]? = some p → ∃ r, A = some ⟨r, 0, none⟩ ∧ Typed w r 72 ∧ w.cell? ⟨r, i, none⟩ = some (.pointer (some ⟨p.1, 0, none⟩))
  dp : ∀ (i : Nat) (p : Nat × BG), ds[i]? = some p → ∃ r, A' = some ⟨r, 0, none⟩ ∧ Typed w r 74 ∧ w.cell? ⟨r, i, none⟩ = some (.pointer (some ⟨p.1, 0, none⟩))
  ba : ∀ (i : Nat) (p : Nat × Gh), bs[i]? = some p → BufAt w p.1 p.2
  da : ∀ (i : Nat) (p : Nat × BG), ds[i]? = some p → BldAt w p.1 p.2
  bl : ∀ (i : Nat) (p : Nat × Gh) (x : Nat), bs[i]? = some p → p.2.foot p.1 x → base ≤ x ∧ lab x = 2 * i
  dl : ∀ (i : Nat) (p : Nat × BG) (x : Nat), ds[i]? = some p → p.2.foot p.1 x → base ≤ x ∧ lab x = 2 * i + 1
def YardAt (w : World) (base yb : Nat) (bs : List (Nat × Gh)) (ds : List (Nat × BG)) : Prop := ∃ A c A' c' lab, YardC w base yb A c A' c' lab bs ds

theorem BufAt.foot_typed {w : World} {b x : Nat} {g : Gh} (h : BufAt w b g) (hx : g.foot b x) : Typed w x 96 ∨ Typed w x 5 := by
  rcases hx with rfl | hr
  · exact .inl ⟨_, _, h.st⟩
  · obtain ⟨fz, h1, _⟩ := h.row x hr
    exact .inr ⟨_, _, h1⟩
theorem BldAt.foot_typed {w : World} {d x : Nat} {g : BG} (h : BldAt w d g) (hx : g.foot d x) : Typed w x 90 ∨ Typed w x 5 := by
  rcases hx with rfl | hr
  · exact .inl ⟨_, _, h.st⟩
  · obtain ⟨rest, fz, h1, _⟩ := h.row x hr
    exact .inr ⟨_, _, h1⟩
theorem BldAt.foot_lt {w : World} {d x : Nat} {g : BG} (h : BldAt w d g) (hx : g.foot d x) : x < w.heap.size := by
  rcases h.foot_typed hx with ⟨cs, fz, k⟩ | ⟨cs, fz, k⟩ <;> exact lt_of_blk k

section
variable {w w' : World} {base yb : Nat} {A : Option Addr} {c : Nat} {A' : Option Addr} {c' : Nat} {lab lab' : Nat → Nat} {bs bs' : List (Nat × Gh)} {ds ds' : List (Nat × BG)}
theorem YardC.bfoot (h : YardC w base yb A c A' c' lab bs ds) {i : Nat} {p : Nat × Gh} {x : Nat} (hi : bs[i]? = some p) (hx : p.2.foot p.1 x) : ydS w base x :=
  ⟨(h.bl i p x hi hx).1, ((h.ba i p hi).foot_typed hx).imp id fun q => .inr q⟩
theorem YardC.dfoot (h : YardC w base yb A c A' c' lab bs ds) {i : Nat} {p : Nat × BG} {x : Nat} (hi : ds[i]? = some p) (hx : p.2.foot p.1 x) : ydS w base x :=
  ⟨(h.dl i p x hi hx).1, .inr ((h.da i p hi).foot_typed hx)⟩
theorem ydS.not_typed {x : Nat} {T : TypeId} (h : ydS w base x) (hT : Typed w x T) (h1 : T ≠ 96) (h2 : T ≠ 90) (h3 : T ≠ 5) : False := by
  rcases h.2 with q | q | q
  · exact hT.ne h1 q
  · exact hT.ne h2 q
  · exact hT.ne h3 q
/-- Some of its buffers and builders have been changed. -/
theorem YardC.upd {S : Nat → Prop} (h : YardC w base yb A c A' c' lab bs ds) (hf : Fr S w w') (hS : ∀ x, x < w.heap.size → S x → ydS w base x) (hbn : bs'.length = bs.length) (hdn : ds'.length = ds.length)
    (hb : ∀ (i : Nat) (p' : Nat × Gh), bs'[i]? = some p' → BufAt w' p'.1 p'.2 ∧ (∀ p, bs[i]? = some p → p'.1 = p.1) ∧ ∀ x, p'.2.foot p'.1 x → base ≤ x ∧ lab' x = 2 * i)
    (hd : ∀ (i : Nat) (p' : Nat × BG), ds'[i]? = some p' → BldAt w' p'.1 p'.2 ∧ (∀ p, ds[i]? = some p → p'.1 = p.1) ∧ ∀ x, p'.2.foot p'.1 x → base ≤ x ∧ lab' x = 2 * i + 1) : YardC w' base yb A c A' c' lab' bs' ds' := by
  have hkeep : ∀ {x : Nat} {T : TypeId}, Typed w x T → T ≠ 96 → T ≠ 90 → T ≠ 5 → w'.heap[x]? = w.heap[x]? := by
    intro x T hT h1 h2 h3
    have hlt : x < w.heap.size := by obtain ⟨_, _, k⟩ := hT; exact lt_of_blk k
    exact hf.block x hlt fun q => (hS x hlt q).not_typed hT h1 h2 h3
  refine ⟨h.bb, Nat.le_trans h.bw hf.size, ?_, fun i p' hp => ?_, fun i p' hp => ?_, fun i p' hp => (hb i p' hp).1, fun i p' hp => (hd i p' hp).1, fun i p' x hp hx => (hb i p' hp).2.2 x hx, fun i p' x hp hx => (hd i p' hp).2.2 x hx⟩
  · rw [hbn, hdn]
    exact (hkeep ⟨_, _, h.st⟩ (by decide) (by decide) (by decide)).trans h.st
  · have hi : i < bs.length := by rw [← hbn]; exact (List.getElem?_eq_some_iff.1 hp).1
    obtain ⟨r, hA, hT, hc⟩ := h.bp i _ (List.getElem?_eq_getElem hi)
    have hk := hkeep hT (by decide) (by decide) (by decide)
    refine ⟨r, hA, ?_, ?_⟩
    · obtain ⟨cs, fz, k⟩ := hT
      exact ⟨cs, fz, hk.trans k⟩
    · rw [(hb i p' hp).2.1 _ (List.getElem?_eq_getElem hi)]
      exact (World.cell?_of_block hk).trans hc
  · have hi : i < ds.length := by rw [← hdn]; exact (List.getElem?_eq_some_iff.1 hp).1
    obtain ⟨r, hA, hT, hc⟩ := h.dp i _ (List.getElem?_eq_getElem hi)
    have hk := hkeep hT (by decide) (by decide) (by decide)
    refine ⟨r, hA, ?_, ?_⟩
    · obtain ⟨cs, fz, k⟩ := hT
      exact ⟨cs, fz, hk.trans k⟩
    · rw [(hd i p' hp).2.1 _ (List.getElem?_eq_getElem hi)]
      exact (World.cell?_of_block hk).trans hc
/-- Two buffers lie apart. -/
theorem YardC.apart (h : YardC w base yb A c A' c' lab bs ds) {i j : Nat} {p q : Nat × Gh} (hi : bs[i]? = some p) (hj : bs[j]? = some q) (hne : i ≠ j) : Apart p.1 p.2 q.1 q.2 := by
  refine ⟨fun e => ?_, fun r h1 h2 => ?_⟩
  · have k1 := (h.bl i p p.1 hi (.inl rfl)).2
    have k2 := (h.bl j q p.1 hj (.inl e)).2
    omega
  · have k1 := (h.bl i p r hi (.inr h1)).2
    have k2 := (h.bl j q r hj (.inr h2)).2
    omega
end

/-- A step of all: the yard as it is then, and what of the old blocks was written. -/
structure YardStep (w : World) (base yb : Nat) (w' : World) (bs' : List (Nat × Gh)) (ds' : List (Nat × BG)) : Prop where
  at' : YardAt w' base yb bs' ds'
  fr : Fr (ydS w base) w w'

/-- Who owns a block: what is new is the item's. -/
def labNew (w : World) (lab : Nat → Nat) (k x : Nat) : Nat := if x < w.heap.size then lab x else k
theorem labNew_old {w : World} {lab : Nat → Nat} {k x : Nat} (h : x < w.heap.size) : labNew w lab k x = lab x := if_pos h
theorem labNew_new {w : World} {lab : Nat → Nat} {k x : Nat} (h : w.heap.size ≤ x) : labNew w lab k x = k := if_neg (by omega)

section
variable {w w' : World} {base yb : Nat} {bs : List (Nat × Gh)} {ds : List (Nat × BG)}
/-- Two buffers have been changed (or one), blocks of the first one may be new. -/
theorem YardAt.two {i j : Nat} {b b2 : Nat} {g g' g2 g2' : Gh} (h : YardAt w base yb bs ds) (hi : bs[i]? = some (b, g)) (hj : bs[j]? = some (b2, g2)) (hij : i ≠ j) (h1 : BufAt w' b g') (h2 : BufAt w' b2 g2')
    (r1 : g'.row = g.row ∨ ∃ r, g'.row = some r ∧ w.heap.size ≤ r) (r2 : g2'.row = g2.row) (hf : Fr (fun x => g.foot b x ∨ g2.foot b2 x) w w') : YardStep w base yb w' ((bs.set i (b, g')).set j (b2, g2')) ds := by
  obtain ⟨A, c, A', c', lab, h⟩ := h
  have hS : ∀ x, x < w.heap.size → (g.foot b x ∨ g2.foot b2 x) → ydS w base x := fun x _ q => q.elim (fun q => h.bfoot hi q) (fun q => h.bfoot hj q)
  have li : i < bs.length := (List.getElem?_eq_some_iff.1 hi).1
  have lj : j < bs.length := (List.getElem?_eq_some_iff.1 hj).1
  refine ⟨⟨A, c, A', c', labNew w lab (2 * i), h.upd hf hS (by simp) rfl (fun k p' hp => ?_) (fun k p' hp => ?_)⟩, hf.mono hS⟩
  · by_cases hkj : k = j
    · subst hkj
      rw [List.getElem?_set_self (by simpa using lj)] at hp
      injection hp with hp
      subst hp
      refine ⟨h2, fun p hp => by rw [hj] at hp; injection hp with hp; rw [← hp], fun x hx => ?_⟩
      have hx' : g2.foot b2 x := by
        rcases hx with q | q
        · exact .inl q
        · exact .inr (by rw [← r2]; exact q)
      rw [labNew_old ((h.ba k _ hj).foot_lt hx')]
      exact h.bl k _ x hj hx'
    · rw [List.getElem?_set_ne (by omega)] at hp
      by_cases hki : k = i
      · subst hki
        rw [List.getElem?_set_self li] at hp
        injection hp with hp
        subst hp
        refine ⟨h1, fun p hp => by rw [hi] at hp; injection hp with hp; rw [← hp], fun x hx => ?_⟩
        rcases Nat.lt_or_ge x w.heap.size with hlt | hge
        · have hx' : g.foot b x := by
            rcases hx with q | q
            · exact .inl q
            · rcases r1 with e | ⟨r, e, hr⟩
              · exact .inr (by rw [← e]; exact q)
              · have q : g'.row = some x := q
                rw [e] at q
                injection q with q
                omega
          rw [labNew_old hlt]
          exact h.bl k _ x hi hx'
        · rw [labNew_new hge]
          exact ⟨Nat.le_trans h.bw hge, rfl⟩
      · rw [List.getElem?_set_ne (by omega)] at hp
        refine ⟨(h.ba k p' hp).fr hf (fun x hx q => ?_), fun p hp' => by rw [hp] at hp'; injection hp' with hp'; rw [hp'], fun x hx => ?_⟩
        · have k0 := (h.bl k p' x hp hx).2
          rcases q with q | q
          · have := (h.bl i _ x hi q).2; omega
          · have := (h.bl j _ x hj q).2; omega
        · rw [labNew_old ((h.ba k p' hp).foot_lt hx)]
          exact h.bl k p' x hp hx
  · refine ⟨(h.da k p' hp).fr hf (fun x hx q => ?_), fun p hp' => by rw [hp] at hp'; injection hp' with hp'; rw [hp'], fun x hx => ?_⟩
    · have k0 := (h.dl k p' x hp hx).2
      rcases q with q | q
      · have := (h.bl i _ x hi q).2; omega
      · have := (h.bl j _ x hj q).2; omega
    · rw [labNew_old ((h.da k p' hp).foot_lt hx)]
      exact h.dl k p' x hp hx

/-- One buffer has been changed. -/
theorem YardAt.one {i : Nat} {b : Nat} {g g' : Gh} (h : YardAt w base yb bs ds) (hi : bs[i]? = some (b, g)) (S : BufStep w b g w' g') : YardStep w base yb w' (bs.set i (b, g')) ds := by
  obtain ⟨A, c, A', c', lab, h⟩ := h
  have hS : ∀ x, x < w.heap.size → g.foot b x → ydS w base x := fun x _ q => h.bfoot hi q
  have li : i < bs.length := (List.getElem?_eq_some_iff.1 hi).1
  refine ⟨⟨A, c, A', c', labNew w lab (2 * i), h.upd S.fr hS (by simp) rfl (fun k p' hp => ?_) (fun k p' hp => ?_)⟩, S.fr.mono hS⟩
  · by_cases hki : k = i
    · subst hki
      rw [List.getElem?_set_self li] at hp
      injection hp with hp
      subst hp
      refine ⟨S.at', fun p hp => by rw [hi] at hp; injection hp with hp; rw [← hp], fun x hx => ?_⟩
      rcases Nat.lt_or_ge x w.heap.size with hlt | hge
      · have hx' : g.foot b x := by
          rcases hx with q | q
          · exact .inl q
          · rcases S.row with e | ⟨r, e, hr⟩
            · exact .inr (by rw [← e]; exact q)
            · have q : g'.row = some x := q
              rw [e] at q
              injection q with q
              omega
        rw [labNew_old hlt]
        exact h.bl k _ x hi hx'
      · rw [labNew_new hge]
        exact ⟨Nat.le_trans h.bw hge, rfl⟩
    · rw [List.getElem?_set_ne (by omega)] at hp
      refine ⟨(h.ba k p' hp).fr S.fr (fun x hx q => ?_), fun p hp' => by rw [hp] at hp'; injection hp' with hp'; rw [hp'], fun x hx => ?_⟩
      · have k0 := (h.bl k p' x hp hx).2
        have := (h.bl i _ x hi q).2; omega
      · rw [labNew_old ((h.ba k p' hp).foot_lt hx)]
        exact h.bl k p' x hp hx
  · refine ⟨(h.da k p' hp).fr S.fr (fun x hx q => ?_), fun p hp' => by rw [hp] at hp'; injection hp' with hp'; rw [hp'], fun x hx => ?_⟩
    · have k0 := (h.dl k p' x hp hx).2
      have := (h.bl i _ x hi q).2; omega
    · rw [labNew_old ((h.da k p' hp).foot_lt hx)]
      exact h.dl k p' x hp hx

/-- One builder has been changed. -/
theorem YardAt.oneB {j : Nat} {d : Nat} {e e' : BG} (h : YardAt w base yb bs ds) (hj : ds[j]? = some (d, e)) (S : BldStep w d e w' e') : YardStep w base yb w' bs (ds.set j (d, e')) := by
  obtain ⟨A, c, A', c', lab, h⟩ := h
  have hS : ∀ x, x < w.heap.size → e.foot d x → ydS w base x := fun x _ q => h.dfoot hj q
  have lj : j < ds.length := (List.getElem?_eq_some_iff.1 hj).1
  refine ⟨⟨A, c, A', c', labNew w lab (2 * j + 1), h.upd S.fr hS rfl (by simp) (fun k p' hp => ?_) (fun k p' hp => ?_)⟩, S.fr.mono hS⟩
  · refine ⟨(h.ba k p' hp).fr S.fr (fun x hx q => ?_), fun p hp' => by rw [hp] at hp'; injection hp' with hp'; rw [hp'], fun x hx => ?_⟩
    · have k0 := (h.bl k p' x hp hx).2
      have := (h.dl j _ x hj q).2; omega
    · rw [labNew_old ((h.ba k p' hp).foot_lt hx)]
      exact h.bl k p' x hp hx
  · by_cases hkj : k = j
    · subst hkj
      rw [List.getElem?_set_self lj] at hp
      injection hp with hp
      subst hp
      refine ⟨S.at', fun p hp => by rw [hj] at hp; injection hp with hp; rw [← hp], fun x hx => ?_⟩
      rcases Nat.lt_or_ge x w.heap.size with hlt | hge
      · have hx' : e.foot d x := by
          rcases hx with q | q
          · exact .inl q
          · have q : e'.row = some x := q
            rcases S.row with k | k | ⟨r, k, hr⟩
            · exact .inr (by rw [← k]; exact q)
            · rw [k] at q; cases q
            · rw [k] at q
              injection q with q
              omega
        rw [labNew_old hlt]
        exact h.dl k _ x hj hx'
      · rw [labNew_new hge]
        exact ⟨Nat.le_trans h.bw hge, rfl⟩
    · rw [List.getElem?_set_ne (by omega)] at hp
      refine ⟨(h.da k p' hp).fr S.fr (fun x hx q => ?_), fun p hp' => by rw [hp] at hp'; injection hp' with hp'; rw [hp'], fun x hx => ?_⟩
      · have k0 := (h.dl k p' x hp hx).2
        have := (h.dl j _ x hj q).2; omega
      · rw [labNew_old ((h.da k p' hp).foot_lt hx)]
        exact h.dl k p' x hp hx

/-- Nothing that it has was changed. -/
theorem YardAt.fr {S : Nat → Prop} (h : YardAt w base yb bs ds) (hf : Fr S w w') (hS : ∀ x, x < w.heap.size → S x → x < base ∨ ∃ T, Typed w x T ∧ T ≠ 96 ∧ T ≠ 90 ∧ T ≠ 5 ∧ T ≠ 71 ∧ T ≠ 72 ∧ T ≠ 74) (hp : ∀ x, Typed w x 72 ∨ Typed w x 74 → ¬ S x) : YardAt w' base yb bs ds := by
  obtain ⟨A, c, A', c', lab, h⟩ := h
  have no : ∀ x, x < w.heap.size → ydS w base x → ¬ S x := fun x hx q k => by
    rcases hS x hx k with k | ⟨T, hT, h1, h2, h3, _⟩
    · have := q.1; omega
    · exact q.not_typed hT h1 h2 h3
  have hst : ¬ S yb := fun k => by
    rcases hS yb (lt_of_blk h.st) k with k | ⟨T, hT, _, _, _, h4, _⟩
    · have := h.bb; omega
    · exact hT.ne h4 ⟨_, _, h.st⟩
  refine ⟨A, c, A', c', lab, h.bb, Nat.le_trans h.bw hf.size, hf.blk h.st hst, fun i p hi => ?_, fun i p hi => ?_, fun i p hi => (h.ba i p hi).fr hf (fun x hx => no x ((h.ba i p hi).foot_lt hx) (h.bfoot hi hx)), fun i p hi => (h.da i p hi).fr hf (fun x hx => no x ((h.da i p hi).foot_lt hx) (h.dfoot hi hx)), h.bl, h.dl⟩
  · obtain ⟨r, hA, hT, hc⟩ := h.bp i p hi
    refine ⟨r, hA, ?_, ?_⟩
    · obtain ⟨cs, fz, k⟩ := hT
      exact ⟨cs, fz, hf.blk k (hp r (.inl ⟨cs, fz, k⟩))⟩
    · exact (hf.cell (World.block_lt_of_cell? _ _ hc) (hp r (.inl hT))).trans hc
  · obtain ⟨r, hA, hT, hc⟩ := h.dp i p hi
    refine ⟨r, hA, ?_, ?_⟩
    · obtain ⟨cs, fz, k⟩ := hT
      exact ⟨cs, fz, hf.blk k (hp r (.inr ⟨cs, fz, k⟩))⟩
    · exact (hf.cell (World.block_lt_of_cell? _ _ hc) (hp r (.inr hT))).trans hc
theorem YardAt.fr0 (h : YardAt w base yb bs ds) (hf : Fr (fun _ => False) w w') : YardAt w' base yb bs ds := h.fr hf (fun _ _ q => q.elim) (fun _ _ q => q)
end
end Go.Proofs.YtbodbajgpgaoeaaGreatDoor

namespace Go.Proofs.YtbodbajgpgaoeaaGreatDoor
open Go Go.RowKit

structure BRel (g : Gh) (s : SB) : Prop where
  txt : g.txt = s.text
  one : s.recent = 1 → g.lr = -1 ∧ 0 < g.off ∧ s.last = (g.all.drop (g.off - 1)).take 1
  rune : s.recent = 2 → g.lr = (s.last.length : Int) ∧ 0 < s.last.length ∧ s.last.length ≤ 4 ∧ s.last.length ≤ g.off ∧ s.last = (g.all.drop (g.off - s.last.length)).take s.last.length
  zero : s.recent = 3 ∨ s.recent = 4 → g.lr = 0
  cut : s.recent = 5 → g.lr = -1
  dom : 0 ≤ s.recent ∧ s.recent ≤ 5

theorem BRel.other {g : Gh} {s : SB} {t : List UInt8} (h : g.txt = t) : BRel g (s.other t) :=
  ⟨h, fun q => absurd q (by simp [SB.other]), fun q => absurd q (by simp [SB.other]), fun q => absurd q (by simp [SB.other]), fun q => absurd q (by simp [SB.other]), by simp [SB.other]⟩
theorem BRel.write {g g' : Gh} {s : SB} {l : List UInt8} (h : BRel g s) (ht : g'.txt = g.txt ++ l) (hl : g'.lr = 0) : BRel g' (s.write l) :=
  ⟨by rw [ht, h.txt]; rfl, fun q => absurd q (by simp [SB.write]), fun q => absurd q (by simp [SB.write]), fun _ => hl, fun q => absurd q (by simp [SB.write]), by simp [SB.write]⟩
theorem BRel.read0 {g g' : Gh} {s : SB} (r : Int) (h : BRel g s) (ht : g'.txt = g.txt) (hl : g'.lr = 0) : BRel g' (s.read 0 r) := by
  simp only [SB.read, if_true]
  exact ⟨by rw [ht, h.txt], fun q => absurd q (by simp), fun q => absurd q (by simp), fun _ => hl, fun q => absurd q (by simp), by simp⟩
theorem txt_part (g : Gh) (k n : Nat) (hl : g.len ≤ g.all.length) (hk : k + n ≤ g.txt.length) : (g.txt.drop k).take n = (g.all.drop (g.off + k)).take n := by
  have := g.txt_length hl
  simp only [Gh.txt, List.drop_drop]
  rw [List.drop_take, List.take_take, Nat.min_eq_left (by omega)]
theorem BRel.read1 {g g' : Gh} {s : SB} {k : Nat} (h : BRel g s) (hl : g.len ≤ g.all.length) (hk : 0 < k) (hkl : k ≤ g.txt.length) (ha : g'.all = g.all) (hn : g'.len = g.len) (ho : g'.off = g.off + k) (hr : g'.lr = -1) : BRel g' (s.read k 1) := by
  have e : k ≠ 0 := by omega
  simp only [SB.read, e, if_false, show ¬ ((1 : Int) = 2) by decide]
  refine ⟨by rw [← h.txt]; simp [Gh.txt, ha, hn, ho, List.drop_drop], fun _ => ⟨hr, by omega, ?_⟩, fun q => absurd q (by simp), fun q => absurd q (by simp), fun q => absurd q (by simp), by simp⟩
  have e2 : g.off + k - 1 = g.off + (k - 1) := by omega
  rw [← h.txt, txt_part g (k - 1) 1 hl (by omega), ha, ho, e2]
theorem BRel.read5 {g g' : Gh} {s : SB} {k : Nat} (h : BRel g s) (hk : 0 < k) (ha : g'.all = g.all) (hn : g'.len = g.len) (ho : g'.off = g.off + k) (hr : g'.lr = -1) : BRel g' (s.read k 5) := by
  have e : k ≠ 0 := by omega
  simp only [SB.read, e, if_false]
  exact ⟨by rw [← h.txt]; simp [Gh.txt, ha, hn, ho, List.drop_drop], fun q => absurd q (by simp), fun q => absurd q (by simp), fun q => absurd q (by simp), fun _ => hr, by simp⟩
theorem BRel.read2 {g g' : Gh} {s : SB} {k : Nat} (h : BRel g s) (hl : g.len ≤ g.all.length) (hk : 0 < k) (hk4 : k ≤ 4) (hkl : k ≤ g.txt.length) (ha : g'.all = g.all) (hn : g'.len = g.len) (ho : g'.off = g.off + k) (hr : g'.lr = (k : Int)) : BRel g' (s.read k 2) := by
  have e : k ≠ 0 := by omega
  simp only [SB.read, e, if_false, if_true]
  have hlen : (s.text.take k).length = k := by rw [← h.txt]; simp; omega
  refine ⟨by rw [← h.txt]; simp [Gh.txt, ha, hn, ho, List.drop_drop], fun q => absurd q (by simp), fun _ => ⟨by simp only [hlen]; exact hr, by simp only [hlen]; exact hk, by simp only [hlen]; exact hk4, by simp only [hlen]; omega, ?_⟩, fun q => absurd q (by simp), fun q => absurd q (by simp), by simp⟩
  simp only [hlen]
  rw [ha, ho, ← h.txt]
  have := txt_part g 0 k hl (by omega)
  simp only [List.drop_zero, Nat.add_zero] at this
  rw [this]
  congr 2
  omega
/-- The bytes ahead of what is unread, taken back. -/
theorem txt_back {g g' : Gh} {k : Nat} (ho : k ≤ g.off) (hol : g.off ≤ g.len) (_hl : g.len ≤ g.all.length) (ha : g'.all = g.all) (hn : g'.len = g.len) (hof : g'.off = g.off - k) : g'.txt = (g.all.drop (g.off - k)).take k ++ g.txt := by
  simp only [Gh.txt, ha, hn, hof]
  have e : (g.all.drop (g.off - k)).take k = ((g.all.take g.len).drop (g.off - k)).take k := by
    rw [List.drop_take, List.take_take, Nat.min_eq_left (by omega)]
  have e2 : (g.all.take g.len).drop g.off = ((g.all.take g.len).drop (g.off - k)).drop k := by
    rw [List.drop_drop]
    congr 1
    omega
  rw [e, e2, List.take_append_drop]
theorem BRel.back1 {g g' : Gh} {s : SB} (h : BRel g s) (hr : s.recent = 1 ∨ s.recent = 2) (hol : g.off ≤ g.len) (hl : g.len ≤ g.all.length) (ha : g'.all = g.all) (hn : g'.len = g.len) (hof : g'.off = g.off - 1) : BRel g' (s.other (s.last.drop (s.last.length - 1) ++ s.text)) := by
  refine BRel.other ?_
  rcases hr with hr | hr
  · obtain ⟨h1, h2, h3⟩ := h.one hr
    rw [txt_back (k := 1) (by omega) hol hl ha hn hof, h.txt, h3]
    have : ((g.all.drop (g.off - 1)).take 1).length = 1 := by simp; omega
    rw [this]
    rfl
  · obtain ⟨h1, h2, h3, h4, h5⟩ := h.rune hr
    rw [txt_back (k := 1) (by omega) hol hl ha hn hof, h.txt]
    congr 1
    generalize s.last.length = k at *
    rw [h5, List.drop_take, List.drop_drop]
    have e1 : k - (k - 1) = 1 := by omega
    have e2 : g.off - k + (k - 1) = g.off - 1 := by omega
    rw [e1, e2]
theorem BRel.back2 {g g' : Gh} {s : SB} (h : BRel g s) (hr : s.recent = 2) (hol : g.off ≤ g.len) (hl : g.len ≤ g.all.length) (ha : g'.all = g.all) (hn : g'.len = g.len) (hof : g'.off = g.off - s.last.length) : BRel g' (s.other (s.last ++ s.text)) := by
  refine BRel.other ?_
  obtain ⟨h1, h2, h3, h4, h5⟩ := h.rune hr
  rw [txt_back (k := s.last.length) h4 hol hl ha hn hof, h.txt]
  congr 1
  exact h5.symm
/-- Nothing that counts was changed. -/
theorem BRel.same {g g' : Gh} {s : SB} (h : BRel g s) (he : g' = g) : BRel g' s := he ▸ h

end Go.Proofs.YtbodbajgpgaoeaaGreatDoor

namespace Go.Proofs.YtbodbajgpgaoeaaGreatDoor
open Go Go.RowKit

structure Rel (bs : List (Nat × Gh)) (ds : List (Nat × BG)) (y : Yd) : Prop where
  bl : bs.length = y.bufs.length
  dl : ds.length = y.blds.length
  b : ∀ (i : Nat) (p : Nat × Gh) (s : SB), bs[i]? = some p → y.bufs[i]? = some s → BRel p.2 s
  d : ∀ (i : Nat) (p : Nat × BG) (s : List UInt8), ds[i]? = some p → y.blds[i]? = some s → p.2.txt = s

theorem Yd.buf_get {y : Yd} {i : Int} (h : inR i y.bufs.length) : y.bufs[i.toNat]? = some (y.buf i) := by
  have : i.toNat < y.bufs.length := by unfold inR at h; omega
  simp [Yd.buf, List.getD, List.getElem?_eq_getElem this]
theorem Yd.bld_get {y : Yd} {i : Int} (h : inR i y.blds.length) : y.blds[i.toNat]? = some (y.bld i) := by
  have : i.toNat < y.blds.length := by unfold inR at h; omega
  simp [Yd.bld, List.getD, List.getElem?_eq_getElem this]
section
variable {bs : List (Nat × Gh)} {ds : List (Nat × BG)} {y : Yd}
theorem Rel.getBuf (h : Rel bs ds y) {i : Int} (hi : inR i y.bufs.length) : ∃ b g, bs[i.toNat]? = some (b, g) ∧ BRel g (y.buf i) := by
  have hl : i.toNat < bs.length := by rw [h.bl]; unfold inR at hi; omega
  exact ⟨_, _, List.getElem?_eq_getElem hl, h.b _ _ _ (List.getElem?_eq_getElem hl) (Yd.buf_get hi)⟩
theorem Rel.getBld (h : Rel bs ds y) {i : Int} (hi : inR i y.blds.length) : ∃ b g, ds[i.toNat]? = some (b, g) ∧ g.txt = y.bld i := by
  have hl : i.toNat < ds.length := by rw [h.dl]; unfold inR at hi; omega
  exact ⟨_, _, List.getElem?_eq_getElem hl, h.d _ _ _ (List.getElem?_eq_getElem hl) (Yd.bld_get hi)⟩
theorem Rel.setBuf (h : Rel bs ds y) (i : Int) {b : Nat} {g : Gh} {s : SB} (hg : BRel g s) : Rel (bs.set i.toNat (b, g)) ds (y.setBuf i s) := by
  refine ⟨by simp [Yd.setBuf, h.bl], h.dl, fun k p s' h1 h2 => ?_, h.d⟩
  simp only [Yd.setBuf] at h2
  by_cases hk : i.toNat = k
  · subst hk
    by_cases hl : i.toNat < bs.length
    · rw [List.getElem?_set_self hl] at h1
      rw [List.getElem?_set_self (by rw [← h.bl]; exact hl)] at h2
      injection h1 with h1
      injection h2 with h2
      subst h1 h2
      exact hg
    · rw [List.getElem?_eq_none (by simp; omega)] at h1
      cases h1
  · rw [List.getElem?_set_ne hk] at h1 h2
    exact h.b k p s' h1 h2
theorem Rel.setBld (h : Rel bs ds y) (i : Int) {d : Nat} {e : BG} {s : List UInt8} (hg : e.txt = s) : Rel bs (ds.set i.toNat (d, e)) (y.setBld i s) := by
  refine ⟨h.bl, by simp [Yd.setBld, h.dl], h.b, fun k p s' h1 h2 => ?_⟩
  simp only [Yd.setBld] at h2
  by_cases hk : i.toNat = k
  · subst hk
    by_cases hl : i.toNat < ds.length
    · rw [List.getElem?_set_self hl] at h1
      rw [List.getElem?_set_self (by rw [← h.dl]; exact hl)] at h2
      injection h1 with h1
      injection h2 with h2
      subst h1 h2
      exact hg
    · rw [List.getElem?_eq_none (by simp; omega)] at h1
      cases h1
  · rw [List.getElem?_set_ne hk] at h1 h2
    exact h.d k p s' h1 h2
end

/-- How long texts are together. -/
def tsum (l : List (List UInt8)) : Nat := (l.map List.length).sum
theorem tsum_nil : tsum [] = 0 := rfl
theorem tsum_cons (a : List UInt8) (l : List (List UInt8)) : tsum (a :: l) = a.length + tsum l := by simp [tsum]
theorem tsum_get : ∀ (l : List (List UInt8)) (i : Nat) (a : List UInt8), l[i]? = some a → ∀ x : List UInt8, tsum (l.set i x) + a.length = tsum l + x.length
  | [], i, a, h, x => by simp at h
  | b :: l, 0, a, h, x => by
    simp only [List.getElem?_cons_zero, Option.some.injEq] at h
    subst h
    simp only [List.set_cons_zero, tsum_cons]
    omega
  | b :: l, i + 1, a, h, x => by
    have := tsum_get l i a (by simpa using h) x
    simp only [List.set_cons_succ, tsum_cons]
    omega
theorem tsum_mem : ∀ (l : List (List UInt8)) (i : Nat) (a : List UInt8), l[i]? = some a → a.length ≤ tsum l
  | [], i, a, h => by simp at h
  | b :: l, 0, a, h => by
    simp only [List.getElem?_cons_zero, Option.some.injEq] at h
    subst h
    rw [tsum_cons]; omega
  | b :: l, i + 1, a, h => by
    have := tsum_mem l i a (by simpa using h)
    rw [tsum_cons]; omega
def Yd.tot (y : Yd) : Nat := tsum y.texts + tsum y.blds
theorem Yd.texts_get {y : Yd} {i : Nat} {s : SB} (h : y.bufs[i]? = some s) : y.texts[i]? = some s.text := by simp [Yd.texts, h]
theorem Yd.texts_set (y : Yd) (i : Int) (s : SB) : (y.setBuf i s).texts = y.texts.set i.toNat s.text := by simp [Yd.texts, Yd.setBuf, List.map_set]
theorem Yd.tot_setBuf {y : Yd} {i : Int} (h : inR i y.bufs.length) (s : SB) : (y.setBuf i s).tot + (y.buf i).text.length = y.tot + s.text.length := by
  have := tsum_get y.texts i.toNat _ (Yd.texts_get (Yd.buf_get h)) s.text
  unfold Yd.tot
  rw [Yd.texts_set]
  simp only [Yd.setBuf]
  omega
theorem Yd.tot_setBld {y : Yd} {i : Int} (h : inR i y.blds.length) (s : List UInt8) : (y.setBld i s).tot + (y.bld i).length = y.tot + s.length := by
  have := tsum_get y.blds i.toNat _ (Yd.bld_get h) s
  unfold Yd.tot
  simp only [Yd.setBld, Yd.texts] at *
  omega
theorem Yd.buf_le {y : Yd} {i : Int} (h : inR i y.bufs.length) : (y.buf i).text.length ≤ y.tot := by
  have := tsum_mem y.texts i.toNat _ (Yd.texts_get (Yd.buf_get h))
  unfold Yd.tot
  omega
theorem Yd.bld_le {y : Yd} {i : Int} (h : inR i y.blds.length) : (y.bld i).length ≤ y.tot := by
  have := tsum_mem y.blds i.toNat _ (Yd.bld_get h)
  unfold Yd.tot
  omega
theorem Yd.two_le {y : Yd} {i j : Int} (h : inR i y.bufs.length) (k : inR j y.bufs.length) (hij : i ≠ j) : (y.buf i).text.length + (y.buf j).text.length ≤ y.tot := by
  have h1 := Yd.tot_setBuf h (SB.other SB.zero [])
  have hk : inR j (y.setBuf i (SB.other SB.zero [])).bufs.length := by simpa [Yd.setBuf] using k
  have h2 := Yd.buf_le hk
  have e : (y.setBuf i (SB.other SB.zero [])).buf j = y.buf j := by
    have : i.toNat ≠ j.toNat := by unfold inR at h k; omega
    simp [Yd.setBuf, Yd.buf, List.getD, List.getElem?_set_ne this]
  rw [e] at h2
  have e1 : (SB.other SB.zero []).text.length = 0 := rfl
  rw [e1] at h1
  omega
theorem enc_le (r : Int) : (enc r).length ≤ 4 := by
  unfold enc
  split
  · simp
  · unfold Lib.encodeRune
    rw [List.length_map]
    unfold Lib.encodeRuneZ
    repeat' split
    all_goals simp
end Go.Proofs.YtbodbajgpgaoeaaGreatDoor

namespace Go.Proofs.YtbodbajgpgaoeaaGreatDoor
open Go Go.RowKit

theorem SB.read_len (b : SB) (n : Nat) (r : Int) (hr : r = 2 → n ≤ 4) : (b.read n r).text.length ≤ b.text.length ∧ (b.read n r).last.length ≤ 4 := by
  unfold SB.read
  by_cases hn : n = 0
  · simp [hn]
  · rw [if_neg hn]
    refine ⟨by simp, ?_⟩
    by_cases h2 : r = 2
    · simp only [h2, if_true, List.length_take]
      have := hr h2
      omega
    · simp only [h2, if_false, List.length_take]
      omega
theorem SB.reads_len (b : SB) (c : Cl) : (b.reads c).1.text.length ≤ b.text.length ∧ (b.reads c).1.last.length ≤ 4 := by
  unfold SB.reads
  simp only
  repeat' split
  all_goals first
    | exact b.read_len _ _ (fun q => absurd q (by decide))
    | exact b.read_len 0 2 (fun _ => by decide)
    | exact ⟨Nat.zero_le _, Nat.zero_le _⟩
    | (rename_i h; exact b.read_len _ 2 (fun _ => (dec_le b.text h).2.2))
theorem SB.look_len (b : SB) (c : Cl) (h : b.last.length ≤ 4) : (b.look c).1.text.length ≤ b.text.length ∧ (b.look c).1.last.length ≤ 4 := by
  unfold SB.look
  simp only
  repeat' split
  all_goals first
    | exact ⟨Nat.le_refl _, h⟩
    | exact ⟨Nat.le_refl _, Nat.zero_le _⟩
    | (constructor
       · (simp [SB.other] <;> omega)
       · exact Nat.zero_le _)
theorem SB.back_len (b : SB) (c : Cl) (h : b.last.length ≤ 4) : (b.back c).1.text.length ≤ b.text.length + 4 ∧ (b.back c).1.last.length ≤ 4 := by
  unfold SB.back
  repeat' split
  all_goals first
    | exact ⟨Nat.le_add_right _ _, h⟩
    | (constructor
       · (simp [SB.other] <;> omega)
       · exact Nat.zero_le _)
theorem SB.do_len (b : SB) (c : Cl) (h : b.last.length ≤ 4) : (b.do c).1.text.length ≤ b.text.length + c.text.length + 4 ∧ (b.do c).1.last.length ≤ 4 := by
  have he := enc_le c.char
  have h1 := b.reads_len c
  have h2 := b.look_len c h
  have h3 := b.back_len c h
  unfold SB.do
  repeat' split
  all_goals first
    | exact ⟨Nat.le_trans h1.1 (Nat.le_trans (Nat.le_add_right _ _) (Nat.le_add_right _ _)), h1.2⟩
    | exact ⟨Nat.le_trans h2.1 (Nat.le_trans (Nat.le_add_right _ _) (Nat.le_add_right _ _)), h2.2⟩
    | exact ⟨Nat.le_trans h3.1 (Nat.add_le_add_right (Nat.le_add_right _ _) _), h3.2⟩
    | exact ⟨Nat.le_trans (Nat.le_add_right _ _) (Nat.le_add_right _ _), h⟩
    | (constructor
       · (simp [SB.other, SB.write] <;> omega)
       · exact Nat.zero_le _)
theorem putS_len (s : List UInt8) (c : Cl) : (putS s c).1.length ≤ s.length + c.text.length + 4 := by
  have he := enc_le c.char
  unfold putS
  repeat' split
  all_goals (simp <;> omega)

/-- What a read returned last is short. -/
def Yd.ok (y : Yd) : Prop := ∀ (i : Nat) (s : SB), y.bufs[i]? = some s → s.last.length ≤ 4
theorem Yd.ok.buf {y : Yd} (h : y.ok) {i : Int} (hi : inR i y.bufs.length) : (y.buf i).last.length ≤ 4 := h _ _ (Yd.buf_get hi)
theorem Yd.ok.setBuf {y : Yd} (h : y.ok) (i : Int) {s : SB} (hs : s.last.length ≤ 4) : (y.setBuf i s).ok := by
  intro k t ht
  simp only [Yd.setBuf, List.getElem?_set] at ht
  split at ht
  · split at ht
    · injection ht with ht
      subst ht
      exact hs
    · cases ht
  · exact h k t ht
theorem Yd.ok.setBld {y : Yd} (h : y.ok) (i : Int) (s : List UInt8) : (y.setBld i s).ok := h
theorem Yd.setBuf_len (y : Yd) (i : Int) (s : SB) : (y.setBuf i s).bufs.length = y.bufs.length := by simp [Yd.setBuf]
theorem Yd.buf_set_ne {y : Yd} {i j : Int} (hi : 0 ≤ i) (hj : 0 ≤ j) (h : i ≠ j) (s : SB) : (y.setBuf i s).buf j = y.buf j := by
  have : i.toNat ≠ j.toNat := by omega
  simp [Yd.setBuf, Yd.buf, List.getD, List.getElem?_set_ne this]

theorem Yd.flow_len {y : Yd} (c : Cl) (h : y.ok) (ha : inR c.a y.bufs.length) : (y.flow c).1.ok ∧ (y.flow c).1.tot ≤ y.tot + c.text.length ∧ (y.flow c).1.bufs.length = y.bufs.length ∧ (y.flow c).1.blds.length = y.blds.length := by
  unfold Yd.flow
  simp only
  split
  · split
    · exact ⟨h, Nat.le_add_right _ _, rfl, rfl⟩
    · have := Yd.tot_setBuf ha ((y.buf c.a).other [])
      refine ⟨h.setBuf _ (by simp [SB.other]), ?_, by simp [Yd.setBuf], rfl⟩
      simp [SB.other] at this ⊢
      omega
  · split
    · have := Yd.tot_setBuf ha ((y.buf c.a).other ((y.buf c.a).text ++ c.text))
      refine ⟨h.setBuf _ (by simp [SB.other]), ?_, by simp [Yd.setBuf], rfl⟩
      simp [SB.other] at this ⊢
      omega
    · split
      · split
        · rename_i hb
          have h1 := Yd.tot_setBuf ha ((y.buf c.a).other [])
          have hb' : inR c.b (y.setBuf c.a ((y.buf c.a).other [])).blds.length := hb
          have h2 := Yd.tot_setBld hb' (y.bld c.b ++ (y.buf c.a).text)
          have e : (y.setBuf c.a ((y.buf c.a).other [])).bld c.b = y.bld c.b := rfl
          rw [e] at h2
          refine ⟨(h.setBuf _ (by simp [SB.other])).setBld _ _, ?_, by simp [Yd.setBuf, Yd.setBld], by simp [Yd.setBuf, Yd.setBld]⟩
          simp [SB.other] at h1 h2 ⊢
          omega
        · exact ⟨h, Nat.le_add_right _ _, rfl, rfl⟩
      · split
        · rename_i hb
          obtain ⟨hb, hne⟩ := hb
          split
          · have h1 := Yd.tot_setBuf ha ((y.buf c.a).other ((y.buf c.a).text ++ (y.buf c.b).text))
            have hb' : inR c.b (y.setBuf c.a ((y.buf c.a).other ((y.buf c.a).text ++ (y.buf c.b).text))).bufs.length := by rw [Yd.setBuf_len]; exact hb
            have h2 := Yd.tot_setBuf hb' ((y.buf c.b).other [])
            rw [Yd.buf_set_ne ha.1 hb.1 hne] at h2
            refine ⟨(h.setBuf _ (by simp [SB.other])).setBuf _ (by simp [SB.other]), ?_, by simp [Yd.setBuf], rfl⟩
            simp [SB.other] at h1 h2 ⊢
            omega
          · have h1 := Yd.tot_setBuf ha ((y.buf c.a).other [])
            have hb' : inR c.b (y.setBuf c.a ((y.buf c.a).other [])).bufs.length := by rw [Yd.setBuf_len]; exact hb
            have h2 := Yd.tot_setBuf hb' (if (y.buf c.a).text = [] then (y.buf c.b).other (y.buf c.b).text else (y.buf c.b).write (y.buf c.a).text)
            rw [Yd.buf_set_ne ha.1 hb.1 hne] at h2
            refine ⟨(h.setBuf _ (by simp [SB.other])).setBuf _ (by split <;> simp [SB.other, SB.write]), ?_, by simp [Yd.setBuf], rfl⟩
            have h3 : (if (y.buf c.a).text = [] then (y.buf c.b).other (y.buf c.b).text else (y.buf c.b).write (y.buf c.a).text).text.length ≤ (y.buf c.b).text.length + (y.buf c.a).text.length := by
              split <;> simp [SB.other, SB.write]
            simp [SB.other] at h1 h2 ⊢
            simp [SB.other] at h3
            omega
        · exact ⟨h, Nat.le_add_right _ _, rfl, rfl⟩

/-- What a call does to the sizes. -/
structure Yd.Kept (y y' : Yd) (n : Nat) : Prop where
  ok : y'.ok
  tot : y'.tot ≤ y.tot + n
  bl : y'.bufs.length = y.bufs.length
  dl : y'.blds.length = y.blds.length
theorem Yd.do_kept {y : Yd} (c : Cl) (h : y.ok) : y.Kept (y.do c).1 (c.text.length + 4) := by
  have same : y.Kept y (c.text.length + 4) := ⟨h, by omega, rfl, rfl⟩
  unfold Yd.do
  split
  · exact same
  · split
    · split
      · rename_i hb
        have h1 := Yd.tot_setBld hb (putS (y.bld c.a) c).1
        have h2 := putS_len (y.bld c.a) c
        exact ⟨h, by simp only; omega, rfl, by simp [Yd.setBld]⟩
      · exact same
    · split
      · rename_i hb
        split
        · obtain ⟨h1, h2, h3, h4⟩ := Yd.flow_len c h hb
          exact ⟨h1, by omega, h3, h4⟩
        · have h1 := (y.buf c.a).do_len c (h.buf hb)
          have h2 := Yd.tot_setBuf hb ((y.buf c.a).do c).1
          exact ⟨h.setBuf _ h1.2, by simp only; omega, by simp [Yd.setBuf], rfl⟩
      · exact same
end Go.Proofs.YtbodbajgpgaoeaaGreatDoor

namespace Go.Proofs.YtbodbajgpgaoeaaGreatDoor
open Go Go.RowKit

theorem Yd.ext' {y z : Yd} (h1 : y.bufs = z.bufs) (h2 : y.blds = z.blds) : y = z := by
  cases y; cases z; simp_all
/-- A script that the reference settles, and in which nothing panics. -/
def Mild : Yd → List Cl → Prop
  | _, [] => True
  | y, c :: l => (y.do c).2.2 = true ∧ (y.do c).2.1.said ≠ 3 ∧ Mild (y.do c).1 l
theorem calm_mild : ∀ (l : List Cl) (y : Yd), Mild y (calmF y l)
  | [], _ => trivial
  | c :: l, y => by
    simp only [calmF]
    split
    · rename_i h
      exact ⟨h.1, h.2, calm_mild l _⟩
    · exact calm_mild l y
theorem Mild.len : ∀ (l : List Cl) (y : Yd), Mild y l → (runF y l).1.length = l.length
  | [], _, _ => rfl
  | c :: l, y, h => by
    simp only [runF]
    rw [if_neg h.2.1]
    simp [Mild.len l _ h.2.2]
theorem calm_len : ∀ (l : List Cl) (y : Yd), (calmF y l).length ≤ l.length
  | [], _ => Nat.le_refl _
  | c :: l, y => by
    simp only [calmF]
    split
    · have := calm_len l (y.do c).1
      simp; omega
    · have := calm_len l y
      simp; omega

/-- How much a script can write. -/
def wsum (l : List Cl) : Nat := (l.map fun c => c.text.length + 4).sum
theorem wsum_cons (c : Cl) (l : List Cl) : wsum (c :: l) = c.text.length + 4 + wsum l := by simp [wsum]
theorem wsum_append (l m : List Cl) : wsum (l ++ m) = wsum l + wsum m := by simp [wsum]
theorem wsum_calm : ∀ (l : List Cl) (y : Yd), wsum (calmF y l) ≤ wsum l
  | [], _ => Nat.le_refl _
  | c :: l, y => by
    simp only [calmF]
    split
    · have := wsum_calm l (y.do c).1
      simp only [wsum_cons]; omega
    · have := wsum_calm l y
      simp only [wsum_cons]; omega
theorem calm_mem : ∀ (l : List Cl) (y : Yd), ∀ c ∈ calmF y l, c ∈ l
  | [], _, c, h => h
  | d :: l, y, c, h => by
    simp only [calmF] at h
    split at h
    · rcases List.mem_cons.1 h with h | h
      · simp [h]
      · exact List.mem_cons_of_mem _ (calm_mem l _ c h)
    · exact List.mem_cons_of_mem _ (calm_mem l y c h)
end Go.Proofs.YtbodbajgpgaoeaaGreatDoor

namespace Go.Proofs.YtbodbajgpgaoeaaGreatDoor
open Go Go.RowKit

/-- A call as the code has it. -/
def Cl.cells (c : Cl) : List Value := [.int .i64 c.op, .int .i64 c.a, .int .i64 c.b, .int .u16 (c.size : Int), .int .i64 c.n, .int .u8 (c.sign.toNat : Int), .int .i32 c.char, .string ⟨c.text.toArray⟩, .slice c.ad c.cuts.length c.cap]
def Cl.val (c : Cl) : Value := .agg c.cells.toArray
/-- What a call tells, as the code has it. -/
def Td.cells (t : Td) : List Value := [.int .i64 t.n, .string ⟨t.text.toArray⟩, .int .i32 t.char, .int .i64 t.said]
def Td.val (t : Td) : Value := .agg t.cells.toArray

def WDPost (w : World) (b : Nat) (g : Gh) (t : Td) (R : Gh → Prop) (e : Ending) (w' : World) : Prop :=
  ∃ g', e = .returned t.val ∧ BufStep w b g w' g' ∧ R g'

/-- The cells of what a call tells. -/
abbrev toldZ : Array Value := #[.int .i64 0, .string ⟨#[]⟩, .int .i32 0, .int .i64 0]
structure ToldAt (w : World) (x : Nat) : Prop where
  st : w.heap[x]? = some (.cells toldZ 39 (0, 0))
theorem ToldAt.c0 {w : World} {x : Nat} (h : ToldAt w x) : w.cell? ⟨x, 0, none⟩ = some (.int .i64 0) := by rw [cell_of_row w x 0 _ _ _ h.st]; rfl
theorem ToldAt.c1 {w : World} {x : Nat} (h : ToldAt w x) : w.cell? ⟨x, 1, none⟩ = some (.string ⟨#[]⟩) := by rw [cell_of_row w x 1 _ _ _ h.st]; rfl
theorem ToldAt.c2 {w : World} {x : Nat} (h : ToldAt w x) : w.cell? ⟨x, 2, none⟩ = some (.int .i32 0) := by rw [cell_of_row w x 2 _ _ _ h.st]; rfl
theorem ToldAt.c3 {w : World} {x : Nat} (h : ToldAt w x) : w.cell? ⟨x, 3, none⟩ = some (.int .i64 0) := by rw [cell_of_row w x 3 _ _ _ h.st]; rfl
theorem ToldAt.f {w : World} {x : Nat} (h : ToldAt w x) (i : Nat) : w.frozen? ⟨x, i, none⟩ = false := by simp [World.frozen?, h.st]
theorem ToldAt.new (w : World) : ToldAt (w.alloc (.cells toldZ 39)) w.heap.size := ⟨heap_alloc_new w _⟩
theorem ToldAt.new2 (w : World) (o : Obj) : ToldAt ((w.alloc o).alloc (.cells toldZ 39)) (w.heap.size + 1) := by have := ToldAt.new (w.alloc o); simpa using this
theorem ToldAt.fr {S : Nat → Prop} {w w' : World} {x : Nat} (h : ToldAt w x) (hf : Fr S w w') (hn : ¬ S x) : ToldAt w' x := ⟨hf.blk h.st hn⟩
theorem BufStep.skip {w0 w w' w'' : World} {b x : Nat} {g g' : Gh} (S : BufStep w b g w' g') (h0 : Fr (fun _ => False) w0 w) (hx : w0.heap.size ≤ x) (hT : ToldAt w' x) (h1 : Fr (Just x) w' w'') : BufStep w0 b g w'' g' := by
  refine ⟨S.at'.fr h1 (fun z hz q => ?_), ?_, ?_⟩
  · obtain rfl : z = x := q
    rcases S.at'.foot_typed hz with k | k
    · exact k.ne (by decide) ⟨_, _, hT.st⟩
    · exact k.ne (by decide) ⟨_, _, hT.st⟩
  · rcases S.row with e | ⟨r, e, hr⟩
    · exact .inl e
    · exact .inr ⟨r, e, Nat.le_trans h0.size hr⟩
  · refine ((h0.mono fun _ _ q => q.elim).trans S.fr).trans' h1 fun z hz q => ?_
    obtain rfl : z = x := q
    omega
theorem BufStep.told {w w' : World} {b x : Nat} {g g' : Gh} (S : BufStep w b g w' g') (hb : BufAt w b g) (h : ToldAt w x) : ToldAt w' x :=
  h.fr S.fr fun q => by
    rcases hb.foot_typed q with k | k
    · exact k.ne (by decide) ⟨_, _, h.st⟩
    · exact k.ne (by decide) ⟨_, _, h.st⟩
theorem just4 (w : World) (x : Nat) (a b c d : Value) : Fr (Just x) w ((((w.setCell ⟨x, 0, none⟩ a).setCell ⟨x, 1, none⟩ b).setCell ⟨x, 2, none⟩ c).setCell ⟨x, 3, none⟩ d) :=
  ((((Fr.refl _ w).setCell (fun _ => just_self x) _).setCell (fun _ => just_self x) _).setCell (fun _ => just_self x) _).setCell (fun _ => just_self x) _

theorem src_head {w : World} {r c : Nat} {all l : List UInt8} (hrow : Row 5 w r all) (htk : all.take l.length = l) (hla : l.length ≤ all.length) : Src w (.slice (some ⟨r, 0, none⟩) l.length c) l := by
  have := Src.of_row (c := c) (n := l.length) (o := 0) hrow (fun _ => rfl) (by omega)
  rw [List.drop_zero, htk] at this
  exact this

/-- append of nothing. -/
theorem run_append_none {P : Program} {w : World} {E : TypeId} {dT xT ty : TypeId} {n c : Nat} {D : Option Addr} {i : TypeInfo} {u : TypeDesc}
    (hu : P.underlying dT = some (.slice E)) (hx : P.underlying xT = some u) (hnot : ∀ k, u ≠ .int k) (hi : P.info? E = some i) (hs1 : i.size = 1) (hroom : n ≤ c) :
    (Builtin.append_ #[dT, xT] ty #[.slice D n c, .string ⟨#[]⟩]).run P w = .ok (.slice D n c) w := by
  have hsrc := Src.str w []
  have hlen := run_lenOf_src (P := P) hsrc
  have hf := run_firstCells_src (P := P) hsrc 0 (Nat.zero_le _)
  cases D <;> simp [Builtin.append_, run_underlying hu, run_underlying hx, sizeOf, typeInfo, hi, hs1, hlen, storeCells, bcs] at hroom hf ⊢ <;> simp [hroom, hf, storeCells]

/-- What the slice of AvailableBuffer comes to when a text is appended to it. -/
structure FreeApp (w : World) (b : Nat) (g : Gh) (text : List UInt8) (A : Option Addr) (c : Nat) (w' : World) (g0 : Gh) : Prop where
  st : BufStep w b g w' g0
  txt : g0.txt = g.txt
  src : Src w' (.slice A text.length c) text
  far : g0.all.length - g0.len < text.length → ∀ w'', Fr (g0.foot b) w' w'' → Src w'' (.slice A text.length c) text
theorem free_app {w : World} {b : Nat} {g : Gh} {ty : TypeId} (h : BufAt w b g) (text : List UInt8) (hl : text.length ≤ 1099511627776) :
    ∃ A c w' g0, (Builtin.append_ #[40, 9] ty #[.slice (cutA g.row g.len g.all.length) 0 (g.all.length - g.len), .string ⟨text.toArray⟩]).run Tryz.prog w = .ok (.slice A text.length c) w' ∧ FreeApp w b g text A c w' g0 := by
  obtain ⟨i0, hi, hz0, hz1, hz2⟩ := info_parts info_u8
  have hlc := h.lc
  rcases Nat.lt_or_ge (g.all.length - g.len) text.length with hg | hg
  · obtain ⟨cap2, w', hrun, hcell, h1, h2, hfr, hsz⟩ := run_append_grow (P := Tryz.prog) (w := w) (ty := ty) (old := []) (l := text) (D := cutA g.row g.len g.all.length) (n := 0) (c := g.all.length - g.len) Tryz.underlying40 Tryz.underlying9 (fun _ => by simp) hi hz1 hz2 hz0 (.inr ⟨_, _, rfl, fun q => absurd q (by simp)⟩) rfl (Src.str _ text) (by omega) (by omega)
    simp only [Nat.zero_add, List.nil_append] at hrun hcell
    have hrow : Row 5 w' w.heap.size (text ++ List.replicate (cap2 - text.length) 0) := ⟨(0, 0), hcell, .inl (Nat.le_refl _)⟩
    refine ⟨_, _, w', g, hrun, BufStep.of_none h hfr, rfl, src_head hrow (by simp) (by simp), fun _ w'' hf => src_head (hrow.fr hf fun q => ?_) (by simp) (by simp)⟩
    have := h.foot_lt q
    omega
  · rcases Nat.eq_zero_or_pos text.length with h0 | h0
    · obtain rfl : text = [] := List.eq_nil_of_length_eq_zero h0
      exact ⟨_, _, w, g, run_append_none (P := Tryz.prog) Tryz.underlying40 Tryz.underlying9 (fun _ => by simp) hi hz1 (Nat.zero_le _), BufStep.refl h, rfl, .inr ⟨_, _, rfl, fun q => absurd q (by simp)⟩, fun q => absurd q (by simp)⟩
    · obtain ⟨r, hr⟩ : ∃ r, g.row = some r := by
        cases hrr : g.row with
        | none => have e := h.nil hrr; have e1 : g.all.length = 0 := by rw [e]; rfl
                  omega
        | some r => exact ⟨r, rfl⟩
      obtain ⟨fz, hb, hfz⟩ := h.row r hr
      have hcut : cutA g.row g.len g.all.length = some ⟨r, g.len, none⟩ := by rw [hr]; exact cutA_some _ _ _ (by omega)
      obtain ⟨w', hrun, hcell, hfr⟩ := run_append_fit (P := Tryz.prog) (w := w) (ty := ty) (dT := 40) (xT := 9) (o := g.len) (n := 0) (c := g.all.length - g.len) (l := text) (D := some ⟨r, g.len, none⟩) Tryz.underlying40 Tryz.underlying9 (fun _ => by simp) hi hz1 hb (Src.str _ text) (by omega) (fun _ => rfl) (by omega) (fun j h1 h2 => by omega)
      simp only [Nat.zero_add, Nat.add_zero] at hrun hcell
      have hlen : (splice g.all g.len text).length = g.all.length := length_splice _ _ _ (by omega)
      have hrow : Row 5 w' r (splice g.all g.len text) := ⟨fz, hcell, by rw [hlen]; exact hfz⟩
      have hA : BufAt w' b { g with all := splice g.all g.len text } := ⟨h.toBufRaw.putAll hr hfr hrow hlen, h.ol, by simp only; rw [hlen]; exact h.lc⟩
      refine ⟨_, _, w', { g with all := splice g.all g.len text }, by rw [hcut]; exact hrun, ⟨hA, .inl rfl, hfr.mono fun x _ q => .inr (by rw [hr, show x = r from q])⟩, ?_, ?_, fun q => ?_⟩
      · simp [Gh.txt, splice, hlc]
      · have hs := Src.of_row (c := g.all.length - g.len) (n := text.length) (o := g.len) hrow (fun _ => rfl) (by rw [hlen]; omega)
        have e : ((splice g.all g.len text).drop g.len).take text.length = text := by
          have hm : min g.len g.all.length = g.len := by omega
          simp [splice, hm]
        rw [e] at hs
        exact hs
      · simp only at q
        rw [hlen] at q
        omega
theorem step_free_app {w : World} {ops : Array Oper} {o : Oper} {a : Act} {K : Act → World → Prop} {Q : Exit → Act → World → Prop} {E0 : Prop} (hgd : o.guard = none) (d s : Operand) (ho : o.op = .call { callee := .builtin .append, args := #[d, s], argTypes := #[40, 9] })
    {b : Nat} {g : Gh} {text : List UInt8} (hd : a.eval d = .slice (cutA g.row g.len g.all.length) 0 (g.all.length - g.len)) (hs : a.eval s = .string ⟨text.toArray⟩) (h : BufAt w b g) (hl : text.length ≤ 1099511627776)
    (hK : ∀ A c w' g0, FreeApp w b g text A c w' g0 → K (a.put o.dst (.slice A text.length c)) w') : if Region.wanted o (yielded ops a.tmps) = true then Oper.wp Tryz.prog o a w K Q else E0 := by
  obtain ⟨A, c, w', g0, hrun, hF⟩ := free_app (ty := o.type) h text hl
  exact step_of_wp hgd (wp_append_of_run d s _ _ ho hd hs hrun (hK A c w' g0 hF))

/-- Where a buffer lies behind a step: where it lay, or behind what there was. -/
theorem BufStep.foot_new {w w0 w' : World} {b x : Nat} {g g' : Gh} (S : BufStep w b g w' g') (h0 : BufAt w0 b g) (hx : g'.foot b x) : x < w0.heap.size ∨ w.heap.size ≤ x := by
  rcases hx with rfl | hx
  · exact .inl h0.lt
  · rcases S.row with e | ⟨r, e, hr⟩
    · exact .inl (h0.rlt (by rw [← e]; exact hx))
    · rw [e] at hx
      injection hx with hx
      exact .inr (by omega)

section
variable (a bb : Int) (size : Nat) (n : Int) (sign : UInt8) (char : Int) (text : List UInt8) (cuts : List Nat) (ad : Option Addr) (cap : Nat)
set_option maxHeartbeats 1600000 in
set_option maxRecDepth 100000 in
theorem write_2 (b : Nat) (g : Gh) (w : World) (h : BufAt w b g) (hsz : g.txt.length + text.length ≤ 1099511627776) :
    Calls Tryz.prog 49 #[.pointer (some ⟨b, 0, none⟩), .agg #[.int .i64 2, .int .i64 a, .int .i64 bb, .int .u16 (size : Int), .int .i64 n, .int .u8 (sign.toNat : Int), .int .i32 char, .string ⟨text.toArray⟩, .slice ad cuts.length cap]] w (WDPost w b g ⟨text.length, [], 0, 0⟩ (Wrote g text)) := by
  have H := Lib.hid h
  have HB := Lib.hid (h.fr (((Fr.refl (fun _ => False) w).alloc _).alloc _) (fun _ _ q => q) : BufAt ((w.alloc (.cells #[.int .i64 2, .int .i64 a, .int .i64 bb, .int .u16 (size : Int), .int .i64 n, .int .u8 (sign.toNat : Int), .int .i32 char, .string ⟨text.toArray⟩, .slice ad cuts.length cap] 36)).alloc (.cells #[.int .i64 0, .string ⟨#[]⟩, .int .i32 0, .int .i64 0] 39)) b g)
  clear h
  go_enter Tryz.func49, Tryz.ntmps49
  go_wp2_with fail
  refine (bufWS text _ b g HB.out (Src.str _ text) hsz (fun _ w' _ => Src.str _ text)).mono ?_
  rintro e w1 ⟨g', rfl, S1, W1⟩
  have hT : ToldAt w1 (w.heap.size + 1) := S1.told HB.out (ToldAt.new2 w _)
  have t0 := hT.c0; have t1 := hT.c1; have t2 := hT.c2; have t3 := hT.c3; have z0 := hT.f 0; have z1 := hT.f 1; have z2 := hT.f 2; have z3 := hT.f 3
  have HT := Lib.hid hT
  clear hT
  have HS := Lib.hid S1
  have HW := Lib.hid W1
  clear S1 W1
  go_wp2_with fail
  refine (said_nil _).mono ?_
  rintro e w2 ⟨rfl, rfl⟩
  go_wp2_with fail
  refine bodyPost_ret (v := Td.val ⟨text.length, [], 0, 0⟩) (by simp [results, Tryz.results49, go_sem, t0, t1, t2, t3, Td.val, Td.cells]) rfl ?_
  exact ⟨_, rfl, HS.out.skip (((Fr.refl (fun _ => False) w).alloc _).alloc _) (by omega) HT.out (just4 _ _ _ _ _ _), HW.out⟩
set_option maxHeartbeats 1600000 in
set_option maxRecDepth 100000 in
theorem write_3 (b : Nat) (g : Gh) (w : World) (h : BufAt w b g) (hsz : g.txt.length + 1 ≤ 1099511627776) :
    Calls Tryz.prog 49 #[.pointer (some ⟨b, 0, none⟩), .agg #[.int .i64 3, .int .i64 a, .int .i64 bb, .int .u16 (size : Int), .int .i64 n, .int .u8 (sign.toNat : Int), .int .i32 char, .string ⟨text.toArray⟩, .slice ad cuts.length cap]] w (WDPost w b g ⟨0, [], 0, 0⟩ (Wrote g [sign])) := by
  have H := Lib.hid h
  have HB := Lib.hid (h.fr (((Fr.refl (fun _ => False) w).alloc _).alloc _) (fun _ _ q => q) : BufAt ((w.alloc (.cells #[.int .i64 3, .int .i64 a, .int .i64 bb, .int .u16 (size : Int), .int .i64 n, .int .u8 (sign.toNat : Int), .int .i32 char, .string ⟨text.toArray⟩, .slice ad cuts.length cap] 36)).alloc (.cells #[.int .i64 0, .string ⟨#[]⟩, .int .i32 0, .int .i64 0] 39)) b g)
  clear h
  go_enter Tryz.func49, Tryz.ntmps49
  go_wp2_with fail
  refine (bufWB sign _ b g HB.out hsz).mono ?_
  rintro e w1 ⟨g', rfl, S1, W1⟩
  have hT : ToldAt w1 (w.heap.size + 1) := S1.told HB.out (ToldAt.new2 w _)
  have t0 := hT.c0; have t1 := hT.c1; have t2 := hT.c2; have t3 := hT.c3; have z0 := hT.f 0; have z1 := hT.f 1; have z2 := hT.f 2; have z3 := hT.f 3
  have HT := Lib.hid hT
  clear hT
  have HS := Lib.hid S1
  have HW := Lib.hid W1
  clear S1 W1
  go_wp2_with fail
  refine (said_nil _).mono ?_
  rintro e w2 ⟨rfl, rfl⟩
  go_wp2_with fail
  refine bodyPost_ret (v := Td.val ⟨0, [], 0, 0⟩) (by simp [results, Tryz.results49, go_sem, t0, t1, t2, t3, Td.val, Td.cells]) rfl ?_
  exact ⟨_, rfl, HS.out.skip (((Fr.refl (fun _ => False) w).alloc _).alloc _) (by omega) HT.out (just4 _ _ _ _ _ _), HW.out⟩
set_option maxHeartbeats 1600000 in
set_option maxRecDepth 100000 in
theorem write_4 (b : Nat) (g : Gh) (w : World) (h : BufAt w b g) (hgood : ¬ badRune char) (hsz : g.txt.length + 4 ≤ 1099511627776) :
    Calls Tryz.prog 49 #[.pointer (some ⟨b, 0, none⟩), .agg #[.int .i64 4, .int .i64 a, .int .i64 bb, .int .u16 (size : Int), .int .i64 n, .int .u8 (sign.toNat : Int), .int .i32 char, .string ⟨text.toArray⟩, .slice ad cuts.length cap]] w (WDPost w b g ⟨(enc char).length, [], 0, 0⟩ (Wrote0 g (enc char))) := by
  have H := Lib.hid h
  have HB := Lib.hid (h.fr (((Fr.refl (fun _ => False) w).alloc _).alloc _) (fun _ _ q => q) : BufAt ((w.alloc (.cells #[.int .i64 4, .int .i64 a, .int .i64 bb, .int .u16 (size : Int), .int .i64 n, .int .u8 (sign.toNat : Int), .int .i32 char, .string ⟨text.toArray⟩, .slice ad cuts.length cap] 36)).alloc (.cells #[.int .i64 0, .string ⟨#[]⟩, .int .i32 0, .int .i64 0] 39)) b g)
  clear h
  go_enter Tryz.func49, Tryz.ntmps49
  go_wp2_with fail
  refine (bufWR char _ b g HB.out hgood hsz).mono ?_
  rintro e w1 ⟨g', rfl, S1, W1⟩
  have hT : ToldAt w1 (w.heap.size + 1) := S1.told HB.out (ToldAt.new2 w _)
  have t0 := hT.c0; have t1 := hT.c1; have t2 := hT.c2; have t3 := hT.c3; have z0 := hT.f 0; have z1 := hT.f 1; have z2 := hT.f 2; have z3 := hT.f 3
  have HT := Lib.hid hT
  clear hT
  have HS := Lib.hid S1
  have HW := Lib.hid W1
  clear S1 W1
  go_wp2_with fail
  refine (said_nil _).mono ?_
  rintro e w2 ⟨rfl, rfl⟩
  go_wp2_with fail
  refine bodyPost_ret (v := Td.val ⟨(enc char).length, [], 0, 0⟩) (by simp [results, Tryz.results49, go_sem, t0, t1, t2, t3, Td.val, Td.cells]) rfl ?_
  exact ⟨_, rfl, HS.out.skip (((Fr.refl (fun _ => False) w).alloc _).alloc _) (by omega) HT.out (just4 _ _ _ _ _ _), HW.out⟩
set_option maxHeartbeats 1600000 in
set_option maxRecDepth 100000 in
theorem write_1 (b : Nat) (g : Gh) (w : World) (h : BufAt w b g) (hsz : g.txt.length + text.length ≤ 1099511627776) :
    Calls Tryz.prog 49 #[.pointer (some ⟨b, 0, none⟩), .agg #[.int .i64 1, .int .i64 a, .int .i64 bb, .int .u16 (size : Int), .int .i64 n, .int .u8 (sign.toNat : Int), .int .i32 char, .string ⟨text.toArray⟩, .slice ad cuts.length cap]] w (WDPost w b g ⟨text.length, [], 0, 0⟩ (Wrote g text)) := by
  have H := Lib.hid h
  have HB := Lib.hid (h.fr (((Fr.refl (fun _ => False) w).alloc _).alloc _) (fun _ _ q => q) : BufAt ((w.alloc (.cells #[.int .i64 1, .int .i64 a, .int .i64 bb, .int .u16 (size : Int), .int .i64 n, .int .u8 (sign.toNat : Int), .int .i32 char, .string ⟨text.toArray⟩, .slice ad cuts.length cap] 36)).alloc (.cells #[.int .i64 0, .string ⟨#[]⟩, .int .i32 0, .int .i64 0] 39)) b g)
  clear h
  obtain ⟨w0, all, hrun, hrow, htk, hla, hlen, hfr, hsz0⟩ := conv_bytes text ((w.alloc (.cells #[.int .i64 1, .int .i64 a, .int .i64 bb, .int .u16 (size : Int), .int .i64 n, .int .u8 (sign.toNat : Int), .int .i32 char, .string ⟨text.toArray⟩, .slice ad cuts.length cap] 36)).alloc (.cells #[.int .i64 0, .string ⟨#[]⟩, .int .i32 0, .int .i64 0] 39)) (by omega)
  obtain ⟨r, hr⟩ : ∃ r, r = ((w.alloc (.cells #[.int .i64 1, .int .i64 a, .int .i64 bb, .int .u16 (size : Int), .int .i64 n, .int .u8 (sign.toNat : Int), .int .i32 char, .string ⟨text.toArray⟩, .slice ad cuts.length cap] 36)).alloc (.cells #[.int .i64 0, .string ⟨#[]⟩, .int .i32 0, .int .i64 0] 39)).heap.size := ⟨_, rfl⟩
  rw [← hr] at hrun hrow
  have hrw : w.heap.size + 2 ≤ r := by rw [hr]; simp
  have hB0 := HB.out.fr hfr (fun _ _ q => q)
  have hT0 := (ToldAt.new2 w (.cells #[.int .i64 1, .int .i64 a, .int .i64 bb, .int .u16 (size : Int), .int .i64 n, .int .u8 (sign.toNat : Int), .int .i32 char, .string ⟨text.toArray⟩, .slice ad cuts.length cap] 36)).fr hfr (fun q => q)
  have hF0 : Fr (fun _ => False) w w0 := ((((Fr.refl (fun _ => False) w).alloc _).alloc _) : Fr _ w ((w.alloc (.cells #[.int .i64 1, .int .i64 a, .int .i64 bb, .int .u16 (size : Int), .int .i64 n, .int .u8 (sign.toNat : Int), .int .i32 char, .string ⟨text.toArray⟩, .slice ad cuts.length cap] 36)).alloc (.cells #[.int .i64 0, .string ⟨#[]⟩, .int .i32 0, .int .i64 0] 39))).trans hfr
  have hst : ∀ w', Fr (g.foot b) w0 w' → Src w' (.slice (some ⟨r, 0, none⟩) text.length all.length) text := fun w' hf => src_head (hrow.fr hf (fun q => by have := H.out.foot_lt q; omega)) htk hla
  have HSR := Lib.hid (src_head (c := all.length) hrow htk hla)
  have HST := Lib.hid hst
  have HB0 := Lib.hid hB0
  have HT0 := Lib.hid hT0
  have HF0 := Lib.hid hF0
  clear hfr hsz0 hrow htk hst hB0 hT0 hF0 hr
  go_enter Tryz.func49, Tryz.ntmps49
  go_wp2_with fail
  refine (bufW _ _ _ text _ b g HB0.out HSR.out rfl hsz (fun _ => HST.out)).mono ?_
  rintro e w1 ⟨g', rfl, S1, W1⟩
  have hT : ToldAt w1 (w.heap.size + 1) := S1.told HB0.out HT0.out
  have t0 := hT.c0; have t1 := hT.c1; have t2 := hT.c2; have t3 := hT.c3; have z0 := hT.f 0; have z1 := hT.f 1; have z2 := hT.f 2; have z3 := hT.f 3
  have HT := Lib.hid hT
  clear hT
  have HS := Lib.hid S1
  have HW := Lib.hid W1
  clear S1 W1
  go_wp2_with fail
  refine (said_nil _).mono ?_
  rintro e w2 ⟨rfl, rfl⟩
  go_wp2_with fail
  refine bodyPost_ret (v := Td.val ⟨text.length, [], 0, 0⟩) (by simp [results, Tryz.results49, go_sem, t0, t1, t2, t3, Td.val, Td.cells]) rfl ?_
  exact ⟨_, rfl, HS.out.skip HF0.out (by omega) HT.out (just4 _ _ _ _ _ _), HW.out⟩
set_option maxHeartbeats 1600000 in
set_option maxRecDepth 100000 in
theorem write_5 (b : Nat) (g : Gh) (w : World) (h : BufAt w b g) (hsz : g.txt.length + text.length ≤ 1099511627776) :
    Calls Tryz.prog 49 #[.pointer (some ⟨b, 0, none⟩), .agg #[.int .i64 5, .int .i64 a, .int .i64 bb, .int .u16 (size : Int), .int .i64 n, .int .u8 (sign.toNat : Int), .int .i32 char, .string ⟨text.toArray⟩, .slice ad cuts.length cap]] w (WDPost w b g ⟨text.length, [], 0, 0⟩ (Wrote0 g text)) := by
  have H := Lib.hid h
  have HB := Lib.hid (h.fr (((Fr.refl (fun _ => False) w).alloc _).alloc _) (fun _ _ q => q) : BufAt ((w.alloc (.cells #[.int .i64 5, .int .i64 a, .int .i64 bb, .int .u16 (size : Int), .int .i64 n, .int .u8 (sign.toNat : Int), .int .i32 char, .string ⟨text.toArray⟩, .slice ad cuts.length cap] 36)).alloc (.cells #[.int .i64 0, .string ⟨#[]⟩, .int .i32 0, .int .i64 0] 39)) b g)
  clear h
  go_enter Tryz.func49, Tryz.ntmps49
  go_wp2_with fail
  go_region_held3 (fun w' => w'.cell? ⟨w.heap.size, 7, none⟩ = some (.string ⟨text.toArray⟩)) (go_keep) ((first | (go_at_call 76; refine (buf_free _ b g (HB.out.drewN _)).mono ?_; rintro e w1 ⟨rfl, k, rfl⟩) | (refine step_free_app rfl (.tmp 12) (.tmp 14) rfl rfl rfl (b := b) (HB.out.drewN _) (by omega) ?_; intro A c w2 g0 hF; have hc7 : w2.cell? ⟨w.heap.size, 7, none⟩ = some (.string ⟨text.toArray⟩) := (hF.st.fr.cell (by simp; omega) (fun q => by have := H.out.foot_lt q; simp at this)).trans (by simp)) | (go_at_call 73; have hT2 := hF.st.told (HB.out.drewN _) (ToldAt.fr (ToldAt.new2 w (.cells #[.int .i64 5, .int .i64 a, .int .i64 bb, .int .u16 (size : Int), .int .i64 n, .int .u8 (sign.toNat : Int), .int .i32 char, .string ⟨text.toArray⟩, .slice ad cuts.length cap] 36)) ((Fr.refl (fun _ => False) _).drewN _) (fun q => q)); refine (bufW _ _ _ text _ b g0 hF.st.at' hF.src rfl (by rw [hF.txt]; exact hsz) hF.far).mono ?_; rintro e w3 ⟨g', rfl, S3, W3⟩; have hc8 : w3.cell? ⟨w.heap.size, 7, none⟩ = some (.string ⟨text.toArray⟩) := (S3.fr.cell (World.block_lt_of_cell? _ _ hc7) (fun q => by have := hF.st.foot_new H.out q; rcases this with this | this <;> simp at this <;> omega)).trans hc7; have hT := S3.told hF.st.at' hT2)))
  have t0 := hT.c0; have t1 := hT.c1; have t2 := hT.c2; have t3 := hT.c3; have z0 := hT.f 0; have z1 := hT.f 1; have z2 := hT.f 2; have z3 := hT.f 3
  have HT := Lib.hid hT
  clear hT
  have HS := Lib.hid (hF.st.trans S3)
  have HW := Lib.hid (show Wrote0 g text g' from ⟨by rw [W3.txt, hF.txt], W3.lr⟩)
  clear S3 W3 hF hT2 hc7 hc8
  go_wp2_with fail
  refine (said_nil _).mono ?_
  rintro e w2 ⟨rfl, rfl⟩
  go_wp2_with fail
  refine bodyPost_ret (v := Td.val ⟨text.length, [], 0, 0⟩) (by simp [results, Tryz.results49, go_sem, t0, t1, t2, t3, Td.val, Td.cells]) rfl ?_
  exact ⟨_, rfl, HS.out.skip (by first | exact ((((Fr.refl (fun _ => False) w).alloc _).alloc _)).drewN _ | exact (((((Fr.refl (fun _ => False) w).alloc _).alloc _)).drewN _).drewN _ | exact ((((Fr.refl (fun _ => False) w).alloc _).alloc _)).drew.drewN _) (by omega) HT.out (just4 _ _ _ _ _ _), HW.out⟩
end
end Go.Proofs.YtbodbajgpgaoeaaGreatDoor
