/- BghP. -/
import Derived.Test.YtkggebhkjgjijaaGreatDoorQ33
namespace Go.Proofs.YtkggebhkjgjijaaGreatDoor
open Go Go.RowKit

/-- Where Calm stands, in a script of one builder. -/
def InvG (y : Yd) (l : List Cl) : Prop := ∃ s, y = yb1 s ∧ (∀ c ∈ l, c.a = 0 ∧ 28 ≤ c.op) ∧ s.length + wsum l + 16 ≤ 1099511627776
theorem stepG : StepOk InvG := by
  intro y c l h
  obtain ⟨s, rfl, hc, hl⟩ := h
  obtain ⟨ha, h28⟩ := hc c (by simp)
  rw [wsum_cons] at hl
  have hrest : ∀ d ∈ l, d.a = 0 ∧ 28 ≤ d.op := fun d hd => hc d (by simp [hd])
  have hp := putS_len s c
  obtain ⟨s', hs', hsl⟩ : ∃ s', ((yb1 s).do c).1 = yb1 s' ∧ s'.length ≤ s.length + c.text.length + 4 := by
    by_cases h : c.op < 36
    · exact ⟨_, by rw [yb1_do s c ha h28 h], hp⟩
    · exact ⟨s, by rw [yb1_do0 s c (by omega)], by omega⟩
  refine ⟨⟨s, rfl, hrest, by omega⟩, ⟨s', hs', hrest, by omega⟩, fun _ => by rw [hs']; rfl, fun q => by simp [yb1] at q, ?_⟩
  intro A1 n1 c1 A2 n2 c2 wx hY
  have h1 := hY.l1
  have h2 := hY.l2
  simp only [yb1, List.length_cons, List.length_nil] at h1 h2
  subst h1 h2
  exact sp_DoB s c A1 c1 A2 c2 wx hY ha h28 (by omega)
def grC (n : Nat) : Cl := ⟨32, 0, 0, 0, (n : Int), 0, 0, [], [], none, 0⟩
/-- The writes that the second loop takes. -/
def wrS (n : Nat) : Nat → List Cl → List Cl
  | _, [] => []
  | sum, c :: l => if (28 ≤ c.op ∧ c.op ≤ 31) ∧ c.at0.valid ∧ sum + (textF c.at0).length ≤ n then c.at0 :: wrS n (sum + (textF c.at0).length) l else wrS n sum l
theorem put_write {c : Cl} (_h1 : 28 ≤ c.op) (_h2 : c.op ≤ 31) (hv : c.valid) (s : List UInt8) : (putS s c).1 = s ++ textF c ∧ (putS s c).2.2 = true ∧ (putS s c).2.1.said = 0 := by
  unfold Cl.valid at hv
  unfold putS textF
  by_cases h30 : c.op = 30
  · simp [h30, Td.zero]
  by_cases h31 : c.op = 31
  · have := hv (.inr h31)
    simp [h31, Td.ofN, this]
  have h : c.op = 28 ∨ c.op = 29 := by omega
  rw [if_pos h, if_neg (by omega), if_neg (by omega)]
  exact ⟨rfl, rfl, rfl⟩
theorem put_grow {n : Nat} (_hn : n ≤ 65535) (s : List UInt8) : (yb1 s).do (grC n) = (yb1 s, Td.zero, true) := by
  rw [yb1_do s (grC n) rfl (by show (28 : Int) ≤ 32; decide) (by show (32 : Int) < 36; decide)]
  have h1 : ¬ ((n : Int) < 0) := by omega
  have h2 : (n : Int) ≤ 65536 := by omega
  simp [putS, grC, h1, h2]
/-- The writes behind the Grow are settled, and what is written fits. -/
theorem wrS_mild (n : Nat) : ∀ (l : List Cl) (sum : Nat) (s : List UInt8), Mild (yb1 s) (wrS n sum l) ∧ ∀ k, k ≤ (wrS n sum l).length → ∃ s', (runF (yb1 s) ((wrS n sum l).take k)).2 = yb1 s' ∧ s.length + (n - sum) ≥ s'.length ∧
      ∀ c, (wrS n sum l)[k]? = some c → (28 ≤ c.op ∧ c.op ≤ 31) ∧ s'.length + (textF c).length ≤ s.length + (n - sum)
  | [], sum, s => ⟨trivial, fun k hk => by
    simp only [wrS, List.length_nil, Nat.le_zero] at hk
    subst hk
    exact ⟨s, rfl, by omega, fun c hc => by simp [wrS] at hc⟩⟩
  | c :: l, sum, s => by
    by_cases h : (28 ≤ c.op ∧ c.op ≤ 31) ∧ c.at0.valid ∧ sum + (textF c.at0).length ≤ n
    · have e : wrS n sum (c :: l) = c.at0 :: wrS n (sum + (textF c.at0).length) l := by simp only [wrS]; rw [if_pos h]
      obtain ⟨p1, p2, p3⟩ := put_write (c := c.at0) h.1.1 h.1.2 h.2.1 s
      have hd := yb1_do s c.at0 rfl h.1.1 (by show c.op < 36; omega)
      obtain ⟨m, ih⟩ := wrS_mild n l (sum + (textF c.at0).length) (s ++ textF c.at0)
      rw [e]
      have hne : ¬ ((yb1 s).do c.at0).2.1.said = 3 := by rw [hd]; simp only; rw [p3]; decide
      refine ⟨⟨by rw [hd]; exact p2, hne, by rw [hd]; simp only; rw [p1]; exact m⟩, fun k hk => ?_⟩
      cases k with
      | zero =>
        refine ⟨s, rfl, by omega, fun x hx => ?_⟩
        simp only [List.getElem?_cons_zero, Option.some.injEq] at hx
        subst hx
        exact ⟨h.1, by omega⟩
      | succ k =>
        obtain ⟨s', q1, q2, q3⟩ := ih k (by simpa using hk)
        rw [List.length_append] at q2 q3
        refine ⟨s', ?_, by omega, fun x hx => ?_⟩
        · rw [List.take_succ_cons]
          simp only [runF]
          rw [if_neg hne, hd]
          simp only
          rw [p1]
          exact q1
        · rw [List.getElem?_cons_succ] at hx
          obtain ⟨r1, r2⟩ := q3 x hx
          exact ⟨r1, by omega⟩
    · have e : wrS n sum (c :: l) = wrS n sum l := by simp only [wrS]; rw [if_neg h]
      rw [e]
      exact wrS_mild n l sum s
theorem yb1_inj {s t : List UInt8} (h : yb1 s = yb1 t) : s = t := by
  have := congrArg Yd.blds h
  simpa [yb1] using this
/-- The script of the law. -/
theorem grow_mild {l1 : List Cl} {n : Nat} (hm : Mild (yb1 []) l1) {s1 : List UInt8} (h1 : (runF (yb1 []) l1).2 = yb1 s1) (hn : n ≤ 65535) (more : List Cl) :
    Mild (yb1 []) (l1 ++ [grC n]) ∧ (runF (yb1 []) (l1 ++ [grC n])).2 = yb1 s1 ∧ Mild (yb1 []) (l1 ++ [grC n] ++ wrS n 0 more) := by
  have hd := put_grow hn s1
  have hne : ¬ ((yb1 s1).do (grC n)).2.1.said = 3 := by rw [hd]; show ¬ (0 : Int) = 3; decide
  have m1 : Mild (yb1 s1) [grC n] := ⟨by rw [hd], hne, trivial⟩
  have r1 : (runF (yb1 s1) [grC n]).2 = yb1 s1 := by
    simp only [runF]
    rw [if_neg hne, hd]
  have a1 : Mild (yb1 []) (l1 ++ [grC n]) := Mild.append _ _ _ hm (by rw [h1]; exact m1)
  have a2 : (runF (yb1 []) (l1 ++ [grC n])).2 = yb1 s1 := by rw [runF_append _ _ _ hm, h1]; exact r1
  exact ⟨a1, a2, Mild.append _ _ _ a1 (by rw [a2]; exact (wrS_mild n more 0 s1).1)⟩
/-- The capacity behind Grow, and behind each write. -/
theorem caps {w wr : World} {yb d : Nat} {ov : Value} {g : BG} {gs : List BG} {vs : List Value} {l1 more cs : List Cl} {n : Nat} (hcs : cs = l1 ++ [grC n] ++ wrS n 0 more) (h : RmI w yb cs cs.length wr ov d g gs vs) (hm : Mild (yb1 []) l1) {s1 : List UInt8} (h1 : (runF (yb1 []) l1).2 = yb1 s1) (hn : n ≤ 65535) :
    ∃ gm, gs[l1.length + 1]? = some gm ∧ gm.txt.length + n ≤ gm.cap ∧ ∀ (j : Nat) (gj : BG), gs[l1.length + 1 + j]? = some gj → gj.cap = gm.cap := by
  obtain ⟨a1, a2, a3⟩ := grow_mild hm h1 hn more
  have hlen : cs.length = l1.length + 1 + (wrS n 0 more).length := by rw [hcs]; simp; omega
  have hgl := h.gl
  obtain ⟨g0, hg0⟩ : ∃ g0, gs[l1.length]? = some g0 := ⟨_, List.getElem?_eq_getElem (by omega)⟩
  obtain ⟨gm, hgm⟩ : ∃ gm, gs[l1.length + 1]? = some gm := ⟨_, List.getElem?_eq_getElem (by omega)⟩
  have hc0 : cs[l1.length]? = some (grC n) := by
    rw [hcs, List.append_assoc, List.getElem?_append_right (Nat.le_refl _), Nat.sub_self]
    rfl
  have t0 := h.txt l1.length g0 hg0
  rw [hcs, List.append_assoc, List.take_left, h1] at t0
  have e0 := yb1_inj t0
  have tm := h.txt (l1.length + 1) gm hgm
  rw [hcs, List.take_left' (by simp), a2] at tm
  have em := yb1_inj tm
  have hr := (h.cap l1.length (grC n) g0 gm (by omega) hc0 hg0 hgm).r rfl
  have hgrow : gm.txt.length + n ≤ gm.cap := by
    rw [← em, e0]
    simpa [grC] using hr
  refine ⟨gm, hgm, hgrow, fun j => ?_⟩
  induction j with
  | zero =>
    intro gj hj
    rw [Nat.add_zero, hgm] at hj
    injection hj with hj
    rw [hj]
  | succ j ih =>
    intro gj hj
    have hjl : l1.length + 1 + (j + 1) < gs.length := (List.getElem?_eq_some_iff.1 hj).1
    obtain ⟨gp, hgp⟩ : ∃ gp, gs[l1.length + 1 + j]? = some gp := ⟨_, List.getElem?_eq_getElem (by omega)⟩
    have hp := ih gp hgp
    obtain ⟨c, hc⟩ : ∃ c, (wrS n 0 more)[j]? = some c := ⟨_, List.getElem?_eq_getElem (by omega)⟩
    obtain ⟨s', q1, q2, q3⟩ := (wrS_mild n more 0 s1).2 j (by omega)
    obtain ⟨r1, r2⟩ := q3 c hc
    have hcc : cs[l1.length + 1 + j]? = some c := by
      rw [hcs, List.getElem?_append_right (by simp), ← hc]
      congr 1
      simp
    have tp := h.txt (l1.length + 1 + j) gp hgp
    have et : cs.take (l1.length + 1 + j) = (l1 ++ [grC n]) ++ (wrS n 0 more).take j := by
      have hs : l1.length + 1 + j - (l1 ++ [grC n]).length = j := by simp
      rw [hcs, List.take_append, hs, List.take_of_length_le (by simp)]
    rw [et, runF_append _ _ _ a1, a2] at tp
    have ep := yb1_inj (q1.symm.trans tp)
    have hw := (h.cap (l1.length + 1 + j) c gp gj (by omega) hcc hgp (by rw [← hj]; rfl)).w r1.1 r1.2 (by
      rw [hp, ← ep]
      have hx : (textOfF c).length = (textF c).length := rfl
      rw [hx]
      rw [← em] at hgrow
      omega)
    rw [hw, hp]
end Go.Proofs.YtkggebhkjgjijaaGreatDoor
