/- Lines that are fed in pieces: the plain law behind laws.FnLinesFed. No program is named here. -/
import Derived.Test.YtimigjjokdnfbaaDoorPlay
namespace Go.Proofs.YtimigjjokdnfbaaDoor
open Go Go.RowKit

/-- A call that writes a text, or reads up to a byte. -/
def wrC (op : Int) (t : List UInt8) : Cl := ⟨op, 0, 0, 0, 0, 0, 0, t, [], none, 0⟩
def rdC (op : Int) (s : UInt8) : Cl := ⟨op, 0, 0, 0, 0, s, 0, [], [], none, 0⟩
/-- What such a call does to a text. -/
def txStep (t : List UInt8) (c : Cl) : List UInt8 × Td :=
  if c.op ≤ 2 then (t ++ c.text, Td.ofN c.text.length)
  else match upTo c.sign t with
    | some k => (t.drop k, Td.ofText (t.take k))
    | none => ([], ⟨0, t, 0, 1⟩)
def txRun : List UInt8 → List Cl → List Td × List UInt8
  | t, [] => ([], t)
  | t, c :: l => ((txStep t c).2 :: (txRun (txStep t c).1 l).1, (txRun (txStep t c).1 l).2)
theorem txRun_append : ∀ (l m : List Cl) (t : List UInt8), txRun t (l ++ m) = ((txRun t l).1 ++ (txRun (txRun t l).2 m).1, (txRun (txRun t l).2 m).2)
  | [], m, t => rfl
  | c :: l, m, t => by simp [txRun, txRun_append l m]

/-- Calls of one buffer that write or read lines. -/
def Liney (c : Cl) : Prop := (c.op = 1 ∨ c.op = 2 ∨ c.op = 9 ∨ c.op = 10) ∧ c.a = 0
theorem Liney.do {c : Cl} (h : Liney c) (s : SB) : ∃ s' ok, (Yd.mk [s] []).do c = (⟨[s'], []⟩, (txStep s.text c).2, ok) ∧ ok = true ∧ s'.text = (txStep s.text c).1 ∧ (txStep s.text c).2.said ≠ 3 := by
  obtain ⟨h1, h2⟩ := h
  have hin : inR c.a (Yd.mk [s] []).bufs.length := by rw [h2]; simp [inR]
  have hb : (Yd.mk [s] []).buf c.a = s := by rw [h2]; rfl
  have e : (Yd.mk [s] []).do c = (⟨[(s.do c).1], []⟩, (s.do c).2.1, (s.do c).2.2) := by
    unfold Yd.do
    rw [if_neg (by omega), if_neg (by omega), if_pos hin, if_neg (by omega), hb, h2]
    rfl
  rw [e]
  rcases h1 with h1 | h1 | h1 | h1
  · exact ⟨(s.do c).1, (s.do c).2.2, by simp [SB.do, h1, txStep], by simp [SB.do, h1], by simp [SB.do, h1, SB.write, txStep], by simp [txStep, h1, Td.ofN]⟩
  · exact ⟨(s.do c).1, (s.do c).2.2, by simp [SB.do, h1, txStep], by simp [SB.do, h1], by simp [SB.do, h1, SB.write, txStep], by simp [txStep, h1, Td.ofN]⟩
  all_goals
    cases hu : upTo c.sign s.text with
    | some k =>
      have hk : k ≠ 0 := by
        intro h0
        subst h0
        cases hs : s.text with
        | nil => rw [hs] at hu; simp [upTo] at hu
        | cons x l =>
          rw [hs] at hu
          unfold upTo at hu
          split at hu
          · simp at hu
          · simp at hu
      refine ⟨(s.do c).1, (s.do c).2.2, by simp [SB.do, SB.reads, h1, hu, txStep], by simp [SB.do, SB.reads, h1, hu], by simp [SB.do, SB.reads, h1, hu, txStep, SB.read, hk], by simp [txStep, h1, hu, Td.ofText]⟩
    | none =>
      by_cases ht : s.text = []
      · refine ⟨(s.do c).1, (s.do c).2.2, by simp [SB.do, SB.reads, h1, ht, txStep, upTo, Td.said'], by simp [SB.do, SB.reads, h1, ht, upTo], by simp [SB.do, SB.reads, h1, ht, txStep, upTo], by simp [txStep, h1, ht, upTo]⟩
      · refine ⟨(s.do c).1, (s.do c).2.2, by simp [SB.do, SB.reads, h1, hu, ht, txStep], by simp [SB.do, SB.reads, h1, hu, ht], by simp [SB.do, SB.reads, h1, hu, ht, txStep, SB.read], by simp [txStep, h1, hu]⟩
theorem Liney.run : ∀ (l : List Cl) (s : SB), (∀ c ∈ l, Liney c) → Mild ⟨[s], []⟩ l ∧ ∃ s', runF ⟨[s], []⟩ l = ((txRun s.text l).1, ⟨[s'], []⟩) ∧ s'.text = (txRun s.text l).2
  | [], s, _ => ⟨trivial, s, rfl, rfl⟩
  | c :: l, s, h => by
    obtain ⟨s', ok, e, rfl, h2, h3⟩ := (h c (by simp)).do s
    obtain ⟨m1, s'', k1, k2⟩ := Liney.run l s' (fun d hd => h d (by simp [hd]))
    refine ⟨⟨by rw [e], by rw [e]; exact h3, by rw [e]; exact m1⟩, s'', ?_, ?_⟩
    · simp only [runF, e]
      rw [if_neg h3, k1, h2]
      rfl
    · rw [k2, h2]
      rfl

/-- The lines of a text, each with the byte that ends it, and what is left. -/
def cutL (s : UInt8) : List UInt8 → List (List UInt8) × List UInt8
  | [] => ([], [])
  | x :: l => if x = s then ([x] :: (cutL s l).1, (cutL s l).2)
    else match (cutL s l).1 with
      | [] => ([], x :: (cutL s l).2)
      | h :: t => ((x :: h) :: t, (cutL s l).2)
theorem cutL_flat (s : UInt8) : ∀ l : List UInt8, (cutL s l).1.flatten ++ (cutL s l).2 = l
  | [] => rfl
  | x :: l => by
    have ih := cutL_flat s l
    unfold cutL
    split
    · simp [ih]
    · split
      · rename_i h
        rw [h] at ih
        simpa using ih
      · rename_i h
        rw [h] at ih
        simpa using ih
theorem upTo_cutL (s : UInt8) : ∀ l : List UInt8, (∀ h t, (cutL s l).1 = h :: t → upTo s l = some h.length ∧ l.take h.length = h ∧ cutL s (l.drop h.length) = (t, (cutL s l).2)) ∧ ((cutL s l).1 = [] → upTo s l = none ∧ (cutL s l).2 = l)
  | [] => ⟨fun h t e => by simp [cutL] at e, fun _ => ⟨rfl, rfl⟩⟩
  | x :: l => by
    obtain ⟨i1, i2⟩ := upTo_cutL s l
    by_cases hx : x = s
    · subst hx
      refine ⟨fun h t e => ?_, fun e => ?_⟩
      · simp only [cutL, if_true, List.cons.injEq] at e
        obtain ⟨rfl, rfl⟩ := e
        simp [upTo, cutL]
      · simp [cutL] at e
    · cases hc : (cutL s l).1 with
      | nil =>
        obtain ⟨j1, j2⟩ := i2 hc
        refine ⟨fun h t e => ?_, fun _ => ?_⟩
        · simp [cutL, hx, hc] at e
        · refine ⟨by simp [upTo, hx, j1], by simp [cutL, hx, hc, j2]⟩
      | cons h0 t0 =>
        obtain ⟨j1, j2, j3⟩ := i1 h0 t0 hc
        refine ⟨fun h t e => ?_, fun e => ?_⟩
        · simp only [cutL, hx, if_false, hc, List.cons.injEq] at e
          obtain ⟨rfl, rfl⟩ := e
          refine ⟨by simp [upTo, hx, j1], by simp [j2], ?_⟩
          simp only [List.length_cons, List.drop_succ_cons, j3, cutL, hx, if_false, hc]
        · simp [cutL, hx, hc] at e
/-- Lines of two texts together. -/
theorem cutL_append (s : UInt8) (q : List UInt8) : ∀ p : List UInt8, cutL s (p ++ q) = ((cutL s p).1 ++ (cutL s ((cutL s p).2 ++ q)).1, (cutL s ((cutL s p).2 ++ q)).2)
  | [] => by simp [cutL]
  | x :: p => by
    have ih := cutL_append s q p
    by_cases hx : x = s
    · subst hx
      simp only [List.cons_append, cutL, if_true, ih]
    · cases hc : (cutL s p).1 with
      | nil =>
        have e1 : cutL s (x :: p) = ([], x :: (cutL s p).2) := by simp [cutL, hx, hc]
        rw [hc, List.nil_append] at ih
        rw [e1, List.cons_append, List.nil_append, List.cons_append]
        simp only [cutL, hx, if_false, ih]
      | cons h0 t0 =>
        have e1 : cutL s (x :: p) = ((x :: h0) :: t0, (cutL s p).2) := by simp [cutL, hx, hc]
        rw [hc] at ih
        rw [e1, List.cons_append]
        simp only [cutL, hx, if_false, ih, List.cons_append]
/-- How many lines end in a text. -/
theorem cutL_count (s : UInt8) : ∀ l : List UInt8, (cutL s l).1.length = l.count s
  | [] => rfl
  | x :: l => by
    have ih := cutL_count s l
    by_cases hx : x = s
    · subst hx
      simp [cutL, ih]
    · cases hc : (cutL s l).1 with
      | nil => rw [hc] at ih; simp [cutL, hx, hc, ← ih]
      | cons h0 t0 => rw [hc] at ih; simp [cutL, hx, hc, ← ih]
/-- Reading all lines. -/
theorem txRun_lines (op : Int) (s : UInt8) (hop : op = 9 ∨ op = 10) : ∀ (ls : List (List UInt8)) (t : List UInt8), (cutL s t).1 = ls → txRun t (List.replicate ls.length (rdC op s)) = (ls.map Td.ofText, (cutL s t).2)
  | [], t, h => by
    have := ((upTo_cutL s t).2 h).2
    simp [txRun, this]
  | h :: ls, t, e => by
    obtain ⟨k1, k2, k3⟩ := (upTo_cutL s t).1 h ls e
    have hst : txStep t (rdC op s) = (t.drop h.length, Td.ofText h) := by
      have : ¬ (op ≤ 2) := by omega
      simp [txStep, rdC, this, k1, k2]
    have ih := txRun_lines op s hop ls (t.drop h.length) (by rw [k3])
    simp only [List.length_cons, List.replicate_succ, txRun, hst, ih, k3, List.map_cons]
/-- Reading the rest. -/
theorem txStep_rest (op : Int) (s : UInt8) (hop : op = 9 ∨ op = 10) (t : List UInt8) (h : (cutL s t).1 = []) : txStep t (rdC op s) = ([], ⟨0, t, 0, 1⟩) := by
  have := ((upTo_cutL s t).2 h).1
  have h2 : ¬ (op ≤ 2) := by omega
  simp [txStep, rdC, h2, this]
theorem cutL_tail (s : UInt8) (l : List UInt8) : (cutL s (cutL s l).2).1 = [] := by
  have h := cutL_append s [] l
  rw [List.append_nil, List.append_nil] at h
  have h1 := congrArg (fun q => q.1.length) h
  simp at h1
  exact h1

/-- A piece: it is written, and each line that ends in it is read. -/
def pcF (s : UInt8) (p : List UInt8) : List Cl := wrC 2 p :: List.replicate (p.count s) (rdC 9 s)
def feedF (s : UInt8) : List UInt8 → List Nat → List Cl
  | rest, [] => if rest = [] then [] else pcF s rest
  | rest, k :: ks => if rest = [] then [] else pcF s (rest.take k) ++ feedF s (rest.drop k) ks
theorem feedF_nil (s : UInt8) (ks : List Nat) : feedF s [] ks = [] := by cases ks <;> simp [feedF]
/-- What the reads of a script told. -/
def pickF : List Cl → List Td → List Td
  | c :: cs, t :: ts => if c.op = 9 then t :: pickF cs ts else pickF cs ts
  | _, _ => []
theorem pickF_append : ∀ (cs ds : List Cl) (ts us : List Td), cs.length = ts.length → pickF (cs ++ ds) (ts ++ us) = pickF cs ts ++ pickF ds us
  | [], ds, [], us, _ => by simp [pickF]
  | c :: cs, ds, t :: ts, us, h => by
    have ih := pickF_append cs ds ts us (by simpa using h)
    simp only [List.cons_append, pickF, ih]
    split <;> simp
  | [], ds, t :: ts, us, h => by simp at h
  | c :: cs, ds, [], us, h => by simp at h
theorem pickF_all (s : UInt8) : ∀ (n : Nat) (ts : List Td), ts.length = n → pickF (List.replicate n (rdC 9 s)) ts = ts
  | 0, [], _ => rfl
  | n + 1, t :: ts, h => by
    have ih := pickF_all s n ts (by simpa using h)
    simp [List.replicate_succ, pickF, rdC] at ih ⊢
    exact ih
  | 0, t :: ts, h => by simp at h
  | n + 1, [], h => by simp at h
theorem txRun_len : ∀ (l : List Cl) (t : List UInt8), (txRun t l).1.length = l.length
  | [], _ => rfl
  | c :: l, t => by simp [txRun, txRun_len l]
theorem pc_run (s : UInt8) (p t : List UInt8) (ht : (cutL s t).1 = []) : pickF (pcF s p) (txRun t (pcF s p)).1 = (cutL s (t ++ p)).1.map Td.ofText ∧ (txRun t (pcF s p)).2 = (cutL s (t ++ p)).2 := by
  have hc : p.count s = (cutL s (t ++ p)).1.length := by
    have h0 := cutL_count s t
    rw [ht] at h0
    rw [cutL_count, List.count_append, ← h0]
    simp
  have hst : txStep t (wrC 2 p) = (t ++ p, Td.ofN p.length) := by simp [txStep, wrC]
  have hl := txRun_lines 9 s (.inl rfl) _ (t ++ p) rfl
  unfold pcF
  rw [hc]
  simp only [txRun, hst, hl]
  refine ⟨?_, trivial⟩
  have hp := pickF_all s (cutL s (t ++ p)).1.length ((cutL s (t ++ p)).1.map Td.ofText) (by simp)
  simp [pickF, wrC, hp]
theorem feed_run (s : UInt8) : ∀ (ks : List Nat) (rest t : List UInt8), (cutL s t).1 = [] → pickF (feedF s rest ks) (txRun t (feedF s rest ks)).1 = (cutL s (t ++ rest)).1.map Td.ofText ∧ (txRun t (feedF s rest ks)).2 = (cutL s (t ++ rest)).2
  | [], rest, t, ht => by
    by_cases hr : rest = []
    · subst hr
      simp only [feedF, if_true, txRun, pickF, List.append_nil, ht, List.map_nil, true_and]
      exact ((upTo_cutL s t).2 ht).2.symm
    · simp only [feedF, hr, if_false]
      exact pc_run s rest t ht
  | k :: ks, rest, t, ht => by
    by_cases hr : rest = []
    · subst hr
      simp only [feedF, if_true, txRun, pickF, List.append_nil, ht, List.map_nil, true_and]
      exact ((upTo_cutL s t).2 ht).2.symm
    · simp only [feedF, hr, if_false]
      obtain ⟨p1, p2⟩ := pc_run s (rest.take k) t ht
      rw [txRun_append, pickF_append _ _ _ _ (txRun_len _ _).symm, p1, p2]
      obtain ⟨q1, q2⟩ := feed_run s ks (rest.drop k) (cutL s (t ++ rest.take k)).2 (cutL_tail s _)
      have e := cutL_append s (rest.drop k) (t ++ rest.take k)
      rw [List.append_assoc, List.take_append_drop] at e
      rw [q1, q2, e, List.map_append]
      exact ⟨rfl, rfl⟩
theorem feedF_liney (s : UInt8) : ∀ (ks : List Nat) (rest : List UInt8), ∀ c ∈ feedF s rest ks, Liney c
  | ks, rest, c, h => by
    have hp : ∀ p, ∀ c ∈ pcF s p, Liney c := by
      intro p c hc
      rcases List.mem_cons.1 hc with rfl | hc
      · exact ⟨.inr (.inl rfl), rfl⟩
      · rw [(List.mem_replicate.1 hc).2]
        exact ⟨.inr (.inr (.inl rfl)), rfl⟩
    cases ks with
    | nil =>
      simp only [feedF] at h
      split at h
      · simp at h
      · exact hp _ c h
    | cons k ks =>
      simp only [feedF] at h
      split at h
      · simp at h
      · rcases List.mem_append.1 h with h | h
        · exact hp _ c h
        · exact feedF_liney s ks (rest.drop k) c h
/-- THE PLAIN LAW. -/
theorem lines_law (s : UInt8) (text : List UInt8) (ks : List Nat) (fed whole : List Cl) (hf : fed = feedF s text ks ++ [rdC 9 s]) (hw : whole = wrC 1 text :: (List.replicate (text.count s) (rdC 10 s) ++ [rdC 10 s])) :
    pickF fed (txRun [] fed).1 = (txRun [] whole).1.tail ∧ ((pickF fed (txRun [] fed).1).map (·.text)).flatten = text ∧ (txRun [] fed).2 = [] ∧ (txRun [] whole).2 = [] := by
  obtain ⟨p1, p2⟩ := feed_run s ks text [] rfl
  rw [List.nil_append] at p1 p2
  have ht := cutL_tail s text
  have hr9 := txStep_rest 9 s (.inl rfl) _ ht
  have hr10 := txStep_rest 10 s (.inr rfl) _ ht
  have e1 : txRun [] fed = ((txRun [] (feedF s text ks)).1 ++ [⟨0, (cutL s text).2, 0, 1⟩], []) := by
    rw [hf, txRun_append, p2]
    simp [txRun, hr9]
  have e2 : pickF fed (txRun [] fed).1 = (cutL s text).1.map Td.ofText ++ [⟨0, (cutL s text).2, 0, 1⟩] := by
    rw [e1, hf]
    simp only
    rw [pickF_append _ _ _ _ (txRun_len _ _).symm, p1]
    rfl
  have hst : txStep [] (wrC 1 text) = (text, Td.ofN text.length) := by simp [txStep, wrC]
  have e3 : txRun [] whole = (Td.ofN text.length :: ((cutL s text).1.map Td.ofText ++ [⟨0, (cutL s text).2, 0, 1⟩]), []) := by
    have hl := txRun_lines 10 s (.inr rfl) _ text rfl
    rw [cutL_count] at hl
    rw [hw]
    simp only [txRun, hst]
    rw [txRun_append, hl]
    simp [txRun, hr10]
  refine ⟨by rw [e2, e3]; rfl, ?_, by rw [e1], by rw [e3]⟩
  rw [e2]
  have := cutL_flat s text
  simp only [List.map_append, List.map_map, List.map_cons, List.map_nil, List.flatten_append]
  have e4 : ((fun x : Td => x.text) ∘ Td.ofText) = id := rfl
  rw [e4, List.map_id]
  simpa using this
end Go.Proofs.YtimigjjokdnfbaaDoor
