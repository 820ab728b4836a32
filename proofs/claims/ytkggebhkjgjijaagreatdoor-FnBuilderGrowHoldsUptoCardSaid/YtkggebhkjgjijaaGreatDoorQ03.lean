/- Mix. -/
import Derived.StillTailTactics
namespace Go.Proofs.YtkggebhkjgjijaaGreatDoor
open Go

section
variable {P : Program} {ops : Array Oper} {md : Region.Mode} {w : World}

/-- A plain move. -/
def isMv (o : Oper) : Bool := match o.op with
  | .move _ => o.after.isEmpty && o.guard.isNone
  | _ => false

theorem isMv_yields {o : Oper} (h : isMv o = true) (a : Act) : ∃ v, Yields P ops o v a ∧ ∀ (K : Act → Prop), (if Region.wanted o (yielded ops a.tmps) then o.still P a w K else K (a.put o.dst undef)) → K (a.put o.dst v) := by
  unfold isMv at h
  split at h
  · rename_i x hx
    simp only [Bool.and_eq_true, Array.isEmpty_iff, Option.isNone_iff_eq_none] at h
    have hw : Region.wanted o (yielded ops a.tmps) = true := by simp [Region.wanted, h.2]
    have hr : ∀ w', (execOp a.eval o).run P w' = .ok (.value (a.eval x)) w' := by intro w'; simp [execOp, hx]
    refine ⟨a.eval x, .inl ⟨hw, hr⟩, fun K hK => ?_⟩
    rw [hw, if_pos rfl, Oper.still, hr] at hK
    exact hK.2
  · cases h

/-- The moves, one by one. -/
def mvB (md : Region.Mode) (ops : Array Oper) : List Nat → Array Bool → Bool
  | [], _ => true
  | k :: ks, listed => (Region.ready md ops listed).contains k && Region.free md ops listed k && ((ops[k]?).map isMv).getD false && mvB md ops ks (listed.setIfInBounds k true)
def listAll : List Nat → Array Bool → Array Bool
  | [], listed => listed
  | k :: ks, listed => listAll ks (listed.setIfInBounds k true)
def opsAt (ops : Array Oper) (ks : List Nat) : List Oper := ks.filterMap (ops[·]?)

theorem wpAny_moves {Q : Exit → Act → World → Prop} (hsel : Region.noSelect ops = true) (hQ : ∀ c (a : Act) d v w, Q (.panic c) (a.put d v) w → Q (.panic c) a w) {f : Nat} {R : Act → Prop} :
    ∀ (ks : List Nat) (listed : Array Bool) (a : Act), mvB md ops ks listed = true → (∀ a, R a → wpAny P md ops Q f (listAll ks listed) a w) →
    wpStill P ops w R (opsAt ops ks) a → wpAny P md ops Q (ks.length + f) listed a w
  | [], listed, a, _, hR, h => by rw [List.length_nil, Nat.zero_add]; exact hR a h
  | k :: ks, listed, a, hB, hR, h => by
    simp only [mvB, Bool.and_eq_true] at hB
    obtain ⟨⟨⟨hr, hf⟩, hv⟩, hB'⟩ := hB
    cases ho : ops[k]? with
    | none => rw [ho] at hv; cases hv
    | some o =>
      rw [ho] at hv
      have hv : isMv o = true := by simpa using hv
      obtain ⟨v, hy, hK⟩ := isMv_yields (P := P) (ops := ops) (w := w) hv a
      have he : opsAt ops (k :: ks) = o :: opsAt ops ks := by simp [opsAt, ho]
      rw [he] at h
      have h2 := hK _ h
      rw [show (k :: ks).length + f = (ks.length + f) + 1 by simp; omega]
      exact wpAny_take ho hsel hf hr (fun c a w => hQ c a _ _ w) hy (wpAny_moves hsel hQ ks _ _ hB' hR h2)

/-- The tail begins at n; the moves ks come first. -/
def sinkM (md : Region.Mode) (ops : Array Oper) (ks : List Nat) (n : Nat) : Bool :=
  (List.range n).all fun i => ks.contains i || (List.range (n + 1)).any fun j => decide (i < j) && Region.waitsFor md ops j i

structure MixInv (md : Region.Mode) (ops : Array Oper) (ks : List Nat) (n : Nat) (listed : Array Bool) : Prop extends HeadInv md ops n listed where
  mv : ∀ k ∈ ks, listed.getD k false = true

theorem mix_waits {ks : List Nat} {n : Nat} {listed : Array Bool} (hs : sinkM md ops ks n = true) (hc : Region.chainB md ops n = true) (inv : MixInv md ops ks n listed) :
    ∀ (d i : Nat), n - i = d → i < n → listed.getD i true = false → ∀ t, n ≤ t → t ∉ Region.ready md ops listed := by
  intro d
  induction d using Nat.strongRecOn with
  | _ d ih =>
    intro i hd hi hun t ht hr
    obtain ⟨_, ot, hot, hall⟩ := mem_ready.1 hr
    have htlt : t < ops.size := (Array.getElem?_eq_some_iff.1 hot).1
    by_cases htn : t = n
    · subst htn
      have h1 := List.all_eq_true.1 hs i (List.mem_range.2 hi)
      simp only [Bool.or_eq_true] at h1
      rcases h1 with h1 | h1
      · have := inv.mv i (by simpa using h1)
        rw [getD_both hun] at this
        cases this
      obtain ⟨j, hj, hj2⟩ := List.any_eq_true.1 h1
      simp only [Bool.and_eq_true, decide_eq_true_eq] at hj2
      obtain ⟨oj, hoj, e, he, hb, hon⟩ := Region.waitsFor_spec hj2.2
      have hjle : j ≤ t := by have := List.mem_range.1 hj; omega
      by_cases hjt : j = t
      · subst hjt
        have : oj = ot := Option.some.inj (hoj.symm.trans hot)
        subst this
        have h2 := hall e he hb
        rw [hon, getD_both hun] at h2
        cases h2
      · cases hl : listed.getD j false with
        | true =>
          have h2 := inv.closed j oj hoj hl e he hb
          rw [hon, getD_both hun] at h2
          cases h2
        | false =>
          have hjs : j < listed.size := by rw [inv.size]; omega
          exact ih (t - j) (by omega) j rfl (by omega) (getD_in hjs hl) t (Nat.le_refl _) hr
    · have h1 := List.all_eq_true.1 hc t (List.mem_range.2 htlt)
      simp only [Bool.or_eq_true, decide_eq_true_eq] at h1
      rcases h1 with h1 | h1
      · omega
      · obtain ⟨o', ho', e, he, hb, hon⟩ := Region.waitsFor_spec h1
        have : o' = ot := Option.some.inj (ho'.symm.trans hot)
        subst this
        have h2 := hall e he hb
        rw [hon, getD_both (inv.tail (t - 1) (by omega) (by omega))] at h2
        cases h2

theorem MixInv.set {ks : List Nat} {n i : Nat} {listed : Array Bool} (inv : MixInv md ops ks n listed) (hi : i ∈ Region.ready md ops listed) (hin : i < n) : MixInv md ops ks n (listed.setIfInBounds i true) :=
  ⟨inv.toHeadInv.set hi hin, fun k hk => getD_set_true (inv.mv k hk)⟩

theorem mix_first {ks : List Nat} {n i : Nat} {oi : Oper} {v : Value} {L : Array Bool → Act → Prop} (hi : ops[i]? = some oi) (hsel : ∀ (j : Nat) (o : Oper) cs b, ops[j]? = some o → o.op ≠ .select cs b)
    (hs : sinkM md ops ks n = true) (hc : Region.chainB md ops n = true) (hin : i < n)
    (hdone : ∀ listed a, L listed a → ∀ j ∈ Region.ready md ops listed, n ≤ j) :
    ∀ (f : Nat) (listed : Array Bool) (a : Act), MixInv md ops ks n listed →
      (∀ j oj, ops[j]? = some oj → j ≠ i → listed.getD j true = false → (∀ e ∈ oj.after, Region.binds md e = true → e.on ≠ i) → oi.apart ops oj = true) →
      i ∈ Region.ready md ops listed → YieldsAt P ops w oi v a →
      wpAnyL P md ops w n L f (listed.setIfInBounds i true) (a.put oi.dst v) → wpAnyL P md ops w n L (f + 1) listed a := by
  intro f
  induction f with
  | zero =>
    intro listed a inv _ hr hy H
    have hun := (mem_ready.1 hr).1
    refine ⟨fun h => (by rw [h] at hr; cases hr), fun j hj => ?_⟩
    have hjn : j < n := by
      rcases Nat.lt_or_ge j n with h | h
      · exact h
      · exact absurd hj (mix_waits hs hc inv _ i rfl hin hun j h)
    refine ⟨hjn, ?_⟩
    by_cases hji : j = i
    · subst hji; exact hy.stOp hi H
    · have := hdone _ _ H j (ready_mono hj hji)
      omega
  | succ f ih =>
    intro listed a inv hfree hr hy H
    have hun := (mem_ready.1 hr).1
    refine ⟨fun h => (by rw [h] at hr; cases hr), fun j hj => ?_⟩
    have hjn : j < n := by
      rcases Nat.lt_or_ge j n with h | h
      · exact h
      · exact absurd hj (mix_waits hs hc inv _ i rfl hin hun j h)
    refine ⟨hjn, ?_⟩
    by_cases hji : j = i
    · subst hji; exact hy.stOp hi H
    · have h1 := (H.2 j (ready_mono hj hji)).2
      obtain ⟨hjun, oj, hoj, hall⟩ := mem_ready.1 hj
      have hnot : ∀ e ∈ oj.after, Region.binds md e = true → e.on ≠ i := fun e he hb heq => by
        have h1 := hall e he hb
        rw [heq, getD_both hun] at h1
        cases h1
      have h2 := stOp_put hoj (hfree j oj hoj hji hjun hnot) (fun cs b => hsel i oi cs b hi) (fun cs b => hsel j oj cs b hoj) hy h1
      have hfree' : ∀ k ok, ops[k]? = some ok → k ≠ i → (listed.setIfInBounds j true).getD k true = false →
          (∀ e ∈ ok.after, Region.binds md e = true → e.on ≠ i) → oi.apart ops ok = true := fun k ok hk hki hun hno => by
        refine hfree k ok hk hki ?_ hno
        by_cases hjk : j = k
        · subst hjk; exact hjun
        · rw [getD_set_ne true hjk] at hun; exact hun
      refine stOp_mono (fun a' h3 => ih (listed.setIfInBounds j true) a' (inv.set hj hjn) hfree' (ready_mono hr (Ne.symm hji)) h3.1 ?_) h2
      rw [Array.setIfInBounds_comm _ _ hji]
      exact h3.2

/-- The head's order, the numbers given. -/
def headB (md : Region.Mode) (ops : Array Oper) (g n : Nat) : List Nat → Array Bool → Bool
  | [], listed => Region.seqB md ops g n listed
  | k :: ks, listed => (Region.ready md ops listed).contains k && Region.free md ops listed k && decide (k < n) && headB md ops g n ks (listed.setIfInBounds k true)

theorem mix_lex {ks : List Nat} {n g : Nat} {Lq : Act → Prop} (hsel : Region.noSelect ops = true) (hs : sinkM md ops ks n = true) (hc : Region.chainB md ops n = true) :
    ∀ (hd : List Nat) (listed : Array Bool) (a : Act), MixInv md ops ks n listed → headB md ops g n hd listed = true → wpStill P ops w Lq (opsAt ops hd) a →
    wpAnyL P md ops w n (fun listed' a' => Region.seqB md ops g n listed' = true ∧ Lq a') hd.length listed a
  | [], listed, a, _, hB, h => ⟨hB, h⟩
  | k :: hd, listed, a, inv, hB, h => by
    simp only [headB, Bool.and_eq_true, decide_eq_true_eq] at hB
    obtain ⟨⟨⟨hr, hf⟩, hkn⟩, hB'⟩ := hB
    have hr' : k ∈ Region.ready md ops listed := by simpa using hr
    obtain ⟨_, o, h0, _⟩ := mem_ready.1 hr'
    have he : opsAt ops (k :: hd) = o :: opsAt ops hd := by simp [opsAt, h0]
    rw [he] at h
    have hst : stOp P ops w k (wpStill P ops w Lq (opsAt ops hd)) a := by unfold stOp; simp only [h0]; exact h
    obtain ⟨v, hy, hK⟩ := yieldsAt_of_stOp h0 hst
    exact mix_first h0 (Region.noSelect_spec hsel) hs hc hkn (fun listed' a' hL => seqB_ready hL.1) hd.length listed a inv (Region.free_spec h0 hf) hr' hy
      (mix_lex hsel hs hc hd _ _ (inv.set hr' hkn) hB' hK)

/-- Which operations ahead of n are plain moves. -/
def mvIdx (l : List Oper) (n : Nat) : List Nat := (List.range n).filter fun k => ((l[k]?).map isMv).getD false
def hdIdx (l : List Oper) (n : Nat) : List Nat := (List.range n).filter fun k => !((l[k]?).map isMv).getD false
def noDeps (ops : Array Oper) (ks : List Nat) : Bool := ks.all fun k => ((ops[k]?).map (·.after.isEmpty)).getD false
def mixB (l : List Oper) (n : Nat) : Bool :=
  Region.noSelect l.toArray && decide (n < l.length) && mvB .any l.toArray (mvIdx l n) (Array.replicate l.length false) && noDeps l.toArray (mvIdx l n) && sinkM .any l.toArray (mvIdx l n) n && Region.chainB .any l.toArray n
    && headB .any l.toArray (l.length - n) n (hdIdx l n) (listAll (mvIdx l n) (Array.replicate l.length false)) && decide ((mvIdx l n).length + (hdIdx l n).length = n) && decide ((mvIdx l n).all (· < n))

theorem listAll_size : ∀ (ks : List Nat) (listed : Array Bool), (listAll ks listed).size = listed.size
  | [], _ => rfl
  | k :: ks, listed => by rw [listAll, listAll_size ks]; simp
theorem listAll_mono : ∀ (ks : List Nat) (listed : Array Bool) (j : Nat), listed.getD j false = true → (listAll ks listed).getD j false = true
  | [], _, _, h => h
  | k :: ks, listed, j, h => by rw [listAll]; exact listAll_mono ks _ j (getD_set_true h)
theorem listAll_mem : ∀ (ks : List Nat) (listed : Array Bool) (k : Nat), k ∈ ks → k < listed.size → (listAll ks listed).getD k false = true
  | [], _, _, h, _ => by cases h
  | k' :: ks, listed, k, h, hk => by
    rw [listAll]
    rcases List.mem_cons.1 h with rfl | h
    · exact listAll_mono ks _ _ (by simp [hk])
    · exact listAll_mem ks _ k h (by simpa using hk)
theorem listAll_only : ∀ (ks : List Nat) (listed : Array Bool) (j : Nat), (listAll ks listed).getD j false = true → j ∈ ks ∨ listed.getD j false = true
  | [], _, _, h => .inr h
  | k :: ks, listed, j, h => by
    rw [listAll] at h
    rcases listAll_only ks _ j h with h | h
    · exact .inl (List.mem_cons_of_mem _ h)
    · by_cases e : k = j
      · exact .inl (by rw [e]; exact List.mem_cons_self)
      · rw [getD_set_ne false e] at h; exact .inr h

/-- The region: its moves, then what it reads, then its tail. -/
theorem wp_region_mix {id : Nat} {Q : Exit → Act → World → Prop} {a : Act} {w : World} {l : List Oper} (n : Nat) (hm : P.follows .mixedOrders = true) (hB : mixB l n = true)
    (hQ : ∀ c (a : Act) d v w, Q (.panic c) (a.put d v) w → Q (.panic c) a w)
    (h : wpStill P l.toArray w.drew (fun a' => wpStill P l.toArray w.drew (fun a'' => wpList P l.toArray Q (l.drop n) a'' w.drew) (opsAt l.toArray (hdIdx l n)) a') (opsAt l.toArray (mvIdx l n)) a) :
    (Code.region id l.toArray true).wp P Q a w := by
  simp only [mixB, Bool.and_eq_true, decide_eq_true_eq] at hB
  obtain ⟨⟨⟨⟨⟨⟨⟨⟨hsel, hn⟩, hmv⟩, hnd⟩, hs⟩, hc⟩, hhd⟩, hlen⟩, hlt⟩ := hB
  refine wp_region_any hm ?_
  have hsz : l.toArray.size = (mvIdx l n).length + ((hdIdx l n).length + (l.length - n)) := by simp; omega
  suffices H : wpAny P .any l.toArray Q ((mvIdx l n).length + ((hdIdx l n).length + (l.length - n))) (Array.replicate l.length false) a w.drew by
    rw [← hsz] at H
    simpa using H
  refine wpAny_moves hsel hQ (mvIdx l n) _ a hmv (fun a' ha => ?_) h
  have inv0 : MixInv .any l.toArray (mvIdx l n) n (listAll (mvIdx l n) (Array.replicate l.length false)) := by
    refine ⟨⟨by rw [listAll_size]; simp, fun j oj hj hl e he _ => ?_, fun t ht ht' => ?_⟩, fun k hk => ?_⟩
    · rcases listAll_only _ _ _ hl with h1 | h1
      · have := List.all_eq_true.1 hnd j h1
        rw [hj] at this
        simp only [Option.map_some, Option.getD_some, Array.isEmpty_iff] at this
        rw [this] at he
        simp at he
      · rw [getD_replicate_false] at h1; cases h1
    · refine getD_in (by rw [listAll_size]; simpa using ht') ?_
      cases hq : (listAll (mvIdx l n) (Array.replicate l.length false)).getD t false with
      | false => rfl
      | true =>
        rcases listAll_only _ _ _ hq with h1 | h1
        · have := List.all_eq_true.1 hlt t h1
          simp only [decide_eq_true_eq] at this
          omega
        · rw [getD_replicate_false] at h1; cases h1
    · have := List.all_eq_true.1 hlt k hk
      simp only [decide_eq_true_eq] at this
      exact listAll_mem _ _ k hk (by simp; omega)
  have H := mix_lex (P := P) (md := .any) (w := w.drew) (g := l.length - n) hsel hs hc (hdIdx l n) _ a' inv0 hhd ha
  have hdl : (l.drop n).length = l.length - n := by simp
  have := wpAny_of_head (Q' := Q) (g := l.length - n) (fun listed a' hL => by
    have := wpAny_of_seq (md := .any) (Q' := Q) (l.drop n) n listed a' w.drew (fun j => by simp [List.getElem?_drop]) (by rw [hdl]; exact hL.1) hL.2
    rwa [hdl] at this) _ _ _ H
  simpa using this

theorem opsAt_filter (p : Oper → Bool) : ∀ (l : List Oper) (n : Nat), opsAt l.toArray ((List.range n).filter fun k => ((l[k]?).map p).getD false) = (l.take n).filter p := by
  intro l n
  have key : ∀ n, (List.filterMap (fun k => l[k]?) ((List.range n).filter fun k => ((l[k]?).map p).getD false)) = (l.take n).filter p := by
    intro n
    induction n with
    | zero => simp
    | succ n ih =>
      rw [List.range_succ, List.filter_append, List.filterMap_append, ih, List.take_add_one, List.filter_append]
      congr 1
      cases h : l[n]? with
      | none => simp [h]
      | some o => cases hp : p o <;> simp [h, hp]
  unfold opsAt
  rw [← key n]
  congr 1
  funext k
  simp
theorem opsAt_filter_not (p : Oper → Bool) (l : List Oper) (n : Nat) (hn : n ≤ l.length) : opsAt l.toArray ((List.range n).filter fun k => !((l[k]?).map p).getD false) = (l.take n).filter (fun o => !p o) := by
  rw [← opsAt_filter (fun o => !p o)]
  congr 1
  refine List.filter_congr fun k hk => ?_
  have hk : k < l.length := by have := List.mem_range.1 hk; omega
  simp [List.getElem?_eq_getElem hk]

/-- The region, as it is used: 'n' operations ahead of the tail. -/
theorem wp_region_mixed {id : Nat} {Q : Exit → Act → World → Prop} {a : Act} {w : World} {l : List Oper} (n : Nat) (hm : P.follows .mixedOrders = true) (hB : mixB l n = true)
    (hQ : ∀ c (a : Act) d v w, Q (.panic c) (a.put d v) w → Q (.panic c) a w)
    (h : wpStill P l.toArray w.drew (fun a' => wpStill P l.toArray w.drew (fun a'' => wpList P l.toArray Q (l.drop n) a'' w.drew) ((l.take n).filter (fun o => !isMv o)) a') ((l.take n).filter isMv) a) :
    (Code.region id l.toArray true).wp P Q a w := by
  refine wp_region_mix n hm hB hQ ?_
  have hn : n ≤ l.length := by
    simp only [mixB, Bool.and_eq_true, decide_eq_true_eq] at hB
    omega
  unfold mvIdx hdIdx
  rw [opsAt_filter isMv, opsAt_filter_not isMv l n hn]
  exact h
end
end Go.Proofs.YtkggebhkjgjijaaGreatDoor
