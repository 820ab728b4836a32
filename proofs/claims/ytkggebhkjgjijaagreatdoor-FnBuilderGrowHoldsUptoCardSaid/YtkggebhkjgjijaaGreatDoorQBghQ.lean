/- What the walk of FnBuilderGrowHolds asks besides. -/
import Derived.Test.YtkggebhkjgjijaaGreatDoorQ34
namespace Go.Proofs.YtkggebhkjgjijaaGreatDoor
open Go Go.RowKit

theorem textF_le (c : Cl) : (textF c).length ≤ c.text.length + 4 := by
  unfold textF
  split
  · simp
  · split
    · have := enc_len c.char
      omega
    · omega
theorem wrS_step {n sum k : Nat} {ds : List Cl} {d : Cl} (h : ds[k]? = some d) : wrS n sum (ds.drop k) = if (28 ≤ d.op ∧ d.op ≤ 31) ∧ d.at0.valid ∧ sum + (textF d.at0).length ≤ n then d.at0 :: wrS n (sum + (textF d.at0).length) (ds.drop (k + 1)) else wrS n sum (ds.drop (k + 1)) := by
  obtain ⟨hl, e⟩ := List.getElem?_eq_some_iff.1 h
  rw [List.drop_eq_getElem_cons hl, e]
  rfl
theorem wrS_mem {n : Nat} {c : Cl} : ∀ (l : List Cl) (sum : Nat), c ∈ wrS n sum l → ∃ d ∈ l, c = d.at0 ∧ 28 ≤ c.op
  | [], sum, h => by cases h
  | d :: l, sum, h => by
    simp only [wrS] at h
    split at h
    · rename_i q
      rcases List.mem_cons.1 h with rfl | h
      · exact ⟨d, by simp, rfl, q.1.1⟩
      · obtain ⟨x, hx, e⟩ := wrS_mem l _ h
        exact ⟨x, by simp [hx], e⟩
    · obtain ⟨x, hx, e⟩ := wrS_mem l _ h
      exact ⟨x, by simp [hx], e⟩
theorem wrS_len {n : Nat} : ∀ (l : List Cl) (sum : Nat), (wrS n sum l).length ≤ l.length ∧ wsum (wrS n sum l) ≤ wsum l
  | [], sum => ⟨Nat.le_refl _, Nat.le_refl _⟩
  | d :: l, sum => by
    simp only [wrS]
    split
    · have ih := wrS_len (n := n) l (sum + (textF d.at0).length)
      have e : d.at0.text = d.text := rfl
      rw [wsum_cons, wsum_cons, e, List.length_cons, List.length_cons]
      omega
    · have ih := wrS_len (n := n) l sum
      rw [wsum_cons, List.length_cons]
      omega
theorem runB : ∀ (l : List Cl) (s : List UInt8), (∀ c ∈ l, c.a = 0 ∧ 28 ≤ c.op) → ∃ s', (runF (yb1 s) l).2 = yb1 s'
  | [], s, _ => ⟨s, rfl⟩
  | c :: l, s, h => by
    simp only [runF]
    split
    · exact ⟨s, rfl⟩
    · obtain ⟨s', t, ok, e⟩ := yb1_step (h c (by simp)).1 (h c (by simp)).2 s
      rw [e]
      exact runB l s' (fun d hd => h d (by simp [hd]))
theorem grC_ok (n : Nat) (w : World) : ClOk w (grC n) := ⟨by simp [grC], ⟨(by intro x h; cases h), (by intro h; cases h)⟩, by simp [grC], by simp [grC]⟩
/-- The script that the law plays, and what is known of it. -/
structure GrowS (w : World) (l1 ds : List Cl) (n : Nat) (cs : List Cl) : Prop where
  eq : cs = l1 ++ [grC n] ++ wrS n 0 ds
  mild1 : Mild (yb1 []) l1
  script : Script w (yb1 []) cs
  mild : Mild (yb1 []) cs
  h28 : ∀ c ∈ cs, c.a = 0 ∧ 28 ≤ c.op
  len : cs.length ≤ 8193
  sz : wsum cs + 66000 ≤ 1099511627776
  one : ∃ s1, (runF (yb1 []) l1).2 = yb1 s1
theorem grow_script {w : World} {cs ds l1 : List Cl} {n : Nat} (h1 : CallsOk w cs) (h2 : CallsOk w ds) (e : l1 = calmF (Yd.begin [] 1) (keepF (fun c => decide (28 ≤ c.op)) cs)) (hn : n ≤ 65535) (hl : cs.length + ds.length ≤ 4096) (hb : wsum cs ≤ 8388608) : GrowS w l1 ds n (l1 ++ [grC n] ++ wrS n 0 ds) := by
  have m1 : Mild (yb1 []) l1 := by rw [e]; exact calm_mild _ _
  have hm : ∀ c ∈ l1, (c.a = 0 ∧ 28 ≤ c.op) ∧ ClOk w c := fun c hc => by
    rw [e] at hc
    obtain ⟨d, hd, rfl, hk⟩ := keep_mem (calm_mem _ _ c hc)
    have q := h1.ok d hd
    exact ⟨⟨rfl, of_decide_eq_true hk⟩, ⟨q.size, q.cuts, q.few, q.text⟩⟩
  have hw : ∀ c ∈ wrS n 0 ds, (c.a = 0 ∧ 28 ≤ c.op) ∧ ClOk w c := fun c hc => by
    obtain ⟨d, hd, rfl, hk⟩ := wrS_mem ds 0 hc
    have q := h2.ok d hd
    exact ⟨⟨rfl, hk⟩, ⟨q.size, q.cuts, q.few, q.text⟩⟩
  have hall : ∀ c ∈ l1 ++ [grC n] ++ wrS n 0 ds, (c.a = 0 ∧ 28 ≤ c.op) ∧ ClOk w c := fun c hc => by
    rcases List.mem_append.1 hc with hc | hc
    · rcases List.mem_append.1 hc with hc | hc
      · exact hm c hc
      · simp only [List.mem_cons, List.not_mem_nil, or_false] at hc
        subst hc
        exact ⟨⟨rfl, by show (28 : Int) ≤ 32; decide⟩, grC_ok n w⟩
    · exact hw c hc
  obtain ⟨s1, hs1⟩ := runB l1 [] (fun c hc => (hm c hc).1)
  have l2 := calm_len (keepF (fun c => decide (28 ≤ c.op)) cs) (Yd.begin [] 1)
  have l3 := wsum_calm (keepF (fun c => decide (28 ≤ c.op)) cs) (Yd.begin [] 1)
  rw [← e] at l2 l3
  have l4 := wsum_keep (fun c => decide (28 ≤ c.op)) cs
  have l5 : (keepF (fun c => decide (28 ≤ c.op)) cs).length ≤ cs.length := by have := keep_len (fun c => decide (28 ≤ c.op)) cs cs.length; rwa [List.take_length] at this
  have l6 := wrS_len (n := n) ds 0
  have l7 := h1.sz
  have l8 := h2.sz
  refine ⟨rfl, m1, ⟨fun c hc => (hall c hc).2, fun c hc => ?_, fun c hc => ?_⟩, (grow_mild m1 hs1 hn ds).2.2, fun c hc => (hall c hc).1, ?_, ?_, s1, hs1⟩
  · have := (hall c hc).1.2
    unfold Cl.plays
    omega
  · have := (hall c hc).1
    unfold Cl.there
    rw [if_pos this.2, this.1]
    exact ⟨by omega, by simp [yb1]⟩
  · simp only [List.length_append, List.length_cons, List.length_nil]
    omega
  · rw [wsum_append, wsum_append]
    have : wsum [grC n] = 4 := rfl
    omega
theorem own_room {E : TypeId} {w : World} {base : Nat} {v : Value} {g : BG} (h : Own E 5 w base v 1 (rmC (0, g))) : ∃ r q, v = .slice (some ⟨r, 0, none⟩) 1 q ∧ ∀ j u, (rmC (0, g))[j]? = some u → w.cell? ⟨r, j, none⟩ = some u := by
  rcases h.2 with ⟨rfl, h0⟩ | ⟨r, cap, cur, rfl, h1, h2, h3, h4, h5, h6⟩
  · cases h0
  · refine ⟨r, cap, rfl, fun j u hu => ?_⟩
    have hl := (List.getElem?_eq_some_iff.1 hu).1
    have hxl := h.1
    rw [cell_of_row w r j _ _ _ h2]
    rw [← h6, List.getElem?_take_of_lt (by omega)] at hu
    simpa using hu
/-- What lies in the rooms that Rooms returns. -/
structure RoomAt (w : World) (r k : Nat) (gs : List BG) : Prop where
  at' : ∀ i, i ≤ k → ∃ gi ri qi, gs[i]? = some gi ∧ w.cell? ⟨r, i, none⟩ = some (.slice (some ⟨ri, 0, none⟩) 1 qi) ∧ ∀ j u, (rmC (0, gi))[j]? = some u → w.cell? ⟨ri, j, none⟩ = some u
theorem RoomAt.fr {w w' : World} {r k : Nat} {gs : List BG} (h : RoomAt w r k gs) (hf : Fr (fun _ => False) w w') : RoomAt w' r k gs := by
  refine ⟨fun i hi => ?_⟩
  obtain ⟨gi, ri, qi, e, hc, hu⟩ := h.at' i hi
  exact ⟨gi, ri, qi, e, keep1 hf hc, fun j u q => keep1 hf (hu j u q)⟩
theorem RmI.room {w wr : World} {yb : Nat} {cs : List Cl} {k : Nat} {ov : Value} {d : Nat} {g : BG} {gs : List BG} {vs : List Value} (h : RmI w yb cs k wr ov d g gs vs) : ∃ r cap, ov = .slice (some ⟨r, 0, none⟩) (k + 1) cap ∧ k + 1 ≤ cap ∧ RoomAt wr r k gs := by
  rcases h.own.2 with ⟨_, h0⟩ | ⟨r, cap, cur, hv, h1, h2, h3, h4, h5, h6⟩
  · cases h0
  · refine ⟨r, cap, hv, h3, ⟨fun i hi => ?_⟩⟩
    have hgl := h.gl
    have hvl := h.vl
    obtain ⟨gi, hgi⟩ : ∃ gi, gs[i]? = some gi := ⟨_, List.getElem?_eq_getElem (by omega)⟩
    obtain ⟨vi, hvi⟩ : ∃ vi, vs[i]? = some vi := ⟨_, List.getElem?_eq_getElem (by omega)⟩
    obtain ⟨ri, qi, rfl, hc⟩ := own_room (h.rd i vi gi hvi hgi)
    refine ⟨gi, ri, qi, hgi, ?_, hc⟩
    rw [cell_of_row wr r i _ _ _ h2]
    rw [← h6, List.getElem?_take_of_lt (by omega)] at hvi
    simpa using hvi
theorem info_spacesU : (Tryz.prog.info? 35).map (fun i => (i.zero, i.size, i.bytes)) = some (some (.slice none 0 0), 1, 24) := by kernel_rfl
theorem slice_rooms_from (g n c m : Nat) (hm : m ≤ n) (hc : ¬ (c - m = 0)) (w : World) : (Instr.slice 31 (.slice (some ⟨g, 0, none⟩) n c) (some (.int .i64 (m : Int))) none none).run Tryz.prog w = .ok (.slice (some ⟨g, m, none⟩) (n - m) (c - m)) w := by
  obtain ⟨i0, hi, hz0, hz1, hz2⟩ := info_parts info_spacesU
  have h2 : (m : Int) ≤ (n : Int) := by omega
  have h3 : ¬ (c = m) := by omega
  simp [Instr.slice, run_underlying Tryz.underlying31, Instr.sliceBounds, run_sliceBound, sizeOf, typeInfo, hi, hz1, h2, h3, addr_add]
end Go.Proofs.YtkggebhkjgjijaaGreatDoor
