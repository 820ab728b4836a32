/- DoY. -/
import Derived.Test.YtkggebhkjgjijaaGreatDoorQ24
namespace Go.Proofs.YtkggebhkjgjijaaGreatDoor
open Go Go.RowKit

theorem sb_any (w : World) (base yb i b : Nat) (g : Gh) (bs : List (Nat × Gh)) (ds : List (Nat × BG)) (s : SB) (c : Cl) (ea eu : Addr)
    (hY : YardAt w base yb bs ds) (hi : bs[i]? = some (b, g)) (hrel : BRel g s) (ha : c.a = (i : Int)) (hok : ClOk w c) (hsz : g.txt.length + c.text.length + 66000 ≤ 1099511627776) (hG : Gl base ea eu w)
    (h1 : 1 ≤ c.op) (h22 : c.op ≤ 22) (hset : (s.do c).2.2 = true) (hns : (s.do c).2.1.said ≠ 3) :
    Calls Tryz.prog 14 #[.pointer (some ⟨yb, 0, none⟩), c.val] w (SBPost w base yb bs ds i b s c) := by
  have hop : c.op = 1 ∨ c.op = 2 ∨ c.op = 3 ∨ c.op = 4 ∨ c.op = 5 ∨ c.op = 6 ∨ c.op = 7 ∨ c.op = 8 ∨ c.op = 9 ∨ c.op = 10 ∨ c.op = 11 ∨ c.op = 12 ∨ c.op = 13 ∨ c.op = 14 ∨ c.op = 15 ∨ c.op = 16 ∨ c.op = 17 ∨ c.op = 18 ∨ c.op = 19 ∨ c.op = 20 ∨ c.op = 21 ∨ c.op = 22 := by omega
  rcases hop with hop | hop | hop | hop | hop | hop | hop | hop | hop | hop | hop | hop | hop | hop | hop | hop | hop | hop | hop | hop | hop | hop
  · exact do_1 w base yb i b g bs ds s c ea eu hY hi hrel ha hok hsz hG hop
  · exact do_2 w base yb i b g bs ds s c ea eu hY hi hrel ha hok hsz hG hop
  · exact do_3 w base yb i b g bs ds s c ea eu hY hi hrel ha hok hsz hG hop
  · refine do_4 w base yb i b g bs ds s c ea eu hY hi hrel ha hok hsz hG hop (fun hb => ?_)
    simp [SB.do, hop, enc, hb] at hset
  · exact do_5 w base yb i b g bs ds s c ea eu hY hi hrel ha hok hsz hG hop
  · by_cases ht : s.text = []
    · rcases Nat.eq_zero_or_pos c.size with hp | hp
      · exact do_6z w base yb i b g bs ds s c ea eu hY hi hrel ha hok hsz hG hop ht hp
      · exact do_6e w base yb i b g bs ds s c ea eu hY hi hrel ha hok hsz hG hop ht hp
    · exact do_6 w base yb i b g bs ds s c ea eu hY hi hrel ha hok hsz hG hop ht
  · exact do_7 w base yb i b g bs ds s c ea eu hY hi hrel ha hok hsz hG hop
  · cases ht : s.text with
    | nil => exact do_8e w base yb i b g bs ds s c ea eu hY hi hrel ha hok hsz hG hop ht
    | cons x l => exact do_8 w base yb i b g bs ds s c ea eu hY hi hrel ha hok hsz hG hop x l ht
  · cases hk : upTo c.sign s.text with
    | some k => exact do_9 w base yb i b g bs ds s c ea eu hY hi hrel ha hok hsz hG hop k hk
    | none =>
      by_cases ht : s.text = []
      · exact do_9e w base yb i b g bs ds s c ea eu hY hi hrel ha hok hsz hG hop hk ht
      · exact do_9n w base yb i b g bs ds s c ea eu hY hi hrel ha hok hsz hG hop hk ht
  · cases hk : upTo c.sign s.text with
    | some k => exact do_10 w base yb i b g bs ds s c ea eu hY hi hrel ha hok hsz hG hop k hk
    | none =>
      by_cases ht : s.text = []
      · exact do_10e w base yb i b g bs ds s c ea eu hY hi hrel ha hok hsz hG hop hk ht
      · exact do_10n w base yb i b g bs ds s c ea eu hY hi hrel ha hok hsz hG hop hk ht
  · by_cases ht : s.text = []
    · exact do_11e w base yb i b g bs ds s c ea eu hY hi hrel ha hok hsz hG hop ht
    · exact do_11 w base yb i b g bs ds s c ea eu hY hi hrel ha hok hsz hG hop ht
  · by_cases h12 : s.recent = 1 ∨ s.recent = 2
    · exact do_12 w base yb i b g bs ds s c ea eu hY hi hrel ha hok hsz hG hop h12
    · by_cases h34 : s.recent = 3 ∨ s.recent = 4
      · exact do_12n w base yb i b g bs ds s c ea eu hY hi hrel ha hok hsz hG hop h34
      · simp only [not_or] at h12 h34
        simp [SB.do, SB.back, hop, h12, h34] at hset
  · by_cases h2 : s.recent = 2
    · exact do_13 w base yb i b g bs ds s c ea eu hY hi hrel ha hok hsz hG hop h2
    · refine do_13n w base yb i b g bs ds s c ea eu hY hi hrel ha hok hsz hG hop h2 (fun q => ?_)
      simp [SB.do, SB.back, hop, q] at hset
  · refine do_14 w base yb i b g bs ds s c ea eu hY hi hrel ha hok hsz hG hop (Nat.le_of_not_lt fun q => ?_)
    simp [SB.do, SB.look, hop, q] at hset
  · by_cases hr : 0 ≤ c.n ∧ c.n ≤ s.text.length
    · obtain ⟨k, hk⟩ := Int.eq_ofNat_of_zero_le hr.1
      rcases Nat.eq_zero_or_pos k with h0 | h0
      · exact do_15z w base yb i b g bs ds s c ea eu hY hi hrel ha hok hsz hG hop (by rw [hk, h0]; rfl)
      · exact do_15 w base yb i b g bs ds s c ea eu hY hi hrel ha hok hsz hG hop k hk h0 (by omega)
    · exfalso
      simp [SB.do, hop, hr, Td.said'] at hns
  · exact do_16 w base yb i b g bs ds s c ea eu hY hi hrel ha hok hsz hG hop
  · have hn : ¬ c.n < 0 := fun q => by simp [SB.do, hop, q, Td.said'] at hns
    have hk : c.n ≤ 65536 := by simpa [SB.do, hop, hn] using hset
    obtain ⟨k, hk'⟩ := Int.eq_ofNat_of_zero_le (show 0 ≤ c.n by omega)
    exact do_17 w base yb i b g bs ds s c ea eu hY hi hrel ha hok hsz hG hop k hk' (by omega)
  · exact do_18 w base yb i b g bs ds s c ea eu hY hi hrel ha hok hsz hG hop
  · exact do_19 w base yb i b g bs ds s c ea eu hY hi hrel ha hok hsz hG hop
  · exact do_20 w base yb i b g bs ds s c ea eu hY hi hrel ha hok hsz hG hop
  · rcases Nat.lt_or_ge c.size s.text.length with h | h
    · exact do_21 w base yb i b g bs ds s c ea eu hY hi hrel ha hok hsz hG hop h
    · exact do_21n w base yb i b g bs ds s c ea eu hY hi hrel ha hok hsz hG hop h
  · rcases Nat.eq_zero_or_pos c.size with hz | hz
    · exact do_22z w base yb i b g bs ds s c ea eu hY hi hrel ha hok hsz hG hop hz
    · refine do_22 w base yb i b g bs ds s c ea eu hY hi hrel ha hok hsz hG hop (c.size - 1) (by omega) (Nat.le_of_not_lt fun q => ?_)
      simp [SB.do, SB.look, hop, q] at hset

/-- The calls that the laws play here. -/
def Cl.plays (c : Cl) : Prop := c.op < 23 ∨ (c.op = 23 ∨ c.op = 24) ∨ c.op = 26 ∨ (c.op = 27 ∧ c.n = 0) ∨ 28 ≤ c.op
/-- The buffer or builder that is called is there, and so is the other one of two. -/
def Cl.there (c : Cl) (y : Yd) : Prop := if 28 ≤ c.op then inR c.a y.blds.length else inR c.a y.bufs.length ∧ (c.op = 23 ∨ c.op = 24 → inR c.b y.bufs.length ∧ c.a ≠ c.b)
def CallPost (w : World) (base yb : Nat) (ds : List (Nat × BG)) (y : Yd) (c : Cl) (e : Ending) (w' : World) : Prop :=
  ∃ bs' ds', e = .returned (y.do c).2.1.val ∧ YardStep w base yb w' bs' ds' ∧ Rel bs' ds' (y.do c).1 ∧ (28 ≤ c.op → ∀ d g, ds[c.a.toNat]? = some (d, g) → ∃ g', ds'[c.a.toNat]? = some (d, g') ∧ BCap c g g')

theorem call_any (w : World) (base yb : Nat) (bs : List (Nat × Gh)) (ds : List (Nat × BG)) (y : Yd) (c : Cl) (ea eu : Addr)
    (hY : YardAt w base yb bs ds) (hrel : Rel bs ds y) (hok : ClOk w c) (hsz : y.tot + c.text.length + 66000 ≤ 1099511627776) (hG : Gl base ea eu w)
    (hpl : c.plays) (hth : c.there y) (hset : (y.do c).2.2 = true) (hns : (y.do c).2.1.said ≠ 3) :
    Calls Tryz.prog 14 #[.pointer (some ⟨yb, 0, none⟩), c.val] w (CallPost w base yb ds y c) := by
  by_cases h28 : 28 ≤ c.op
  · have hin : inR c.a y.blds.length := by unfold Cl.there at hth; rw [if_pos h28] at hth; exact hth
    obtain ⟨d, g, hi, htx⟩ := hrel.getBld hin
    have ha : c.a = (c.a.toNat : Int) := by have := hin.1; omega
    by_cases h36 : 36 ≤ c.op
    · have e : y.do c = (y, Td.said' 4, true) := by simp [Yd.do, h36]
      have hB := hY.bldAt hi
      have hw := call_p c.b c.size c.n c.sign c.char c.text c.cuts c.ad c.cap c.op h28 w base yb c.a.toNat d g bs ds _ _ _ _ (fun g' => g' = g) hY hi (fun w1 hf => put_36 _ c.b c.size c.n c.sign c.char c.text c.cuts c.ad c.cap c.op h36 d g w1 (hB.fr hf (fun _ _ q => q)))
      rw [← ha] at hw
      refine Calls.mono hw ?_
      rintro e' w' ⟨g', rfl, S, rfl⟩
      unfold CallPost
      rw [e]
      have hset : ds.set c.a.toNat (d, g') = ds := by
        obtain ⟨hl, e⟩ := List.getElem?_eq_some_iff.1 hi
        rw [← e]
        exact List.set_getElem_self hl
      rw [hset] at S
      refine ⟨bs, ds, rfl, S, hrel, fun _ d' g'' hd => ⟨g'', hd, ⟨fun h1 h2 => by omega, fun q => by omega⟩⟩⟩
    · have e : y.do c = (y.setBld c.a (putS (y.bld c.a) c).1, (putS (y.bld c.a) c).2.1, (putS (y.bld c.a) c).2.2) := by
        unfold Yd.do
        rw [if_neg (by omega), if_pos h28, if_pos hin]
      rw [e] at hset hns
      simp only [← htx] at hset hns
      have hle := Yd.bld_le hin
      refine (pb_any w base yb c.a.toNat d g bs ds c hY hi ha (by rw [htx]; omega) h28 (by omega) hset hns).mono ?_
      rintro e' w' ⟨g', rfl, S, hg, hcap⟩
      unfold CallPost
      rw [e, ← htx]
      refine ⟨bs, _, rfl, S, hrel.setBld c.a hg, fun _ d' g'' hd => ?_⟩
      rw [hi] at hd
      injection hd with hd
      injection hd with h1 h2
      subst h1 h2
      exact ⟨g', List.getElem?_set_self (List.getElem?_eq_some_iff.1 hi).1, hcap⟩
  · unfold Cl.there at hth
    rw [if_neg h28] at hth
    obtain ⟨hin, hth2⟩ := hth
    obtain ⟨b, g, hi, hr⟩ := hrel.getBuf hin
    have ha : c.a = (c.a.toNat : Int) := by have := hin.1; omega
    have hB := hY.bufAt hi
    have hle := Yd.buf_le hin
    have htl := hr.txt
    by_cases h1 : c.op < 1
    · have e : y.do c = (y, Td.said' 4, true) := by simp [Yd.do, h1]
      have hw := call_0 c.b c.size c.n c.sign c.char c.text c.cuts c.ad c.cap c.op h1 w base yb c.a.toNat b g bs ds _ _ _ _ (fun g' => g' = g) hY hi (fun w1 hf => look_0 _ c.b c.size c.n c.sign c.char c.text c.cuts c.ad c.cap c.op h1 b g w1 (hB.fr hf (fun _ _ q => q)))
      rw [← ha] at hw
      refine Calls.mono hw ?_
      rintro e' w' ⟨g', rfl, S, rfl⟩
      unfold CallPost
      rw [e]
      have hset : bs.set c.a.toNat (b, g') = bs := by
        obtain ⟨hl, e⟩ := List.getElem?_eq_some_iff.1 hi
        rw [← e]
        exact List.set_getElem_self hl
      rw [hset] at S
      exact ⟨bs, ds, rfl, S, hrel, fun q => absurd q h28⟩
    · by_cases h23 : c.op < 23
      · have e : y.do c = (y.setBuf c.a ((y.buf c.a).do c).1, ((y.buf c.a).do c).2.1, ((y.buf c.a).do c).2.2) := by
          unfold Yd.do
          rw [if_neg (by omega), if_neg h28, if_pos hin, if_neg (by omega)]
        rw [e] at hset hns
        refine (sb_any w base yb c.a.toNat b g bs ds (y.buf c.a) c ea eu hY hi hr ha hok (by rw [htl]; omega) hG (by omega) (by omega) hset hns).mono ?_
        rintro e' w' ⟨g', rfl, S, hg⟩
        unfold CallPost
        rw [e]
        exact ⟨_, ds, rfl, S, hrel.setBuf c.a hg, fun q => absurd q h28⟩
      · have e : y.do c = y.flow c := by
          unfold Yd.do
          rw [if_neg (by omega), if_neg h28, if_pos hin, if_pos (by omega)]
        rcases hpl with q | q | q | ⟨q, hn⟩ | q
        · omega
        · obtain ⟨hb, hne⟩ := hth2 q
          obtain ⟨b2, g2, hj, hr2⟩ := hrel.getBuf hb
          have hbn : c.b = (c.b.toNat : Int) := by have := hb.1; omega
          have hij : c.a.toNat ≠ c.b.toNat := by omega
          have htl2 := hr2.txt
          have h2s := Yd.two_le hin hb hne
          rcases q with q | q
          · have e2 : y.flow c = ((y.setBuf c.a ((y.buf c.a).other [])).setBuf c.b (if (y.buf c.a).text = [] then (y.buf c.b).other (y.buf c.b).text else (y.buf c.b).write (y.buf c.a).text), Td.ofN (y.buf c.a).text.length, true) := by simp [Yd.flow, q, hb, hne]
            have hw := call_g c.size c.n c.sign c.char c.text c.cuts c.ad c.cap 23 (by simp) w base yb c.a.toNat b c.b.toNat b2 g bs ds _ _ _ _ _ hY hi (fun w1 hf => flow_23 c.size c.n c.sign c.char c.text c.cuts c.ad c.cap w1 base yb c.a.toNat b c.b.toNat b2 g g2 bs ds (hY.fr0 hf) hi hj hij (by rw [htl, htl2]; omega))
            rw [← ha, ← hbn, ← q] at hw
            refine Calls.mono hw ?_
            rintro e' w' ⟨g', g2', rfl, S, k1, k2, k3⟩
            unfold CallPost
            rw [e, e2, ← htl]
            refine ⟨_, ds, rfl, S, (hrel.setBuf c.a (BRel.other k1)).setBuf c.b ?_, fun q => absurd q h28⟩
            split
            · rename_i h0
              rw [k2 h0]
              exact BRel.other htl2
            · rename_i h0
              exact BRel.write hr2 (k3 h0).txt (k3 h0).lr
          · have e2 : y.flow c = ((y.setBuf c.a ((y.buf c.a).other ((y.buf c.a).text ++ (y.buf c.b).text))).setBuf c.b ((y.buf c.b).other []), Td.ofN (y.buf c.b).text.length, true) := by simp [Yd.flow, q, hb, hne]
            have hw := call_g c.size c.n c.sign c.char c.text c.cuts c.ad c.cap 24 (by simp) w base yb c.a.toNat b c.b.toNat b2 g bs ds _ _ _ _ _ hY hi (fun w1 hf => flow_24 c.size c.n c.sign c.char c.text c.cuts c.ad c.cap w1 base yb c.a.toNat b c.b.toNat b2 g g2 bs ds (hY.fr0 hf) hi hj hij ea ((hG.fr0 hY.bw hf).eof) (by rw [htl, htl2]; omega))
            rw [← ha, ← hbn, ← q] at hw
            refine Calls.mono hw ?_
            rintro e' w' ⟨g', g2', rfl, S, k1, k2⟩
            unfold CallPost
            rw [e, e2, ← htl, ← htl2]
            exact ⟨_, ds, rfl, S, (hrel.setBuf c.a (BRel.other k1)).setBuf c.b (BRel.other k2), fun q => absurd q h28⟩
        · have hsm : ¬ (c.size < (y.buf c.a).text.length) := fun k => by rw [e] at hset; simp [Yd.flow, q, k] at hset
          have e2 : y.flow c = (y.setBuf c.a ((y.buf c.a).other []), ⟨(y.buf c.a).text.length, (y.buf c.a).text, 0, 0⟩, true) := by simp [Yd.flow, q, hsm]
          have hw := call_f c.b c.size c.n c.sign c.char c.text c.cuts c.ad c.cap 26 (by simp) w base yb c.a.toNat b g bs ds _ _ _ _ (fun g' => g' = g.rs) hY hi (fun w1 hf => flow_26 _ c.b c.size c.n c.sign c.char c.text c.cuts c.ad c.cap _ b g w1 (hB.fr hf (fun _ _ q => q)) hok.size (by rw [htl]; omega))
          rw [← ha, ← q] at hw
          refine Calls.mono hw ?_
          rintro e' w' ⟨g', rfl, S, rfl⟩
          unfold CallPost
          rw [e, e2, ← htl]
          exact ⟨_, ds, rfl, S, hrel.setBuf c.a (BRel.other g.rs_txt), fun q => absurd q h28⟩
        · have e2 : y.flow c = (y.setBuf c.a ((y.buf c.a).other ((y.buf c.a).text ++ c.text)), ⟨c.text.length, [], 0, 0⟩, true) := by simp [Yd.flow, q, hn]
          have hw := call_f c.b c.size c.n c.sign c.char c.text c.cuts c.ad c.cap 27 (by simp) w base yb c.a.toNat b g bs ds c.text.length [] 0 0 (fun g' => g'.txt = g.txt ++ c.text) hY hi (fun w1 hf => by rw [hn]; exact flow_27 _ c.b c.size c.sign c.char c.text c.cuts c.ad c.cap _ b g w1 (hB.fr hf (fun _ _ q => q)) ea ((hG.fr0 hY.bw hf).eof) (hok.cuts.fr hf (fun _ _ _ q => q)) (by rw [htl]; omega) hok.text hok.few)
          rw [← ha, ← q] at hw
          refine Calls.mono hw ?_
          rintro e' w' ⟨g', rfl, S, hg⟩
          unfold CallPost
          rw [e, e2]
          exact ⟨_, ds, rfl, S, hrel.setBuf c.a (BRel.other (by rw [hg, htl])), fun q => absurd q h28⟩
        · omega
end Go.Proofs.YtkggebhkjgjijaaGreatDoor
