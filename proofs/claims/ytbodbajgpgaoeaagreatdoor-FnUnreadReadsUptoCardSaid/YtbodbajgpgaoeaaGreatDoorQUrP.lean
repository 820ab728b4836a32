/- What FnUnreadReads plays: a script of one buffer, a read behind it, and the two calls that take its last byte back and read it again. -/
import Derived.Test.YtbodbajgpgaoeaaGreatDoorQ22
namespace Go.Proofs.YtbodbajgpgaoeaaGreatDoor
open Go Go.RowKit

theorem read_shorter (b : SB) (n : Nat) (k : Int) : (b.read n k).text.length ≤ b.text.length := by
  unfold SB.read
  split
  · exact Nat.le_refl _
  · simp only [List.length_drop]
    omega
theorem reads_shorter (b : SB) (c : Cl) : (b.reads c).1.text.length ≤ b.text.length := by
  unfold SB.reads
  simp only
  repeat' split
  all_goals first
    | exact read_shorter _ _ _
    | simp
theorem run_len : ∀ (l : List Cl) (b : SB), b.good → (∀ c ∈ l, c.first) → Mild (yd1 b) l → ∃ b', (runF (yd1 b) l).2 = yd1 b' ∧ b'.text.length ≤ b.text.length + wsum l
  | [], b, _, _, _ => ⟨b, rfl, by omega⟩
  | c :: l, b, hg, hf, hm => by
    obtain ⟨m1, m2, m3⟩ := hm
    obtain ⟨b1, e1, g1, l1⟩ := yd1_step b c (hf c (by simp)) hg
    rw [e1] at m3
    obtain ⟨b2, e2, l2⟩ := run_len l b1 g1 (fun d hd => hf d (by simp [hd])) m3
    refine ⟨b2, ?_, ?_⟩
    · simp only [runF]
      rw [if_neg m2, e1]
      exact e2
    · rw [wsum_cons]
      omega
theorem Play1.text_len {w : World} {s : St} {l : List Cl} (h : Play1 w s l) {x : List UInt8} (hx : (runF (yd1 (b0 s)) l).2.texts = [x]) : x.length ≤ 1099511627776 := by
  obtain ⟨b', e, hl⟩ := run_len l (b0 s) (b0_good s) h.first h.mild
  rw [e, yd1_texts] at hx
  injection hx with hx _
  subst hx
  have h1 := h.sz
  have h2 : (b0 s).text.length = s.text.length := rfl
  omega
theorem rsC_ok (w : World) : ClOk w rsC := ⟨by decide, ⟨(by intro x h; cases h), (by intro h; cases h)⟩, by decide, by decide⟩
theorem rsC_first : rsC.first := ⟨rfl, .inl (by decide)⟩
/-- The last read of a script. -/
theorem unread_play {w : World} {s : St} {l : List Cl} {c : Cl} (h : Play1 w s l) (ha : c.a = 0) (hc : c.isRead) (hco : ClOk w c)
    (hs : s.text.length + wsum l + c.text.length + 67000 ≤ 1099511627776) (hn : l.length + 4 ≤ 4294967296) :
    Play1 w s (l ++ [c]) ∧ ∃ b b2 : SB, ∃ t : Td, (runF (yd1 (b0 s)) l).2.texts = [b.text] ∧ (runF (yd1 (b0 s)) (l ++ [c])).1 = (runF (yd1 (b0 s)) l).1 ++ [t] ∧ (runF (yd1 (b0 s)) (l ++ [c])).2.texts = [b2.text] ∧ b2.text.length ≤ b.text.length ∧
      (t.said = 0 → b2.text.length ≠ b.text.length → Play1 w s ((l ++ [c]) ++ [bsC, rsC]) ∧
        (runF (yd1 (b0 s)) ((l ++ [c]) ++ [bsC, rsC])).1 = (runF (yd1 (b0 s)) (l ++ [c])).1 ++ [Td.zero, ⟨0, [], ((b.text.getD (b.text.length - b2.text.length - 1) 0).toNat : Int), 0⟩] ∧
        (runF (yd1 (b0 s)) ((l ++ [c]) ++ [bsC, rsC])).2.texts = [b2.text]) := by
  obtain ⟨b, e⟩ := run_one l (b0 s) (fun x hx => (h.first x hx).one)
  obtain ⟨m1, r1⟩ := read_mild b c ha hc
  have e1 : runF (yd1 (b0 s)) (l ++ [c]) = ((runF (yd1 (b0 s)) l).1 ++ [(b.reads c).2.1], yd1 (b.reads c).1) := by
    rw [runF_append l _ _ h.mild, e, r1]
  have p1 : Play1 w s (l ++ [c]) := h.append (by rw [e]; exact m1) (by
      intro x hx
      rw [List.mem_singleton] at hx
      subst hx
      exact read_first ha hc) (by
      intro x hx
      rw [List.mem_singleton] at hx
      subst hx
      exact hco) (by simp only [wsum, List.map_cons, List.map_nil, List.sum_cons, List.sum_nil] at *; omega) (by simp only [List.length_cons, List.length_nil]; omega)
  refine ⟨p1, b, (b.reads c).1, (b.reads c).2.1, by rw [e]; rfl, by rw [e1], by rw [e1]; rfl, reads_shorter b c, fun hsd hlen => ?_⟩
  obtain ⟨n, n0, n1, m2, r2, t2⟩ := unread_law (b := b) (c := c) hsd hlen
  have e2 : (runF (yd1 (b0 s)) (l ++ [c])).2 = yd1 (b.reads c).1 := by rw [e1]
  have p2 : Play1 w s ((l ++ [c]) ++ [bsC, rsC]) := p1.append (by rw [e2]; exact m2) (by
      intro x hx
      simp only [List.mem_cons, List.not_mem_nil, or_false] at hx
      rcases hx with rfl | rfl
      · exact bsC_first
      · exact rsC_first) (by
      intro x hx
      simp only [List.mem_cons, List.not_mem_nil, or_false] at hx
      rcases hx with rfl | rfl
      · exact bsC_ok w
      · exact rsC_ok w) (by rw [wsum_append]; simp only [wsum, bsC, rsC, List.map_cons, List.map_nil, List.sum_cons, List.sum_nil, List.length_nil] at *; omega) (by simp only [List.length_append, List.length_cons, List.length_nil]; omega)
  have hn' : b.text.length - (b.reads c).1.text.length - 1 = n - 1 := by omega
  refine ⟨p2, ?_, ?_⟩
  · rw [runF_append _ _ _ p1.mild, e2, hn', r2]
  · rw [runF_append _ _ _ p1.mild, e2]
    exact t2
set_option maxHeartbeats 1600000 in
set_option maxRecDepth 100000 in
theorem equal_strs_q (ts : List (List UInt8)) (A1 A2 : Option Addr) (c1 c2 : Nat) (w : World) (h1 : Reads strC 1 w A1 ts) (h2 : Reads strC 1 w A2 ts) (hn : ts.length ≤ 4294967296) :
    Calls Tryz.prog 24 #[.slice A1 ts.length c1, .slice A2 ts.length c2] w fun e w' => e = .returned (.bool true) ∧ ∃ m, w' = w.drewN m := by
  have H1 := Lib.hid h1
  have H2 := Lib.hid h2
  clear h1 h2
  go_enter Tryz.func24, Tryz.ntmps24
  go_wp2_with fail
  go_loopw [13] (fun i wr => ∃ (k q : Nat), k ≤ ts.length ∧ i = .int .i64 (k : Int) ∧ wr = w.drewN q) (fun i _ => ts.length - (intOf i).toNat)
  case atStart => exact ⟨0, 0, Nat.zero_le _, rfl, rfl⟩
  case round =>
    obtain ⟨k, q, hk, rfl, rfl⟩ := hrel
    by_cases hlt : k < ts.length
    · obtain ⟨r1, o1, rfl, d1⟩ := H1.out.at' k ts[k] (List.getElem?_eq_getElem hlt)
      obtain ⟨r2, o2, rfl, d2⟩ := H2.out.at' k ts[k] (List.getElem?_eq_getElem hlt)
      generalize ts[k] = t at *
      have a0 := d1 0 _ rfl
      have b0 := d2 0 _ rfl
      simp only [Nat.add_zero, Nat.mul_one, strV] at a0 b0
      have hki : (k : Int) < (ts.length : Int) := by omega
      have hk0 : (0 : Int) ≤ (k : Int) := by omega
      clear d1 d2
      go_wp2_with fail
      go_quiet (fail)
      go_wp2_with fail
      go_roundw
      case rel => exact ⟨k + 1, _, by omega, by go_num, rfl⟩
      case measure => simp [intOf]; omega
    · go_wp2_with fail
      go_ret
      exact ⟨rfl, q, rfl⟩
end Go.Proofs.YtbodbajgpgaoeaaGreatDoor
