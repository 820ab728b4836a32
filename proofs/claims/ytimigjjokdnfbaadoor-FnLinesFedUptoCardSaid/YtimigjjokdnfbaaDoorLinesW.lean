/- laws.FnLinesFed: the walk. -/
import Derived.Test.YtimigjjokdnfbaaDoorLawK
import Derived.Test.YtimigjjokdnfbaaDoorLines
namespace Go.Proofs.YtimigjjokdnfbaaDoor
open Go Go.RowKit

/-- Two of them, in blocks of their own. -/
structure TwoC (w0 w : World) (v1 v2 : Value) (l1 l2 : List Cl) : Prop where
  o1 : OwnC w w0.heap.size v1 l1
  o2 : OwnC w w0.heap.size v2 l2
  ap : ∀ x, v1.ownBlock = some x → v2.ownBlock ≠ some x
  fr : Fr (fun _ => False) w0 w
theorem TwoC.app1 {w0 w w2 : World} {v1 v2 : Value} {l1 l2 : List Cl} {c : Cl} {g cap : Nat} {o : Obj} (h : TwoC w0 w v1 v2 l1 l2) (hown : Own 26 9 w2 w0.heap.size (.slice (some ⟨g, 0, none⟩) (l1.length + 1) cap) (l1.length + 1) (cls l1 ++ c.cells)) (hfr : Fr (fun x => v1.ownBlock = some x) (w.alloc o) w2) (hat : v1.ownBlock = some g ∨ w.heap.size + 1 ≤ g) :
    TwoC w0 w2 (.slice (some ⟨g, 0, none⟩) (l1.length + 1) cap) v2 (l1 ++ [c]) l2 := by
  have hfr2 : Fr (fun x => v1.ownBlock = some x) w w2 := ((Fr.refl _ w).alloc o).trans hfr
  refine ⟨?_, h.o2.fr hfr2 (fun x hx q => h.ap x q hx), fun x hx q => ?_, h.fr.trans' hfr2 (fun x hx q => by have := h.o1.blk_ge q; omega)⟩
  · unfold OwnC
    rw [cls_append, cls_one, List.length_append, List.length_singleton]
    exact hown
  · have e : g = x := by injection hx
    subst e
    rcases hat with k | k
    · exact h.ap g k q
    · have := h.o2.blk_lt q
      omega
theorem TwoC.app2 {w0 w w2 : World} {v1 v2 : Value} {l1 l2 : List Cl} {c : Cl} {g cap : Nat} {o : Obj} (h : TwoC w0 w v1 v2 l1 l2) (hown : Own 26 9 w2 w0.heap.size (.slice (some ⟨g, 0, none⟩) (l2.length + 1) cap) (l2.length + 1) (cls l2 ++ c.cells)) (hfr : Fr (fun x => v2.ownBlock = some x) (w.alloc o) w2) (hat : v2.ownBlock = some g ∨ w.heap.size + 1 ≤ g) :
    TwoC w0 w2 v1 (.slice (some ⟨g, 0, none⟩) (l2.length + 1) cap) l1 (l2 ++ [c]) := by
  have hfr2 : Fr (fun x => v2.ownBlock = some x) w w2 := ((Fr.refl _ w).alloc o).trans hfr
  refine ⟨h.o1.fr hfr2 (fun x hx q => h.ap x hx q), ?_, fun x hx q => ?_, h.fr.trans' hfr2 (fun x hx q => by have := h.o2.blk_ge q; omega)⟩
  · unfold OwnC
    rw [cls_append, cls_one, List.length_append, List.length_singleton]
    exact hown
  · have e : g = x := by injection q
    subst e
    rcases hat with k | k
    · exact h.ap g hx k
    · have := h.o1.blk_lt hx
      omega

theorem feedF_step (s : UInt8) {rest : List UInt8} (hr : rest ≠ []) (cuts : List Nat) (i n : Nat) (hn : (∃ h : i < cuts.length, n = min rest.length cuts[i]) ∨ (cuts.length ≤ i ∧ n = rest.length)) :
    feedF s rest (cuts.drop i) = pcF s (rest.take n) ++ feedF s (rest.drop n) (cuts.drop (i + 1)) := by
  rcases hn with ⟨h, rfl⟩ | ⟨h, rfl⟩
  · rw [List.drop_eq_getElem_cons h]
    simp only [feedF, hr, if_false]
    have e1 : rest.take (min rest.length cuts[i]) = rest.take cuts[i] := by rw [Nat.min_comm, ← List.take_eq_take_min]
    have e2 : rest.drop (min rest.length cuts[i]) = rest.drop cuts[i] := by
      rcases Nat.le_total rest.length cuts[i] with q | q
      · rw [Nat.min_eq_left q, List.drop_length, List.drop_of_length_le q]
      · rw [Nat.min_eq_right q]
    rw [e1, e2]
  · rw [List.drop_of_length_le h, List.drop_length, feedF_nil, List.append_nil, List.take_length]
    simp [feedF, hr]
/-- The buffer that the scripts of this law begin with. -/
def st0 : St := ⟨[], 0, 0⟩
def sb0 : SB := ⟨[], 0, [], false⟩
theorem begin0 : Yd.begin [st0] 0 = ⟨[sb0], []⟩ := rfl
theorem Liney.script {l : List Cl} (h : ∀ c ∈ l, Liney c) (hok : ∀ c ∈ l, c.size ≤ 65535 ∧ c.cuts = [] ∧ c.text.length ≤ 2147483647) (w : World) : Script w (Yd.begin [st0] 0) l := by
  refine ⟨fun c hc => ?_, fun c hc => ?_, fun c hc => ?_⟩
  · obtain ⟨h1, h2, h3⟩ := hok c hc
    exact ⟨h1, by rw [h2]; exact ⟨by simp, fun q => absurd q (by simp)⟩, by rw [h2]; simp, h3⟩
  · have := (h c hc).1
    exact .inl (by omega)
  · have h1 := (h c hc).1
    have h2 := (h c hc).2
    unfold Cl.there
    rw [if_neg (by omega), h2, begin0]
    exact ⟨by simp [inR], fun q => by omega⟩
/-- A script of this law is played. -/
theorem run_lines (l : List Cl) (h : ∀ c ∈ l, Liney c) (hok : ∀ c ∈ l, c.size ≤ 65535 ∧ c.cuts = [] ∧ c.text.length ≤ 2147483647) (hl : l.length ≤ 4294967296) (hw : wsum l ≤ 1099511000000) (A A' : Option Addr) (c c' : Nat) (ea eu : Addr) (w : World) (hR : Reads St.cells 3 w A [st0]) (hC : Reads Cl.cells 9 w A' l) (hG : Gl w.heap.size ea eu w) :
    Calls Tryd.prog 5 #[.slice A 1 c, .int .u8 0, .slice A' l.length c'] w fun e w' => ∃ v1 v2 v3, e = .returned (.tuple #[v1, v2, v3]) ∧ Own 35 4 w' w.heap.size v1 l.length (tds (txRun [] l).1) ∧ Own 9 1 w' w.heap.size v2 1 (strs [(txRun [] l).2]) ∧ Fr (fun _ => False) w w' := by
  obtain ⟨m, s', e1, e2⟩ := Liney.run l sb0 h
  have hrun := run_any [st0] 0 A c l A' c' ea eu w hR (fun s hs => by simp at hs; subst hs; simp [st0]) (by simp) (by omega) hC (Liney.script h hok w) (by rw [begin0]; exact m) (fun i s hs => by rw [begin0] at hs; cases i with | zero => simp at hs; subst hs; simp [sb0] | succ i => simp at hs) hl (by rw [begin0]; simp [Yd.tot, Yd.texts, tsum, sb0]; omega) hG
  refine Calls.mono hrun ?_
  rintro e w' ⟨v1, v2, v3, rfl, h1, h2, h3, hf⟩
  rw [begin0, e1] at h1 h2
  refine ⟨v1, v2, v3, rfl, h1, ?_, hf⟩
  have e3 : Yd.texts ⟨[s'], []⟩ = [(txRun sb0.text l).2] := by simp [Yd.texts, e2]
  simp only [e3] at h2
  exact h2
theorem feedF_ok (s : UInt8) : ∀ (ks : List Nat) (rest : List UInt8), ∀ c ∈ feedF s rest ks, c.size ≤ 65535 ∧ c.cuts = [] ∧ c.text.length ≤ rest.length
  | ks, rest, c, h => by
    have hp : ∀ p : List UInt8, p.length ≤ rest.length → ∀ c ∈ pcF s p, c.size ≤ 65535 ∧ c.cuts = [] ∧ c.text.length ≤ rest.length := by
      intro p hl c hc
      rcases List.mem_cons.1 hc with rfl | hc
      · exact ⟨by simp [wrC], rfl, hl⟩
      · rw [(List.mem_replicate.1 hc).2]
        exact ⟨by simp [rdC], rfl, by simp [rdC]⟩
    cases ks with
    | nil =>
      simp only [feedF] at h
      split at h
      · simp at h
      · exact hp _ (Nat.le_refl _) c h
    | cons k ks =>
      simp only [feedF] at h
      split at h
      · simp at h
      · rcases List.mem_append.1 h with h | h
        · exact hp _ (by simp; omega) c h
        · obtain ⟨k1, k2, k3⟩ := feedF_ok s ks (rest.drop k) c h
          exact ⟨k1, k2, by simp at k3; omega⟩
theorem reads_one (w : World) : Reads St.cells 3 (w.alloc (.cells #[.string ⟨#[]⟩, .int .i64 0, .int .u16 0] 32)) (some ⟨w.heap.size, 0, none⟩) [st0] := by
  refine ⟨fun j x hx => ?_⟩
  cases j with
  | succ j => simp at hx
  | zero =>
    simp only [List.getElem?_cons_zero, Option.some.injEq] at hx
    subst hx
    refine ⟨_, _, rfl, fun k v hv => ?_⟩
    match k, hv with
    | 0, hv => simp [St.cells, st0] at hv; subst hv; simp
    | 1, hv => simp [St.cells, st0] at hv; subst hv; simp
    | 2, hv => simp [St.cells, st0] at hv; subst hv; simp
    | k + 3, hv => simp [St.cells, st0] at hv
theorem pickF_len : ∀ (cs : List Cl) (ts : List Td), (pickF cs ts).length ≤ cs.length
  | [], ts => by simp [pickF]
  | c :: cs, [] => by simp [pickF]
  | c :: cs, t :: ts => by
    have := pickF_len cs ts
    simp only [pickF]
    split <;> simp <;> omega
/-- The texts that were told. -/
def allT (l : List Td) : List UInt8 := (l.map (·.text)).flatten
theorem pick_succ {cs : List Cl} {ts : List Td} {k : Nat} {c : Cl} {t : Td} (hl : cs.length = ts.length) (hc : cs[k]? = some c) (ht : ts[k]? = some t) : pickF (cs.take (k + 1)) (ts.take (k + 1)) = pickF (cs.take k) (ts.take k) ++ (if c.op = 9 then [t] else []) := by
  obtain ⟨h1, e1⟩ := List.getElem?_eq_some_iff.1 hc
  obtain ⟨h2, e2⟩ := List.getElem?_eq_some_iff.1 ht
  rw [List.take_succ_eq_append_getElem h1, List.take_succ_eq_append_getElem h2, pickF_append _ _ _ _ (by simp; omega), e1, e2]
  simp only [pickF]
theorem pick_le (cs : List Cl) (ts : List Td) (k : Nat) (hl : cs.length = ts.length) : (allT (pickF (cs.take k) (ts.take k))).length ≤ (allT (pickF cs ts)).length := by
  have h := pickF_append (cs.take k) (cs.drop k) (ts.take k) (ts.drop k) (by simp; omega)
  rw [List.take_append_drop, List.take_append_drop] at h
  rw [h]
  simp [allT]
theorem Reads.tail' {α : Type} {cells : α → List Value} {size r o : Nat} {w : World} {xs : List α} (h : Reads cells size w (some ⟨r, o, none⟩) xs) : Reads cells size w (some ⟨r, o + size, none⟩) xs.tail := by
  refine ⟨fun j x hx => ⟨r, o + size, rfl, fun k v hv => ?_⟩⟩
  obtain ⟨r', o', e, hc⟩ := h.at' (j + 1) x (by rw [← List.getElem?_tail]; exact hx)
  injection e with e
  injection e with e1 e2
  subst e1 e2
  have := hc k v hv
  rw [Nat.succ_mul] at this
  have e3 : o + size + j * size + k = o + (j * size + size) + k := by omega
  rw [e3]
  exact this
theorem reads_empty1 (w : World) : Reads strC 1 (w.alloc (.cells #[.string ⟨#[]⟩] 9)) (some ⟨w.heap.size, 0, none⟩) [[]] := by
  refine ⟨fun j x hx => ?_⟩
  cases j with
  | succ j => simp at hx
  | zero =>
    simp only [List.getElem?_cons_zero, Option.some.injEq] at hx
    subst hx
    refine ⟨_, _, rfl, fun k v hv => ?_⟩
    match k, hv with
    | 0, hv => simp [strC, strV] at hv; subst hv; simp
    | k + 1, hv => simp [strC] at hv
theorem info_told : (Tryd.prog.info? 35).map (fun i => (i.zero, i.size, i.bytes)) = some (some (.agg #[.int .i64 0, .string ⟨#[]⟩, .int .i32 0, .int .i64 0]), 4, 40) := by kernel_rfl
theorem slice_told1 (r o n c : Nat) (h : 1 ≤ n) (hc : 2 ≤ c) (w : World) : (Instr.slice 27 (.slice (some ⟨r, o, none⟩) n c) (some (.int .i64 1)) none none).run Tryd.prog w = .ok (.slice (some ⟨r, o + 4, none⟩) (n - 1) (c - 1)) w := by
  obtain ⟨i0, hi, hz0, hz1, hz2⟩ := info_parts info_told
  have h2 : (1 : Int) ≤ (n : Int) := by omega
  have h3 : ¬ (c = 1) := by omega
  simp [Instr.slice, run_underlying Tryd.underlying27, Instr.sliceBounds, run_sliceBound, sizeOf, typeInfo, hi, hz1, h2, h3, Addr.add]
/-- How far the last loop has come. -/
structure LfL (w5 : World) (cs : List Cl) (ts : List Td) (k : Nat) (wr : World) (v : Value) (l : List Td) : Prop where
  own : Own 35 4 wr w5.heap.size v l.length (tds l)
  pick : l = pickF (cs.take k) (ts.take k)
  fr : Fr (fun _ => False) w5 wr
/-- What holds inside of a piece. -/
structure LfK (w : World) (text : List UInt8) (sign : UInt8) (cnt : Nat) (F : List Cl) (p : List UInt8) (k : Nat) (wr : World) (v7 v8 : Value) : Prop where
  two : TwoC w wr v7 v8 (F ++ wrC 2 p :: List.replicate ((p.take k).count sign) (rdC 9 sign)) (wrC 1 text :: List.replicate (cnt + (p.take k).count sign) (rdC 10 sign))

/-- How far the outer loop has come. -/
structure LfI (w : World) (text : List UInt8) (cuts : List Nat) (sign : UInt8) (i cnt : Nat) (rest : List UInt8) (F : List Cl) (wr : World) (v7 v8 : Value) : Prop where
  two : TwoC w wr v7 v8 F (wrC 1 text :: List.replicate cnt (rdC 10 sign))
  fed : F ++ feedF sign rest (cuts.drop i) = feedF sign text cuts
  cnt : cnt + rest.count sign = text.count sign
  len : rest.length ≤ text.length
  few : F.length ≤ 4096
  ix : i ≤ F.length

set_option maxHeartbeats 3200000 in
set_option maxRecDepth 100000 in
theorem linesFed_any (text : List UInt8) (cuts : List Nat) (A : Option Addr) (c : Nat) (sign : UInt8) (ea eu : Addr) (w : World) (hA : U16s w A cuts) (hG : Gl w.heap.size ea eu w) (h1 : text.length ≤ 1048576) (h2 : cuts.length ≤ 1048576) :
    Calls Tryd.prog 3 #[.string ⟨text.toArray⟩, .slice A cuts.length c, .int .u8 (sign.toNat : Int)] w (LawPost w) := by
  have HA := Lib.hid hA
  have HG := Lib.hid hG
  have HF := Lib.hid (Fr.refl (fun _ => False) w)
  have HN := Lib.hid (Own.nil 26 9 w w.heap.size)
  clear hA hG
  go_enter Tryd.func3, Tryd.ntmps3
  go_wp2_with (refine wpList_app rfl elem_call (.tmp 23) (.tmp 26) rfl w.heap.size _ 0 _ (by rfl) (HN.out.fr ((Fr.refl (fun _ => False) w).alloc (.cells #[.int .i64 1, .int .i64 0, .int .i64 0, .int .u16 0, .int .i64 0, .int .u8 0, .int .i32 0, .string ⟨(text).toArray⟩, .slice none 0 0] 26)) (fun _ _ q => q)) w.heap.size (wrC 1 (text)).cells 26 (by rfl) (by exact heap_alloc_new w _) rfl (by simp [Cl.cells, wrC, Value.oneCell']) (by omega) (by first | (simp; done) | (have := HF.out.size; simp; omega)) ?_)
  intro gb cap w1 hown hfr hat hlt1
  have h0 : TwoC w w (.slice none 0 0) (.slice none 0 0) [] [] := ⟨Own.nil _ _ _ _, Own.nil _ _ _ _, fun x q => (by cases q), Fr.refl _ w⟩
  have hT := h0.app2 hown hfr hat
  have HT := Lib.hid hT
  clear hown hfr hat hlt1 h0 hT
  go_wp2_with fail
  go_loopw [7, 8, 9, 10] (fun v7 v8 v9 v10 wr => ∃ (i cnt : Nat) (rest : List UInt8) (F : List Cl), v9 = .string ⟨rest.toArray⟩ ∧ v10 = .int .i64 (i : Int) ∧ LfI w text cuts sign i cnt rest F wr v7 v8) (fun _ _ v9 v10 _ => cuts.length - (intOf v10).toNat + (match v9 with | .string b => b.size | _ => 0))
  case atStart => exact ⟨0, 0, text, [], rfl, rfl, HT.out, rfl, Nat.zero_add _, Nat.le_refl _, by simp, by simp⟩
  case round =>
    obtain ⟨i, cnt, rest, F, rfl, rfl, hI⟩ := hrel
    by_cases hr : rest = []
    · subst hr
      have hF0 := hI.fed
      rw [feedF_nil, List.append_nil] at hF0
      have hc0 := hI.cnt
      simp only [List.count_nil, Nat.add_zero] at hc0
      have hfw := hI.few
      obtain ⟨L2, hL2⟩ : ∃ L2, L2 = wrC 1 text :: List.replicate cnt (rdC 10 sign) := ⟨_, rfl⟩
      have hT := hI.two
      rw [← hL2] at hT
      have hcn : cnt ≤ 1048576 := by have := List.count_le_length (l := text) (a := sign); omega
      have hl2 : L2.length ≤ 4294967296 := by rw [hL2]; simp; omega
      obtain ⟨A7, c7, rfl⟩ := hT.o1.value
      obtain ⟨A8, c8, rfl⟩ := hT.o2.value
      have HT := Lib.hid hT
      have HF := Lib.hid hT.fr
      have HF0 := Lib.hid hF0
      have HC0 := Lib.hid hc0
      have HL2 := Lib.hid hL2
      clear hI hT hF0 hc0 hL2
      go_wp2_with (refine wpList_app rfl elem_call (.tmp 79) (.tmp 82) rfl w.heap.size _ F.length _ (by rfl) (HT.out.o1.fr ((Fr.refl (fun _ => False) wr).alloc (.cells #[.int .i64 9, .int .i64 0, .int .i64 0, .int .u16 0, .int .i64 0, .int .u8 (sign.toNat : Int), .int .i32 0, .string ⟨#[]⟩, .slice none 0 0] 26)) (fun _ _ q => q)) wr.heap.size (rdC 9 sign).cells 26 (by rfl) (by exact heap_alloc_new wr _) rfl (by simp [Cl.cells, rdC, Value.oneCell']) (by omega) (by first | (simp; done) | (have := HF.out.size; simp; omega)) ?_)
      intro gb cap w2 hown hfr hat hlt1
      have hT2 := HT.out.app1 (c := rdC 9 sign) hown hfr hat
      have HT2 := Lib.hid hT2
      have HF := Lib.hid hT2.fr
      clear hown hfr hat hlt1 hT2
      go_wp2_with (refine wpList_app rfl elem_call (.tmp 84) (.tmp 87) rfl w.heap.size _ L2.length _ (by rfl) (HT2.out.o2.fr ((Fr.refl (fun _ => False) w2).alloc (.cells #[.int .i64 10, .int .i64 0, .int .i64 0, .int .u16 0, .int .i64 0, .int .u8 (sign.toNat : Int), .int .i32 0, .string ⟨#[]⟩, .slice none 0 0] 26)) (fun _ _ q => q)) w2.heap.size (rdC 10 sign).cells 26 (by rfl) (by exact heap_alloc_new w2 _) rfl (by simp [Cl.cells, rdC, Value.oneCell']) (by omega) (by first | (simp; done) | (have := HF.out.size; simp; omega)) ?_)
      intro gb3 cap3 w3 hown hfr hat hlt1
      have hT3 := HT2.out.app2 (c := rdC 10 sign) hown hfr hat
      have HT3 := Lib.hid hT3
      clear hown hfr hat hlt1 hT3
      obtain ⟨fed, hfed⟩ : ∃ fed, fed = F ++ [rdC 9 sign] := ⟨_, rfl⟩
      obtain ⟨whole, hwh⟩ : ∃ whole, whole = L2 ++ [rdC 10 sign] := ⟨_, rfl⟩
      have hT4 := HT3.out
      rw [← hfed, ← hwh] at hT4
      have hfl : F.length + 1 = fed.length := by rw [hfed]; simp
      have hwl : L2.length + 1 = whole.length := by rw [hwh]; simp
      rw [hfl, hwl] at hT4
      have hlf : ∀ c ∈ fed, Liney c := by
        intro c hc
        rw [hfed, HF0.out] at hc
        rcases List.mem_append.1 hc with hc | hc
        · exact feedF_liney sign cuts text c hc
        · simp at hc; subst hc; exact ⟨.inr (.inr (.inl rfl)), rfl⟩
      have hlw : ∀ c ∈ whole, Liney c := by
        intro c hc
        rw [hwh, HL2.out] at hc
        rcases List.mem_append.1 hc with hc | hc
        · rcases List.mem_cons.1 hc with rfl | hc
          · exact ⟨.inl rfl, rfl⟩
          · rw [(List.mem_replicate.1 hc).2]; exact ⟨.inr (.inr (.inr rfl)), rfl⟩
        · simp at hc; subst hc; exact ⟨.inr (.inr (.inr rfl)), rfl⟩
      have hof : ∀ c ∈ fed, c.size ≤ 65535 ∧ c.cuts = [] ∧ c.text.length ≤ 1048576 := by
        intro c hc
        rw [hfed, HF0.out] at hc
        rcases List.mem_append.1 hc with hc | hc
        · obtain ⟨k1, k2, k3⟩ := feedF_ok sign cuts text c hc
          exact ⟨k1, k2, by omega⟩
        · simp at hc; subst hc; exact ⟨by simp [rdC], rfl, by simp [rdC]⟩
      have how : ∀ c ∈ whole, c.size ≤ 65535 ∧ c.cuts = [] ∧ c.text.length ≤ 1048576 := by
        intro c hc
        rw [hwh, HL2.out] at hc
        rcases List.mem_append.1 hc with hc | hc
        · rcases List.mem_cons.1 hc with rfl | hc
          · exact ⟨by simp [wrC], rfl, h1⟩
          · rw [(List.mem_replicate.1 hc).2]; exact ⟨by simp [rdC], rfl, by simp [rdC]⟩
        · simp at hc; subst hc; exact ⟨by simp [rdC], rfl, by simp [rdC]⟩
      have hflen : fed.length ≤ 4097 := by omega
      have hwf : wsum fed ≤ 1099511000000 := by have := wsum_le 1048576 fed (fun c hc => (hof c hc).2.2); omega
      have hwlen : whole.length ≤ 1048579 := by rw [← hwl, HL2.out]; simp; omega
      have hwl2 : 2 ≤ whole.length := by rw [← hwl, HL2.out]; simp
      have hww : wsum whole ≤ 1099511000000 := by
        rw [hwh, HL2.out, wsum_append, wsum_cons]
        have := wsum_le 0 (List.replicate cnt (rdC 10 sign)) (fun c hc => by rw [(List.mem_replicate.1 hc).2]; simp [rdC])
        have h8 : wsum [rdC 10 sign] = 4 := by simp [wsum, rdC]
        simp [wrC] at *
        omega
      have hlaw := lines_law sign text cuts fed whole (by rw [hfed, HF0.out]) (by rw [hwh, HL2.out, HC0.out]; rfl)
      have HLAW := Lib.hid hlaw
      have HT4 := Lib.hid hT4
      have HLF := Lib.hid hlf
      have HLW := Lib.hid hlw
      have HOF := Lib.hid hof
      have HOW := Lib.hid how
      have HG3 := Lib.hid ((HG.out.fr0 (Nat.le_refl _) hT4.fr).up hT4.fr.size)
      clear hlaw hT4 hlf hlw hof how hfed hwh
      rw [hfl, hwl]
      clear hfl hwl
      go_wp2_with fail
      refine (run_lines fed HLF.out (fun c hc => by have := HOF.out c hc; exact ⟨this.1, this.2.1, by omega⟩) (by omega) hwf _ _ _ _ ea eu _ (reads_one w3) (HT4.out.o1.slice.2.fr0 ((Fr.refl _ w3).alloc _)) ((HG3.out.fr0 (Nat.le_refl _) ((Fr.refl _ w3).alloc _)).up (by simp))).mono ?_
      rintro e w4 ⟨v1, v2, v3, rfl, o1, o2, F4⟩
      obtain ⟨A1, q1, rfl⟩ := o1.value
      obtain ⟨A2, q2, rfl⟩ := o2.value
      have hF34 : Fr (fun _ => False) w3 w4 := ((Fr.refl _ w3).alloc _).trans F4
      have hG4 := (HG3.out.fr0 (Nat.le_refl _) hF34).up hF34.size
      have HO1 := Lib.hid o1
      have HO2 := Lib.hid o2
      have HF34 := Lib.hid hF34
      have HG4 := Lib.hid hG4
      clear o1 o2 F4 hF34 hG4
      go_wp2_with fail
      refine (run_lines whole HLW.out (fun c hc => by have := HOW.out c hc; exact ⟨this.1, this.2.1, by omega⟩) (by omega) hww _ _ _ _ ea eu _ (reads_one w4) (HT4.out.o2.slice.2.fr0 (HF34.out.alloc _)) ((HG4.out.fr0 (Nat.le_refl _) ((Fr.refl _ w4).alloc _)).up (by simp))).mono ?_
      rintro e w5 ⟨v4, v5, v6, rfl, o4, o5, F5⟩
      obtain ⟨A4, q4, rfl⟩ := o4.value
      obtain ⟨A5, q5, rfl⟩ := o5.value
      have hF45 : Fr (fun _ => False) w4 w5 := ((Fr.refl _ w4).alloc _).trans F5
      have HO4 := Lib.hid o4
      have HO5 := Lib.hid o5
      have HF45 := Lib.hid hF45
      have HF05 := Lib.hid ((HT4.out.fr.trans HF34.out).trans hF45)
      have HR1 := Lib.hid (HO1.out.fr hF45 (fun _ _ q => q))
      have HC5 := Lib.hid (HT4.out.o1.slice.2.fr0 (HF34.out.trans hF45))
      clear o4 o5 F5 hF45
      go_wp2_with fail
      go_loopw [19, 20, 120] (fun v19 v20 v120 wr2 => ∃ (k : Nat) (l : List Td), k ≤ fed.length ∧ v120 = .int .i64 (k : Int) ∧ v20 = .string ⟨(allT l).toArray⟩ ∧ LfL w5 fed (txRun [] fed).1 k wr2 v19 l) (fun _ _ v120 _ => fed.length - (intOf v120).toNat)
      case atStart => exact ⟨0, [], Nat.zero_le _, rfl, rfl, Own.empty _ _ w5 (Nat.le_refl _), rfl, (Fr.refl _ w5).alloc _⟩
      case round =>
        obtain ⟨k, l, hk, rfl, rfl, hL⟩ := hrel
        by_cases hkl : k < fed.length
        · have htl := txRun_len fed []
          obtain ⟨cc, hcc⟩ : ∃ cc, fed[k]? = some cc := ⟨_, List.getElem?_eq_getElem hkl⟩
          obtain ⟨td, htd⟩ : ∃ td, (txRun [] fed).1[k]? = some td := ⟨_, List.getElem?_eq_getElem (by omega)⟩
          obtain ⟨r, o, e1, hc⟩ := HC5.out.at' k cc hcc
          injection e1 with e1
          injection e1 with e1 e2
          subst e1 e2
          obtain ⟨Aq, cq, eq, _, hrd, hbl⟩ := Own.reads (cells := Td.cells) Td.cells_len (by decide) HR1.out
          injection eq with eq1 eq2 eq3
          subst eq1 eq3
          obtain ⟨r1, o1, e3, hd⟩ := hrd.at' k td htd
          subst e3
          have hps := pick_succ htl.symm hcc htd
          have hq : ∀ j u, cc.cells[j]? = some u → wr.cell? ⟨gb, 0 + k * 9 + j, none⟩ = some u := fun j u hu => (hL.fr.cell (World.block_lt_of_cell? _ _ (hc j u hu)) (fun q => q)).trans (hc j u hu)
          have hp : ∀ j u, td.cells[j]? = some u → w5.cell? ⟨r1, o1 + k * 4 + j, none⟩ = some u := hd
          obtain ⟨op, ca, cb, csize, cn, csign, cchar, ctext, ccuts, cad, ccap⟩ := cc
          obtain ⟨tn, tt, tc, tsd⟩ := td
          have c0 := hq 0 _ rfl
          have c1 := hq 1 _ rfl
          have c2 := hq 2 _ rfl
          have c3 := hq 3 _ rfl
          have c4 := hq 4 _ rfl
          have c5 := hq 5 _ rfl
          have c6 := hq 6 _ rfl
          have c7 := hq 7 _ rfl
          have c8 := hq 8 _ rfl
          simp only [Nat.add_zero, Nat.zero_add] at c0 c1 c2 c3 c4 c5 c6 c7 c8
          have hki : (k : Int) < (fed.length : Int) := by omega
          have hk0 : (0 : Int) ≤ (k : Int) := by omega
          have HPS := Lib.hid hps
          have HL := Lib.hid hL
          have HD := Lib.hid hp
          clear hc hd hq hp hrd hps hL hcc htd hbl
          simp only at *
          by_cases hop : op = 9
          · subst hop
            have hps2 := HPS.out
            rw [if_pos rfl, ← HL.out.pick] at hps2
            have hle := pick_le fed (txRun [] fed).1 (k + 1) htl.symm
            have hall : allT (pickF fed (txRun [] fed).1) = text := HLAW.out.2.1
            rw [hall, hps2] at hle
            have hlen : (allT l).length + tt.length ≤ 1048576 := by simp [allT] at hle ⊢; omega
            have hap := bytes_appL (allT l) tt
            have hlim : ¬ (9223372036854775807 < (allT l).length + tt.length) := by omega
            have hal : allT (l ++ [⟨tn, tt, tc, tsd⟩]) = allT l ++ tt := by simp [allT]
            have d0 := (HL.out.fr.cell (World.block_lt_of_cell? _ _ (HD.out 0 _ rfl)) (fun q => q)).trans (HD.out 0 _ rfl)
            have d1 := (HL.out.fr.cell (World.block_lt_of_cell? _ _ (HD.out 1 _ rfl)) (fun q => q)).trans (HD.out 1 _ rfl)
            have d2 := (HL.out.fr.cell (World.block_lt_of_cell? _ _ (HD.out 2 _ rfl)) (fun q => q)).trans (HD.out 2 _ rfl)
            have d3 := (HL.out.fr.cell (World.block_lt_of_cell? _ _ (HD.out 3 _ rfl)) (fun q => q)).trans (HD.out 3 _ rfl)
            have hr1 : r1 < w5.heap.size := World.block_lt_of_cell? _ _ (HD.out 0 _ rfl)
            simp only [Nat.add_zero] at d0
            have hll : l.length ≤ 4294967296 := by
              have e8 := pickF_len (fed.take k) ((txRun [] fed).1.take k)
              rw [← HL.out.pick] at e8
              simp at e8
              omega
            obtain ⟨A9, c9, rfl⟩ := HL.out.own.value
            have HAL := Lib.hid hal
            have HP2 := Lib.hid hps2
            clear hps2 hle hall hal
            obtain ⟨w6, hw6⟩ : ∃ w6, w6 = wr.alloc (.cells #[.int .i64 9, .int .i64 ca, .int .i64 cb, .int .u16 (csize : Int), .int .i64 cn, .int .u8 (csign.toNat : Int), .int .i32 cchar, .string ⟨ctext.toArray⟩, .slice cad ccuts.length ccap] 26) := ⟨_, rfl⟩
            have hF6 : Fr (fun _ => False) wr w6 := by rw [hw6]; exact (Fr.refl _ wr).alloc _
            have f0 := (hF6.cell (World.block_lt_of_cell? _ _ d0) (fun q => q)).trans d0
            have f1 := (hF6.cell (World.block_lt_of_cell? _ _ d1) (fun q => q)).trans d1
            have f2 := (hF6.cell (World.block_lt_of_cell? _ _ d2) (fun q => q)).trans d2
            have f3 := (hF6.cell (World.block_lt_of_cell? _ _ d3) (fun q => q)).trans d3
            have n0 := World.new_ne w6 _ f0
            have HO6 := Lib.hid (HL.out.own.fr hF6 (fun _ _ q => q))
            have HF6 := Lib.hid (HL.out.fr.trans hF6)
            have HW6 := Lib.hid hw6
            clear hw6 hF6 d0 d1 d2 d3
            go_wp2_with fail
            rw [← HW6.out]
            go_region_held3 (fun w' => w'.cell? ⟨r1, o1 + k * 4, none⟩ = some (.int .i64 tn) ∧ w'.cell? ⟨r1, o1 + k * 4 + 1, none⟩ = some (.string ⟨tt.toArray⟩) ∧ w'.cell? ⟨r1, o1 + k * 4 + 2, none⟩ = some (.int .i32 tc) ∧ w'.cell? ⟨r1, o1 + k * 4 + 3, none⟩ = some (.int .i64 tsd)) (go_keep) ((refine step_app rfl elem_told (.tmp 128) (.tmp 133) rfl w5.heap.size (.slice A9 l.length c9) l.length _ rfl (by first | exact HO6.out.fr ((Fr.refl (fun _ => False) w6).drew.alloc (.cells #[.int .i64 tn, .string ⟨tt.toArray⟩, .int .i32 tc, .int .i64 tsd] 35)) (fun _ _ q => q) | exact HO6.out.fr (((Fr.refl (fun _ => False) w6).alloc (.cells #[.int .i64 tn, .string ⟨tt.toArray⟩, .int .i32 tc, .int .i64 tsd] 35)).drew) (fun _ _ q => q) | exact HO6.out.fr ((Fr.refl (fun _ => False) w6).alloc (.cells #[.int .i64 tn, .string ⟨tt.toArray⟩, .int .i32 tc, .int .i64 tsd] 35)) (fun _ _ q => q)) w6.heap.size (Td.cells ⟨tn, tt, tc, tsd⟩) 35 rfl (by exact heap_alloc_new w6 _) rfl (by simp [Td.cells, Value.oneCell']) (by omega) (by have := HF6.out.size; simp; omega) ?_; intro gb5 cap5 w7 hown hfr hat hlt1; have hno : (Value.slice A9 l.length c9).ownBlock ≠ some r1 := (fun q => by have := HL.out.own.blk_ge q; omega); have hsz6 : r1 < w6.heap.size := World.block_lt_of_cell? _ _ f0; have g0 : w7.cell? ⟨r1, o1 + k * 4, none⟩ = some (.int .i64 tn) := (hfr.cell (by simp; omega) hno).trans (by simp [World.cell?_alloc_some, f0]); have g1 : w7.cell? ⟨r1, o1 + k * 4 + 1, none⟩ = some (.string ⟨tt.toArray⟩) := (hfr.cell (by simp; omega) hno).trans (by simp [World.cell?_alloc_some, f1]); have g2 : w7.cell? ⟨r1, o1 + k * 4 + 2, none⟩ = some (.int .i32 tc) := (hfr.cell (by simp; omega) hno).trans (by simp [World.cell?_alloc_some, f2]); have g3 : w7.cell? ⟨r1, o1 + k * 4 + 3, none⟩ = some (.int .i64 tsd) := (hfr.cell (by simp; omega) hno).trans (by simp [World.cell?_alloc_some, f3])))
            all_goals
              have HOWN := Lib.hid hown
              have HFR := Lib.hid hfr
              clear hown hfr
              go_wp2_with fail
              go_roundw
              case rel =>
                refine ⟨k + 1, l ++ [⟨tn, tt, tc, tsd⟩], by omega, by go_num, by rw [HAL.out], ⟨?_, HP2.out.symm, ?_⟩⟩
                · have e9 : tds [⟨tn, tt, tc, tsd⟩] = Td.cells ⟨tn, tt, tc, tsd⟩ := by simp [tds]
                  rw [tds_append, e9, List.length_append, List.length_singleton]
                  exact HOWN.out
                · exact (by first | exact HF6.out.alloc _ | exact (HF6.out.drew).alloc _ | exact (HF6.out.alloc _).drew : Fr (fun _ => False) w5 _).trans' HFR.out (fun x hx q => by have := HL.out.own.blk_ge q; omega)
              case measure => simp [intOf]; omega
          · have hopb : (op == 9) = false := by simp [hop]
            go_wp2_with fail
            go_roundw
            case rel =>
              refine ⟨k + 1, l, by omega, by go_num, rfl, ⟨HL.out.own.fr ((Fr.refl (fun _ => False) wr).alloc _) (fun _ _ q => q), ?_, HL.out.fr.alloc _⟩⟩
              rw [HPS.out, if_neg hop, List.append_nil]
              exact HL.out.pick
            case measure => simp [intOf]; omega
        · have htl := txRun_len fed []
          have hkk : k = fed.length := by omega
          subst hkk
          have hp := hL.pick
          rw [List.take_length, show (txRun [] fed).1.take fed.length = (txRun [] fed).1 by rw [← htl, List.take_length], HLAW.out.1] at hp
          have hal : allT l = text := by rw [hp, ← HLAW.out.1]; exact HLAW.out.2.1
          have hul := txRun_len whole []
          have hll : l.length = whole.length - 1 := by rw [hp, List.length_tail, hul]
          obtain ⟨A9, c9, rfl⟩ := hL.own.value
          obtain ⟨A', c', e1, hcap4, hr4, _⟩ := Own.reads (cells := Td.cells) Td.cells_len (by decide) HO4.out
          injection e1 with e1 e2 e3
          subst e1 e3
          have hu0 : ∃ u, (txRun [] whole).1[0]? = some u := ⟨_, List.getElem?_eq_getElem (by rw [hul]; omega)⟩
          obtain ⟨u, hu⟩ := hu0
          obtain ⟨r4, o4, e4, _⟩ := hr4.at' 0 u hu
          subst e4
          have hr4t := hr4.tail'
          rw [← hp] at hr4t
          obtain ⟨A', c', e1, _, hr9, _⟩ := Own.reads (cells := Td.cells) Td.cells_len (by decide) hL.own
          injection e1 with e1 e2 e3
          subst e1 e3
          have ho2 := HO2.out
          have ho5 := HO5.out
          rw [HLAW.out.2.2.1] at ho2
          rw [HLAW.out.2.2.2] at ho5
          rw [strs_flat] at ho2 ho5
          obtain ⟨A', c', e1, _, hr2, _⟩ := Own.reads (cells := strC) (fun _ => rfl) (by decide) ho2
          injection e1 with e1 e2 e3
          subst e1 e3
          obtain ⟨A', c', e1, _, hr5, _⟩ := Own.reads (cells := strC) (fun _ => rfl) (by decide) ho5
          injection e1 with e1 e2 e3
          subst e1 e3
          have hsl := slice_told1 r4 o4 whole.length q4 (by omega) (by omega)
          rw [← hll] at hsl
          have HL := Lib.hid hL
          have HR4 := Lib.hid (hr4t.fr0 hL.fr)
          have HR9 := Lib.hid hr9
          have HR2 := Lib.hid (hr2.fr0 (HF45.out.trans hL.fr))
          have HR5 := Lib.hid (hr5.fr0 hL.fr)
          clear hL hr4t hr9 hr2 hr5 ho2 ho5 hr4 hp hu
          rw [hal]
          have hl9 : l.length ≤ 4294967296 := by omega
          clear hll hul htl
          go_wp2_with fail
          refine (equal_told l _ _ _ _ _ HR9.out HR4.out hl9).mono ?_
          rintro e w6 ⟨rfl, F6⟩
          have HF6 := Lib.hid F6
          clear F6
          go_wp2_with fail
          refine (equal_strs [[]] _ _ _ _ _ (HR2.out.fr0 (HF6.out.alloc _)) (reads_empty1 w6) (by simp)).mono ?_
          rintro e w7 ⟨rfl, F7⟩
          have HF7 := Lib.hid F7
          clear F7
          go_wp2_with fail
          refine (equal_strs [[]] _ _ _ _ _ (HR5.out.fr0 (((HF6.out.alloc _).trans HF7.out).alloc _)) (reads_empty1 w7) (by simp)).mono ?_
          rintro e w8 ⟨rfl, F8⟩
          have HF8 := Lib.hid F8
          clear F8
          go_wp2_with fail
          go_ret
          exact ⟨rfl, ((HF05.out.trans HL.out.fr).trans (((HF6.out.alloc _).trans HF7.out).alloc _)).trans HF8.out⟩
    · obtain ⟨n, hn⟩ : ∃ n, (∃ h : i < cuts.length, n = min rest.length cuts[i]) ∨ (cuts.length ≤ i ∧ n = rest.length) := by
        rcases Nat.lt_or_ge i cuts.length with h | h
        · exact ⟨_, .inl ⟨h, rfl⟩⟩
        · exact ⟨_, .inr ⟨h, rfl⟩⟩
      have hstep := feedF_step sign hr cuts i n hn
      have hnl : n ≤ rest.length := by rcases hn with ⟨h, e⟩ | ⟨h, e⟩ <;> omega
      have hrl := hI.len
      have hni : (n : Int) ≤ (rest.length : Int) := by omega
      have hn0 : (0 : Int) ≤ (n : Int) := by omega
      have hb1 : (!rest.isEmpty) = true := by simp [hr]
      have hb2 : rest.isEmpty = false := by simp [hr]
      have hfw := hI.few
      have hix := hI.ix
      obtain ⟨p, hp⟩ : ∃ p, p = rest.take n := ⟨_, rfl⟩
      have x1 := ext_take rest n
      have x2 := ext_drop rest n
      rw [← hp] at x1 hstep
      have hpl : p.length = n := by rw [hp]; simp; omega
      have hpk : ∀ k, k < n → p[k]? = rest[k]? := fun k hk => by rw [hp, List.getElem?_take_of_lt hk]
      have hpc : p.count sign + (rest.drop n).count sign = rest.count sign := by rw [hp, ← List.count_append, List.take_append_drop]
      have HP := Lib.hid hpk
      have HPL := Lib.hid hpl
      have HPC := Lib.hid hpc
      clear hp hpk hpl hpc
      have HI := Lib.hid hI
      have HST := Lib.hid hstep
      have HR := Lib.hid hr
      obtain ⟨A7, c7, rfl⟩ := hI.two.o1.value
      have HT := Lib.hid hI.two
      have HF := Lib.hid hI.two.fr
      clear hI hstep hr
      by_cases hic : i < cuts.length
      case' pos =>
        have hmin : min (rest.length : Int) (cuts[i] : Int) = (n : Int) := by rcases hn with ⟨h, e⟩ | ⟨h, e⟩ <;> omega
        obtain ⟨r, o, rfl, hc⟩ := HA.out.cell (by omega)
        have hcc : wr.cell? ⟨r, o + i, none⟩ = some (.int .u16 (cuts[i] : Int)) := (HF.out.cell (World.block_lt_of_cell? _ _ (hc i hic)) (fun q => q)).trans (hc i hic)
        have hfw2 := HA.out.few cuts[i] (List.getElem_mem _)
        have hms : cuts.length - (i + 1) + (rest.length - n) < cuts.length - i + rest.length := by omega
        clear hc hn
        generalize cuts[i] = ci at *
        have hcw : IntKind.i64.wrap (ci : Int) = (ci : Int) := IntWalk.i64_in _ (by omega)
        have hii : (i : Int) < (cuts.length : Int) := by omega
        have hi0 : (0 : Int) ≤ (i : Int) := by omega
        go_wp2_with (refine wpList_app rfl elem_call (.tmp 46) (.tmp 51) rfl w.heap.size _ F.length _ (by rfl) (HT.out.o1.fr ((Fr.refl (fun _ => False) wr).alloc (.cells #[.int .i64 2, .int .i64 0, .int .i64 0, .int .u16 0, .int .i64 0, .int .u8 0, .int .i32 0, .string ⟨(p).toArray⟩, .slice none 0 0] 26)) (fun _ _ q => q)) wr.heap.size (wrC 2 (p)).cells 26 (by rfl) (by exact heap_alloc_new wr _) rfl (by simp [Cl.cells, wrC, Value.oneCell']) (by omega) (by first | (simp; done) | (have := HF.out.size; simp; omega)) ?_)
        intro gb cap w2 hown hfr hat hlt1
      case' neg =>
        have hL : rest.length = n := by rcases hn with ⟨h, e⟩ | ⟨h, e⟩ <;> omega
        have hms : cuts.length - (i + 1) + (rest.length - n) < cuts.length - i + rest.length := by have := List.length_pos_iff.2 HR.out; omega
        have hii : ¬ (i : Int) < (cuts.length : Int) := by omega
        clear hn
        go_wp2_with (refine wpList_app rfl elem_call (.tmp 46) (.tmp 51) rfl w.heap.size _ F.length _ (by rfl) (HT.out.o1.fr ((Fr.refl (fun _ => False) wr).alloc (.cells #[.int .i64 2, .int .i64 0, .int .i64 0, .int .u16 0, .int .i64 0, .int .u8 0, .int .i32 0, .string ⟨(p).toArray⟩, .slice none 0 0] 26)) (fun _ _ q => q)) wr.heap.size (wrC 2 (p)).cells 26 (by rfl) (by exact heap_alloc_new wr _) rfl (by simp [Cl.cells, wrC, Value.oneCell']) (by omega) (by first | (simp; done) | (have := HF.out.size; simp; omega)) ?_)
        intro gb cap w2 hown hfr hat hlt1
      all_goals
        have hT2 := HT.out.app1 (c := wrC 2 p) hown hfr hat
        have hK0 : LfK w text sign cnt F p 0 w2 (.slice (some ⟨gb, 0, none⟩) (F.length + 1) cap) u8 := ⟨by simpa using hT2⟩
        have HK0 := Lib.hid hK0
        clear hown hfr hat hlt1 hT2 hK0
        go_wp2_with fail
        go_loopw [7, 8, 54] (fun v7 v8 v54 wr2 => ∃ k : Nat, k ≤ n ∧ v54 = .int .i64 (k : Int) ∧ LfK w text sign cnt F p k wr2 v7 v8) (fun _ _ v54 _ => n - (intOf v54).toNat)
        case atStart => exact ⟨0, Nat.zero_le _, rfl, HK0.out⟩
        case round =>
          obtain ⟨k, hk, rfl, hK⟩ := hrel
          by_cases hkn : k < n
          · have hx : ∃ x, rest[k]? = some x := ⟨_, List.getElem?_eq_getElem (by omega)⟩
            obtain ⟨x, hx⟩ := hx
            have hki : (k : Int) < (rest.length : Int) := by omega
            have hki2 : (k : Int) < (n : Int) := by omega
            have hk0 : (0 : Int) ≤ (k : Int) := by omega
            have hget : ∀ h : k < (⟨rest.toArray⟩ : ByteArray).size, (⟨rest.toArray⟩ : ByteArray)[k]'h = x := fun h => by
              obtain ⟨hl, e⟩ := List.getElem?_eq_some_iff.1 hx
              subst e
              rfl
            have hpx := HP.out k hkn
            rw [hx] at hpx
            have hcnt : (p.take (k + 1)).count sign = (p.take k).count sign + (if x = sign then 1 else 0) := by
              obtain ⟨hl, e⟩ := List.getElem?_eq_some_iff.1 hpx
              rw [List.take_succ_eq_append_getElem hl, List.count_append, e]
              by_cases hxs : x = sign <;> simp [hxs]
            have hcl : (p.take k).count sign ≤ 1048576 := by have := List.count_le_length (l := p.take k) (a := sign); have h8 := HPL.out; rw [List.length_take] at this; omega
            have hcn : cnt ≤ 1048576 := by have h9 := HI.out.cnt; have := List.count_le_length (l := text) (a := sign); omega
            have hT3 := hK.two
            obtain ⟨L1, hL1⟩ : ∃ L1, L1 = F ++ wrC 2 p :: List.replicate ((p.take k).count sign) (rdC 9 sign) := ⟨_, rfl⟩
            obtain ⟨L2, hL2⟩ : ∃ L2, L2 = wrC 1 text :: List.replicate (cnt + (p.take k).count sign) (rdC 10 sign) := ⟨_, rfl⟩
            rw [← hL1, ← hL2] at hT3
            have hl1 : L1.length ≤ 4294967296 := by rw [hL1]; simp; omega
            have hl2 : L2.length ≤ 4294967296 := by rw [hL2]; simp; omega
            obtain ⟨A5, c5, rfl⟩ := hT3.o1.value
            obtain ⟨A6, c6, rfl⟩ := hT3.o2.value
            have HT3 := Lib.hid hT3
            have HF := Lib.hid hT3.fr
            have HL1 := Lib.hid hL1
            have HL2 := Lib.hid hL2
            have HCN := Lib.hid hcnt
            clear hx hpx hcnt hK hT3 hL1 hL2 hcl
            by_cases hxs : x = sign
            · subst hxs
              have hq : ((x.toNat : Int) == (x.toNat : Int)) = true := by simp
              go_wp2_with (refine wpList_app rfl elem_call (.tmp 62) (.tmp 65) rfl w.heap.size _ L1.length _ (by rfl) (HT3.out.o1.fr ((Fr.refl (fun _ => False) wr).alloc (.cells #[.int .i64 9, .int .i64 0, .int .i64 0, .int .u16 0, .int .i64 0, .int .u8 (x.toNat : Int), .int .i32 0, .string ⟨#[]⟩, .slice none 0 0] 26)) (fun _ _ q => q)) wr.heap.size (rdC 9 x).cells 26 (by rfl) (by exact heap_alloc_new wr _) rfl (by simp [Cl.cells, rdC, Value.oneCell']) (by omega) (by first | (simp; done) | (have := HF.out.size; simp; omega)) ?_)
              intro gb2 cap2 w3 hown hfr hat hlt1
              have hT4 := HT3.out.app1 (c := rdC 9 x) hown hfr hat
              have HT4 := Lib.hid hT4
              have HF := Lib.hid hT4.fr
              clear hown hfr hat hlt1 hT4
              go_wp2_with (refine wpList_app rfl elem_call (.tmp 67) (.tmp 70) rfl w.heap.size _ L2.length _ (by rfl) (HT4.out.o2.fr ((Fr.refl (fun _ => False) w3).alloc (.cells #[.int .i64 10, .int .i64 0, .int .i64 0, .int .u16 0, .int .i64 0, .int .u8 (x.toNat : Int), .int .i32 0, .string ⟨#[]⟩, .slice none 0 0] 26)) (fun _ _ q => q)) w3.heap.size (rdC 10 x).cells 26 (by rfl) (by exact heap_alloc_new w3 _) rfl (by simp [Cl.cells, rdC, Value.oneCell']) (by omega) (by first | (simp; done) | (have := HF.out.size; simp; omega)) ?_)
              intro gb3 cap3 w4 hown hfr hat hlt1
              have hT5 := HT4.out.app2 (c := rdC 10 x) hown hfr hat
              have HT5 := Lib.hid hT5
              clear hown hfr hat hlt1 hT5
              go_wp2_with fail
              go_roundw
              case rel =>
                refine ⟨k + 1, by omega, by go_num, ⟨?_⟩⟩
                have e1 : F ++ wrC 2 p :: List.replicate ((p.take (k + 1)).count x) (rdC 9 x) = L1 ++ [rdC 9 x] := by rw [HCN.out, HL1.out]; simp [List.replicate_succ']
                have e2 : wrC 1 text :: List.replicate (cnt + (p.take (k + 1)).count x) (rdC 10 x) = L2 ++ [rdC 10 x] := by rw [HCN.out, HL2.out]; simp [List.replicate_succ', ← Nat.add_assoc]
                rw [e1, e2]
                exact HT5.out
              case measure => simp [intOf]; omega
            · have hq : ((x.toNat : Int) == (sign.toNat : Int)) = false := by
                have : x.toNat ≠ sign.toNat := fun q => hxs (UInt8.toNat_inj.1 q)
                simp; omega
              go_wp2_with fail
              go_roundw
              case rel =>
                refine ⟨k + 1, by omega, by go_num, ⟨?_⟩⟩
                have e1 : F ++ wrC 2 p :: List.replicate ((p.take (k + 1)).count sign) (rdC 9 sign) = L1 := by rw [HCN.out, HL1.out]; simp [hxs]
                have e2 : wrC 1 text :: List.replicate (cnt + (p.take (k + 1)).count sign) (rdC 10 sign) = L2 := by rw [HCN.out, HL2.out]; simp [hxs]
                rw [e1, e2]
                exact HT3.out
              case measure => simp [intOf]; omega
          · obtain rfl : k = n := by omega
            have hpf : p.take k = p := List.take_of_length_le (by rw [HPL.out]; omega)
            have hT3 := hK.two
            rw [hpf] at hT3
            obtain ⟨L1, hL1⟩ : ∃ L1, L1 = F ++ pcF sign p := ⟨_, rfl⟩
            have e1 : F ++ wrC 2 p :: List.replicate (p.count sign) (rdC 9 sign) = L1 := hL1.symm
            rw [e1] at hT3
            have hl1 : F.length + 1 ≤ L1.length := by rw [hL1]; simp [pcF]
            have hl2 : L1.length ≤ 4294967296 := by
              have := List.count_le_length (l := p) (a := sign)
              have h8 := HPL.out
              rw [hL1]; simp [pcF]; omega
            obtain ⟨A5, c5, rfl⟩ := hT3.o1.value
            have HT3 := Lib.hid hT3
            have HL1 := Lib.hid hL1
            clear hK hT3 hL1 hpf e1 hkn
            by_cases hbig : 4096 < L1.length
            · have hbi : (4096 : Int) < (L1.length : Int) := by omega
              go_wp2_with fail
              go_ret
              exact ⟨rfl, HT3.out.fr⟩
            · have hbi : ¬ (4096 : Int) < (L1.length : Int) := by omega
              go_wp2_with fail
              go_roundw
              case rel =>
                refine ⟨i + 1, cnt + p.count sign, rest.drop k, L1, by first | rfl | rw [x2] | (rw [List.drop_of_length_le (by omega)]; rfl), by go_num, HT3.out, ?_, ?_, ?_, by omega, by omega⟩
                · rw [HL1.out, List.append_assoc, ← HST.out]
                  exact HI.out.fed
                · have h8 := HPC.out
                  have h9 := HI.out.cnt
                  omega
                · simp; omega
              case measure => first | (simp [intOf, ByteArray.size]; omega) | (simp [intOf]; omega)
end Go.Proofs.YtimigjjokdnfbaaDoor
