/- SpecZ, SpecC, SpecD, SpecB, LawP. -/
import Derived.Test.YtbodbajgpgaoeaaGreatDoorQ15
import Derived.Test.YtbodbajgpgaoeaaGreatDoorQ16
import Derived.Test.YtbodbajgpgaoeaaGreatDoorQ12
import Derived.Laws.OwnMore
import Derived.Test.YtbodbajgpgaoeaaGreatDoorQ14
namespace Go.Proofs.YtbodbajgpgaoeaaGreatDoor
open Go Go.RowKit

/-- What is known of a buffer of the reference. -/
structure SB.good (b : SB) : Prop where
  l1 : b.recent = 1 ∨ b.recent = 2 → 1 ≤ b.last.length
  l2 : b.last.length ≤ 4
theorem sp_do (b : SB) (c : Cl) (w : World) (h1 : 1 ≤ c.op) (h2 : c.op < 23) (hg : b.good) (hl : b.text.length + c.text.length + 8 ≤ 1099511627776) (hs : c.size ≤ 65535) :
    Calls Tryz.prog 45 #[b.val, c.val] w (DoPost w (b.do c).1 (b.do c).2.1 (b.do c).2.2) := by
  obtain ⟨text, recent, last, begun⟩ := b
  obtain ⟨op, a, bb, size, n, sign, char, ctext, cuts, ad, cap⟩ := c
  obtain ⟨g1, g2⟩ := hg
  simp only at h1 h2 hl hs g1 g2
  have hop : op = 1 ∨ op = 2 ∨ op = 3 ∨ op = 4 ∨ op = 5 ∨ op = 6 ∨ op = 7 ∨ op = 8 ∨ op = 9 ∨ op = 10 ∨ op = 11 ∨ op = 12 ∨ op = 13 ∨ op = 14 ∨ op = 15 ∨ op = 16 ∨ op = 17 ∨ op = 18 ∨ op = 19 ∨ op = 20 ∨ op = 21 ∨ op = 22 := by omega
  rcases hop with rfl | rfl | rfl | rfl | rfl | rfl | rfl | rfl | rfl | rfl | rfl | rfl | rfl | rfl | rfl | rfl | rfl | rfl | rfl | rfl | rfl | rfl
  · exact spd_1 text recent last begun a bb size n sign char ctext cuts ad cap w hl
  · exact spd_2 text recent last begun a bb size n sign char ctext cuts ad cap w hl
  · exact spd_3 text recent last begun a bb size n sign char ctext cuts ad cap w hl
  · exact spd_4 text recent last begun a bb size n sign char ctext cuts ad cap w hl
  · exact spd_5 text recent last begun a bb size n sign char ctext cuts ad cap w hl
  · exact spd_6 text recent last begun a bb size n sign char ctext cuts ad cap w _ _ _ (fun wx => sp_reads text recent last begun a bb size n sign char ctext cuts ad cap 6 (by omega) wx (by omega) hs)
  · exact spd_7 text recent last begun a bb size n sign char ctext cuts ad cap w _ _ _ (fun wx => sp_reads text recent last begun a bb size n sign char ctext cuts ad cap 7 (by omega) wx (by omega) hs)
  · exact spd_8 text recent last begun a bb size n sign char ctext cuts ad cap w _ _ _ (fun wx => sp_reads text recent last begun a bb size n sign char ctext cuts ad cap 8 (by omega) wx (by omega) hs)
  · exact spd_9 text recent last begun a bb size n sign char ctext cuts ad cap w _ _ _ (fun wx => sp_reads text recent last begun a bb size n sign char ctext cuts ad cap 9 (by omega) wx (by omega) hs)
  · exact spd_10 text recent last begun a bb size n sign char ctext cuts ad cap w _ _ _ (fun wx => sp_reads text recent last begun a bb size n sign char ctext cuts ad cap 10 (by omega) wx (by omega) hs)
  · exact spd_11 text recent last begun a bb size n sign char ctext cuts ad cap w _ _ _ (fun wx => sp_reads text recent last begun a bb size n sign char ctext cuts ad cap 11 (by omega) wx (by omega) hs)
  · exact spd_12 text recent last begun a bb size n sign char ctext cuts ad cap w _ _ _ (fun wx => sp_back text recent last begun a bb size n sign char ctext cuts ad cap 12 (by omega) wx (by omega) g1 (by omega))
  · exact spd_13 text recent last begun a bb size n sign char ctext cuts ad cap w _ _ _ (fun wx => sp_back text recent last begun a bb size n sign char ctext cuts ad cap 13 (by omega) wx (by omega) g1 (by omega))
  · exact spd_14 text recent last begun a bb size n sign char ctext cuts ad cap w _ _ _ (fun wx => sp_look text recent last begun a bb size n sign char ctext cuts ad cap 14 (by omega) wx (by omega) hs)
  · by_cases hk : 0 ≤ n ∧ n ≤ (text.length : Int)
    · obtain ⟨k, rfl⟩ := Int.eq_ofNat_of_zero_le hk.1
      have e : SB.do ⟨text, recent, last, begun⟩ ⟨15, a, bb, size, (k : Int), sign, char, ctext, cuts, ad, cap⟩ = (SB.other ⟨text, recent, last, begun⟩ (text.take k), Td.zero, true) := by
        unfold SB.do
        simp only
        rw [if_neg (by omega), if_neg (by omega), if_neg (by omega), if_neg (by omega), if_neg (by omega), if_neg (by omega), if_pos trivial, if_pos hk]
        simp
      rw [e]
      exact spd_15 text recent last begun a bb size k sign char ctext cuts ad cap w hl k rfl (by omega)
    · have e : SB.do ⟨text, recent, last, begun⟩ ⟨15, a, bb, size, n, sign, char, ctext, cuts, ad, cap⟩ = (⟨text, recent, last, begun⟩, Td.said' 3, true) := by
        unfold SB.do
        simp only
        rw [if_neg (by omega), if_neg (by omega), if_neg (by omega), if_neg (by omega), if_neg (by omega), if_neg (by omega), if_pos trivial, if_neg hk]
      rw [e]
      exact spd_15n text recent last begun a bb size n sign char ctext cuts ad cap w hl hk
  · exact spd_16 text recent last begun a bb size n sign char ctext cuts ad cap w
  · by_cases hn : n < 0
    · have e : SB.do ⟨text, recent, last, begun⟩ ⟨17, a, bb, size, n, sign, char, ctext, cuts, ad, cap⟩ = (⟨text, recent, last, begun⟩, Td.said' 3, true) := by simp [SB.do, hn]
      rw [e]
      exact spd_17n text recent last begun a bb size n sign char ctext cuts ad cap w hn
    · have e : SB.do ⟨text, recent, last, begun⟩ ⟨17, a, bb, size, n, sign, char, ctext, cuts, ad, cap⟩ = (SB.other ⟨text, recent, last, begun⟩ text, Td.zero, decide (n ≤ 65536)) := by simp [SB.do, hn]
      rw [e]
      exact spd_17 text recent last begun a bb size n sign char ctext cuts ad cap w hn
  · exact spd_18 text recent last begun a bb size n sign char ctext cuts ad cap w
  · exact spd_19 text recent last begun a bb size n sign char ctext cuts ad cap w
  · exact spd_20 text recent last begun a bb size n sign char ctext cuts ad cap w
  · exact spd_21 text recent last begun a bb size n sign char ctext cuts ad cap w _ _ _ (fun wx => sp_look text recent last begun a bb size n sign char ctext cuts ad cap 21 (by omega) wx (by omega) hs)
  · exact spd_22 text recent last begun a bb size n sign char ctext cuts ad cap w _ _ _ (fun wx => sp_look text recent last begun a bb size n sign char ctext cuts ad cap 22 (by omega) wx (by omega) hs)

theorem good_other (b : SB) (t : List UInt8) : (b.other t).good := ⟨fun q => by simp [SB.other] at q, by simp [SB.other]⟩
theorem good_write (b : SB) (t : List UInt8) : (b.write t).good := ⟨fun q => by simp [SB.write] at q, by simp [SB.write]⟩
theorem good_read (b : SB) (n : Nat) (r : Int) (hn : n ≤ b.text.length) (h4 : r = 2 → n ≤ 4) : (b.read n r).good := by
  unfold SB.read
  split
  · exact ⟨fun q => by simp at q, by simp⟩
  · rename_i h0
    refine ⟨fun _ => ?_, ?_⟩
    · simp only
      split
      · simp; omega
      · simp; omega
    · simp only
      split
      · rename_i h2
        have := h4 h2
        simp; omega
      · simp; omega
theorem upTo_len {x : UInt8} : ∀ {l : List UInt8} {k : Nat}, upTo x l = some k → k ≤ l.length
  | [], k, h => by simp [upTo] at h
  | y :: l, k, h => by
    simp only [upTo] at h
    split at h
    · injection h with h
      subst h
      simp
    · cases hu : upTo x l with
      | none => rw [hu] at h; simp at h
      | some j =>
        rw [hu] at h
        simp only [Option.map_some, Option.some.injEq] at h
        have := upTo_len hu
        simp only [List.length_cons]
        omega
theorem good_do {b : SB} (h : b.good) (c : Cl) : (b.do c).1.good := by
  have hreads : (b.reads c).1.good := by
    unfold SB.reads
    simp only
    repeat' split
    all_goals first
      | exact good_read b 0 1 (by omega) (fun q => absurd q (by decide))
      | exact good_read b 0 2 (by omega) (by omega)
      | exact good_read b _ 1 (Nat.min_le_right _ _) (fun q => absurd q (by decide))
      | (rename_i ht; exact good_read b 1 1 (by rw [ht]; simp) (fun q => absurd q (by decide)))
      | (rename_i hu; exact good_read b _ 1 (upTo_len hu) (fun q => absurd q (by decide)))
      | exact good_read b _ 5 (Nat.le_refl _) (fun q => absurd q (by decide))
      | (rename_i ht; exact good_read b _ 2 (dec_le b.text ht).2.1 (fun _ => (dec_le b.text ht).2.2))
      | exact ⟨fun q => by simp at q, by simp⟩
  have hlook : (b.look c).1.good := by
    unfold SB.look
    simp only
    repeat' split
    all_goals first | exact h | exact good_other _ _
  have hback : (b.back c).1.good := by
    unfold SB.back
    repeat' split
    all_goals first | exact h | exact good_other _ _
  unfold SB.do
  repeat' split
  all_goals first | exact h | exact good_other _ _ | exact good_write _ _ | exact hreads | exact hlook | exact hback
end Go.Proofs.YtbodbajgpgaoeaaGreatDoor

namespace Go.Proofs.YtbodbajgpgaoeaaGreatDoor
open Go Go.RowKit

theorem flat_inv {α : Type} (cells : α → List Value) (size : Nat) (hs : ∀ x, (cells x).length = size) (hp : 0 < size) : ∀ (xs : List α) (j : Nat) (v : Value), (xs.flatMap cells)[j]? = some v → ∃ i x k, xs[i]? = some x ∧ (cells x)[k]? = some v ∧ j = i * size + k
  | [], j, v, h => by simp at h
  | y :: xs, j, v, h => by
    have hl := hs y
    rw [List.flatMap_cons] at h
    rcases Nat.lt_or_ge j size with hj | hj
    · rw [List.getElem?_append_left (by omega)] at h
      exact ⟨0, y, j, rfl, h, by omega⟩
    · rw [List.getElem?_append_right (by omega), hl] at h
      obtain ⟨i, x, k, h1, h2, h3⟩ := flat_inv cells size hs hp xs (j - size) v h
      exact ⟨i + 1, x, k, by simpa using h1, h2, by rw [Nat.succ_mul]; omega⟩
theorem flat_len {α : Type} (cells : α → List Value) (size : Nat) (hs : ∀ x, (cells x).length = size) : ∀ xs : List α, (xs.flatMap cells).length = xs.length * size
  | [] => by simp
  | x :: xs => by rw [List.flatMap_cons, List.length_append, hs, flat_len cells size hs xs, List.length_cons, Nat.succ_mul]; omega
/-- append of a slice that reads as ys to a slice of the call's own. -/
theorem run_copy {α : Type} {cells : α → List Value} {P : Program} {T E : TypeId} {size bytes : Nat} (ok : ElemOk P T E size bytes) (hs : ∀ x, (cells x).length = size) (h1 : ∀ x, ∀ u ∈ cells x, u.oneCell' = true) (ty : TypeId) {w : World} {base : Nat} {v : Value} {n : Nat} {xs : List Value} (hown : Own E size w base v n xs)
    {A : Option Addr} {c : Nat} {ys : List α} (hr : Reads cells size w A ys) (hA : A = none → ys = [] ∧ c = 0) (hn : n + ys.length ≤ 8589934592) (hbase : base ≤ w.heap.size) :
    ∃ v' w', (Builtin.append_ #[T, T] ty #[v, .slice A ys.length c]).run P w = .ok v' w' ∧ Own E size w' base v' (n + ys.length) (xs ++ ys.flatMap cells) ∧ Fr (fun x => v.ownBlock = some x) w w' ∧ (v'.ownBlock = v.ownBlock ∨ v'.ownBlock = some w.heap.size) := by
  obtain ⟨i, z, hi, hz, h2, h3, h4⟩ := ok.ex
  cases A with
  | none =>
    obtain ⟨rfl, rfl⟩ := hA rfl
    exact ⟨v, w, run_append_owned_none w base T ty E i size ok.ht hi v n xs hown, by simpa using hown, Fr.refl _ w, .inl rfl⟩
  | some ad =>
    have hfew := ok.few
    have hbytes : (n + ys.length) * bytes ≤ 140737488355328 := by
      have : (n + ys.length) * bytes ≤ 8589934592 * 4096 := Nat.mul_le_mul hn hfew
      omega
    have hnews : ∀ (j : Nat) (u : Value), (ys.flatMap cells)[j]? = some u → w.cell? (ad.add j) = some u := by
      intro j u hu
      obtain ⟨i', x, k, q1, q2, rfl⟩ := flat_inv cells size hs ok.pos ys j u hu
      obtain ⟨r, o, e, hc⟩ := hr.at' i' x q1
      injection e with e
      subst e
      have := hc k u q2
      rw [addr_add]
      rw [show o + (i' * size + k) = o + i' * size + k by omega]
      exact this
    obtain ⟨v', w', k1, k2, k3, _, k5⟩ := run_append_own_at (P := P) w base T ty E i z size bytes ok.ht hi hz h2 h3 h4 ok.pos v n xs hown ad ys.length c (ys.flatMap cells) (flat_len cells size hs ys) hnews (fun u hu => by obtain ⟨x, _, hx⟩ := List.mem_flatMap.1 hu; exact h1 x u hx) (by unfold maxLen; omega) hbytes hbase
    exact ⟨v', w', k1, k2, Fr.of_grown k3 fun _ q => q, k5⟩
theorem elem_sb : ElemOk Tryz.prog 57 81 4 48 := by
  obtain ⟨i0, hi, hz0, hz1, hz2⟩ := info_parts (show (Tryz.prog.info? 81).map (fun i => (i.zero, i.size, i.bytes)) = some (some (.agg #[.string ⟨#[]⟩, .int .i64 0, .string ⟨#[]⟩, .bool false]), 4, 48) by kernel_rfl)
  exact ⟨Tryz.underlying57, ⟨i0, _, hi, hz0, hz1, hz2, rfl⟩, by decide, by decide⟩
def sbs (l : List SB) : List Value := l.flatMap SB.cells
/-- A yard of the reference, as the code has it. -/
structure YV (w : World) (A1 : Option Addr) (n1 c1 : Nat) (A2 : Option Addr) (n2 c2 : Nat) (y : Yd) : Prop where
  l1 : n1 = y.bufs.length
  l2 : n2 = y.blds.length
  r1 : Reads SB.cells 4 w A1 y.bufs
  r2 : Reads strC 1 w A2 y.blds
  z1 : A1 = none → y.bufs = [] ∧ c1 = 0
  z2 : A2 = none → y.blds = [] ∧ c2 = 0
theorem YV.fr {w w' : World} {A1 : Option Addr} {n1 c1 : Nat} {A2 : Option Addr} {n2 c2 : Nat} {y : Yd} (h : YV w A1 n1 c1 A2 n2 c2 y) (hf : Fr (fun _ => False) w w') : YV w' A1 n1 c1 A2 n2 c2 y := ⟨h.l1, h.l2, h.r1.fr0 hf, h.r2.fr0 hf, h.z1, h.z2⟩
theorem Own.zero {E : TypeId} {size : Nat} {w : World} {base : Nat} {A : Option Addr} {n c : Nat} {xs : List Value} (h : Own E size w base (.slice A n c) n xs) (hA : A = none) : xs = [] ∧ c = 0 := by
  subst hA
  have hl := h.1
  rcases h.2 with ⟨e, h0⟩ | ⟨g, cap, cur, e, _⟩
  · injection e with _ e1 e2
    refine ⟨List.eq_nil_of_length_eq_zero (by rw [hl, h0]; simp), e2⟩
  · injection e with e
    cases e
end Go.Proofs.YtbodbajgpgaoeaaGreatDoor

namespace Go.Proofs.YtbodbajgpgaoeaaGreatDoor
open Go Go.RowKit

section
variable {α : Type} {cells : α → List Value} {P : Program} {w : World} {ops : Array Oper} {o : Oper} {a : Act} {K : Act → World → Prop} {Q : Exit → Act → World → Prop} {T E : TypeId} {size bytes : Nat}
theorem step_copy {E0 : Prop} (ok : ElemOk P T E size bytes) (hs : ∀ x, (cells x).length = size) (h1 : ∀ x, ∀ u ∈ cells x, u.oneCell' = true) (hgd : o.guard = none) (s x : Operand) (ho : o.op = .call { callee := .builtin .append, args := #[s, x], argTypes := #[T, T] })
    (base : Nat) (v : Value) (n : Nat) (xs : List Value) (A : Option Addr) (c : Nat) (ys : List α) (hv : a.eval s = v) (hx : a.eval x = .slice A ys.length c) (hown : Own E size w base v n xs) (hr : Reads cells size w A ys) (hA : A = none → ys = [] ∧ c = 0) (hn : n + ys.length ≤ 8589934592) (hbase : base ≤ w.heap.size)
    (h : Own E size w base v n xs → ∀ v' w', Own E size w' base v' (n + ys.length) (xs ++ ys.flatMap cells) → Fr (fun x => v.ownBlock = some x) w w' → (v'.ownBlock = v.ownBlock ∨ v'.ownBlock = some w.heap.size) → K (a.put o.dst v') w') :
    if Region.wanted o (yielded ops a.tmps) = true then Oper.wp P o a w K Q else E0 := by
  obtain ⟨v', w', hrun, k1, k2, k3⟩ := run_copy ok hs h1 o.type hown hr hA hn hbase
  exact step_of_wp hgd (wp_append_of_run s x T T ho hv hx hrun (h hown v' w' k1 k2 k3))
end
theorem just2 (w : World) (x : Nat) (a b : Value) : Fr (Just x) w ((w.setCell ⟨x, 0, none⟩ a).setCell ⟨x, 1, none⟩ b) :=
  ((Fr.refl _ w).setCell (fun _ => just_self x) _).setCell (fun _ => just_self x) _
theorem own_at {H n c x : Nat} (q : (Value.slice (some ⟨H, 0, none⟩) n c).ownBlock = some x) : H = x := by injection q
theorem own_bare {E : TypeId} {size : Nat} {w : World} {base H : Nat} (h : w.heap[H]? = some (.cells #[] E (0, 0))) (hb : base ≤ H) : Own E size w base (.slice (some ⟨H, 0, none⟩) 0 0) 0 [] :=
  ⟨by simp, .inr ⟨_, 0, #[], rfl, hb, h, Nat.le_refl _, by simp [maxLen], by simp, by simp⟩⟩
theorem sb_one (s : SB) : ∀ u ∈ s.cells, u.oneCell' = true := by simp [SB.cells, Value.oneCell']
theorem str_one (s : List UInt8) : ∀ u ∈ strC s, u.oneCell' = true := by simp [strC, strV, Value.oneCell']
def CopyPost (w : World) (y : Yd) (e : Ending) (w' : World) : Prop :=
  ∃ v1 v2, e = .returned (.agg #[v1, v2]) ∧ Own 81 4 w' w.heap.size v1 y.bufs.length (sbs y.bufs) ∧ Own 9 1 w' w.heap.size v2 y.blds.length (strs y.blds) ∧ Fr (fun _ => False) w w'
set_option maxHeartbeats 1600000 in
set_option maxRecDepth 100000 in
theorem sp_copied (A1 : Option Addr) (n1 c1 : Nat) (A2 : Option Addr) (n2 c2 : Nat) (y : Yd) (w : World) (h : YV w A1 n1 c1 A2 n2 c2 y) (h1 : y.bufs.length ≤ 4294967296) (h2 : y.blds.length ≤ 4294967296) :
    Calls Tryz.prog 41 #[.agg #[.slice A1 n1 c1, .slice A2 n2 c2]] w (CopyPost w y) := by
  obtain ⟨rfl, rfl, r1, r2, z1, z2⟩ := h
  obtain ⟨w0, hw0⟩ : ∃ w0, w0 = (w.alloc (.cells #[.slice A1 y.bufs.length c1, .slice A2 y.blds.length c2] 59)).alloc (.cells #[.slice none 0 0, .slice none 0 0] 59) := ⟨_, rfl⟩
  have hF0 : Fr (fun _ => False) w w0 := by rw [hw0]; exact ((Fr.refl _ w).alloc _).alloc _
  have e0 : w0.cell? ⟨w.heap.size, 0, none⟩ = some (.slice A1 y.bufs.length c1) := by rw [hw0]; simp
  have e1 : w0.cell? ⟨w.heap.size, 1, none⟩ = some (.slice A2 y.blds.length c2) := by rw [hw0]; simp
  have hs0 : w.heap.size + 2 = w0.heap.size := by rw [hw0]; simp
  have HR1 := Lib.hid (r1.fr0 hF0)
  have HR2 := Lib.hid (r2.fr0 hF0)
  have HZ1 := Lib.hid z1
  have HZ2 := Lib.hid z2
  have HF0 := Lib.hid hF0
  have HW0 := Lib.hid hw0
  clear r1 r2 z1 z2 hF0 hw0
  have HB := Lib.hid (show w0.heap[w.heap.size + 1]? = some (.cells #[.slice none 0 0, .slice none 0 0] 59 (0, 0)) by rw [HW0.out]; have := heap_alloc_new (w.alloc (.cells #[.slice A1 y.bufs.length c1, .slice A2 y.blds.length c2] 59)) (.cells #[.slice none 0 0, .slice none 0 0] 59); simpa using this)
  have HK0 := Lib.hid (show (w0.drew.alloc (.cells #[] 81)).heap[w0.heap.size]? = some (.cells #[] 81 (0, 0)) by exact heap_alloc_new w0.drew _)
  have HK1 := Lib.hid (show ((w0.drew.alloc (.cells #[] 81)).alloc (.cells #[] 9)).heap[w0.heap.size]? = some (.cells #[] 81 (0, 0)) by exact ((Fr.refl (fun _ => False) _).alloc _).blk (heap_alloc_new w0.drew _) (fun q => q))
  have HK2 := Lib.hid (show ((w0.drew.alloc (.cells #[] 81)).alloc (.cells #[] 9)).heap[w0.heap.size + 1]? = some (.cells #[] 9 (0, 0)) by have := heap_alloc_new (w0.drew.alloc (.cells #[] 81)) (.cells #[] 9); simpa using this)
  have HK3 := Lib.hid (show (w0.drew.alloc (.cells #[] 9)).heap[w0.heap.size]? = some (.cells #[] 9 (0, 0)) by exact heap_alloc_new w0.drew _)
  have HK4 := Lib.hid (show ((w0.drew.alloc (.cells #[] 9)).alloc (.cells #[] 81)).heap[w0.heap.size]? = some (.cells #[] 9 (0, 0)) by exact ((Fr.refl (fun _ => False) _).alloc _).blk (heap_alloc_new w0.drew _) (fun q => q))
  have HK5 := Lib.hid (show ((w0.drew.alloc (.cells #[] 9)).alloc (.cells #[] 81)).heap[w0.heap.size + 1]? = some (.cells #[] 81 (0, 0)) by have := heap_alloc_new (w0.drew.alloc (.cells #[] 9)) (.cells #[] 81); simpa using this)
  go_enter Tryz.func41, Tryz.ntmps41
  go_wp2_with fail
  rw [← HW0.out]
  go_region_held3 (fun w' => w'.cell? ⟨w.heap.size, 0, none⟩ = some (.slice A1 y.bufs.length c1) ∧ w'.cell? ⟨w.heap.size, 1, none⟩ = some (.slice A2 y.blds.length c2)) (first | go_keep | exact ⟨p0, p1⟩) ((first | (refine step_copy elem_sb SB.cells_len sb_one rfl (.tmp 3) (.tmp 5) rfl w.heap.size _ 0 [] A1 c1 y.bufs rfl rfl (own_bare (by first | exact HK0.out | exact HK1.out | exact HK5.out | exact heap_alloc_new _ _ | exact HFA.out.blk HK0.out (fun q => by have q := own_at q; omega) | exact HFA.out.blk HK1.out (fun q => by have q := own_at q; omega) | exact HFA.out.blk HK5.out (fun q => by have q := own_at q; omega)) (by first | omega | (simp; omega) | (have := HFW.out.size; simp; omega) | (have := HFW.out.size; omega))) (HR1.out.fr0 (by first | exact ((Fr.refl (fun _ => False) w0).drew).alloc _ | exact (((Fr.refl (fun _ => False) w0).drew).alloc _).alloc _ | exact HFW.out | exact HFW.out.alloc _)) HZ1.out (by omega) (by first | omega | (simp; omega) | (have := HFW.out.size; simp; omega) | (have := HFW.out.size; omega)) ?_; intro hw v1 wx hown hf hat; rw [Nat.zero_add, List.nil_append] at hown; obtain ⟨B1, d1, rfl⟩ := hown.value; (try (first | have HO2 := Lib.hid (HO2.out.fr hf (fun x hx q => HO2.out.other hw (by decide) x hx q)) | have HO2 := Lib.hid ((HO2.out.fr ((Fr.refl (fun _ => False) _).alloc _) (fun _ _ q => q)).fr hf (fun x hx q => (HO2.out.fr ((Fr.refl (fun _ => False) _).alloc _) (fun _ _ q => q)).other hw (by decide) x hx q)))); have HFV := Lib.hid (show Fr (fun _ => False) w0 wx from Fr.trans' (by first | exact ((Fr.refl (fun _ => False) w0).drew).alloc _ | exact (((Fr.refl (fun _ => False) w0).drew).alloc _).alloc _ | exact HFW.out | exact HFW.out.alloc _) hf (fun x hx q => by have q := own_at q; first | omega | (have := HFW.out.size; omega))); have HFW := Lib.hid HFV.out; have HFA := Lib.hid hf; have HO1 := Lib.hid hown; have p0 : wx.cell? ⟨w.heap.size, 0, none⟩ = some (.slice A1 y.bufs.length c1) := (HFW.out.cell (World.block_lt_of_cell? _ _ e0) (fun q => q)).trans e0; have p1 : wx.cell? ⟨w.heap.size, 1, none⟩ = some (.slice A2 y.blds.length c2) := (HFW.out.cell (World.block_lt_of_cell? _ _ e1) (fun q => q)).trans e1; have hbx := HFW.out.blk HB.out (fun q => q); have q0 : wx.cell? ⟨w.heap.size + 1, 0, none⟩ = some (.slice none 0 0) := (by rw [cell_of_row wx _ 0 _ _ _ hbx]; rfl); have q1 : wx.cell? ⟨w.heap.size + 1, 1, none⟩ = some (.slice none 0 0) := (by rw [cell_of_row wx _ 1 _ _ _ hbx]; rfl); have y0 : wx.frozen? ⟨w.heap.size + 1, 0, none⟩ = false := (by simp [World.frozen?, hbx]); have y1 : wx.frozen? ⟨w.heap.size + 1, 1, none⟩ = false := (by simp [World.frozen?, hbx]); have n0 := World.new_ne wx _ p0; clear hbx; clear hown hf hat hw) | (refine step_copy elem_string (fun _ => rfl) str_one rfl (.tmp 7) (.tmp 9) rfl w.heap.size _ 0 [] A2 c2 y.blds rfl rfl (own_bare (by first | exact HK2.out | exact HK3.out | exact HK4.out | exact heap_alloc_new _ _ | exact HFA.out.blk HK2.out (fun q => by have q := own_at q; omega) | exact HFA.out.blk HK3.out (fun q => by have q := own_at q; omega) | exact HFA.out.blk HK4.out (fun q => by have q := own_at q; omega)) (by first | omega | (simp; omega) | (have := HFW.out.size; simp; omega) | (have := HFW.out.size; omega))) (HR2.out.fr0 (by first | exact ((Fr.refl (fun _ => False) w0).drew).alloc _ | exact (((Fr.refl (fun _ => False) w0).drew).alloc _).alloc _ | exact HFW.out | exact HFW.out.alloc _)) HZ2.out (by omega) (by first | omega | (simp; omega) | (have := HFW.out.size; simp; omega) | (have := HFW.out.size; omega)) ?_; intro hw v2 wx hown hf hat; rw [Nat.zero_add, List.nil_append] at hown; obtain ⟨B2, d2, rfl⟩ := hown.value; (try (first | have HO1 := Lib.hid (HO1.out.fr hf (fun x hx q => HO1.out.other hw (by decide) x hx q)) | have HO1 := Lib.hid ((HO1.out.fr ((Fr.refl (fun _ => False) _).alloc _) (fun _ _ q => q)).fr hf (fun x hx q => (HO1.out.fr ((Fr.refl (fun _ => False) _).alloc _) (fun _ _ q => q)).other hw (by decide) x hx q)))); have HFV := Lib.hid (show Fr (fun _ => False) w0 wx from Fr.trans' (by first | exact ((Fr.refl (fun _ => False) w0).drew).alloc _ | exact (((Fr.refl (fun _ => False) w0).drew).alloc _).alloc _ | exact HFW.out | exact HFW.out.alloc _) hf (fun x hx q => by have q := own_at q; first | omega | (have := HFW.out.size; omega))); have HFW := Lib.hid HFV.out; have HFA := Lib.hid hf; have HO2 := Lib.hid hown; have p0 : wx.cell? ⟨w.heap.size, 0, none⟩ = some (.slice A1 y.bufs.length c1) := (HFW.out.cell (World.block_lt_of_cell? _ _ e0) (fun q => q)).trans e0; have p1 : wx.cell? ⟨w.heap.size, 1, none⟩ = some (.slice A2 y.blds.length c2) := (HFW.out.cell (World.block_lt_of_cell? _ _ e1) (fun q => q)).trans e1; have hbx := HFW.out.blk HB.out (fun q => q); have q0 : wx.cell? ⟨w.heap.size + 1, 0, none⟩ = some (.slice none 0 0) := (by rw [cell_of_row wx _ 0 _ _ _ hbx]; rfl); have q1 : wx.cell? ⟨w.heap.size + 1, 1, none⟩ = some (.slice none 0 0) := (by rw [cell_of_row wx _ 1 _ _ _ hbx]; rfl); have y0 : wx.frozen? ⟨w.heap.size + 1, 0, none⟩ = false := (by simp [World.frozen?, hbx]); have y1 : wx.frozen? ⟨w.heap.size + 1, 1, none⟩ = false := (by simp [World.frozen?, hbx]); have n0 := World.new_ne wx _ p0; clear hbx; clear hown hf hat hw)))
  all_goals
    have hbx := HFW.out.blk HB.out (fun q => q)
    have hJ : Fr (Just (w.heap.size + 1)) wx ((wx.setCell ⟨w.heap.size + 1, 0, none⟩ (.slice B1 y.bufs.length d1)).setCell ⟨w.heap.size + 1, 1, none⟩ (.slice B2 y.blds.length d2)) := just2 _ _ _ _
    have HO1' := Lib.hid (HO1.out.fr hJ (fun x hx q => HO1.out.ne_blk hbx (by decide) hx q))
    have HO2' := Lib.hid (HO2.out.fr hJ (fun x hx q => HO2.out.ne_blk hbx (by decide) hx q))
    have HFF := Lib.hid ((HF0.out.trans HFW.out).trans' hJ (fun x hx q => by have q : x = w.heap.size + 1 := q; omega))
    clear hbx hJ
    go_wp2_with fail
    refine bodyPost_ret (v := .agg #[.slice B1 y.bufs.length d1, .slice B2 y.blds.length d2]) (by simp [results, Tryz.results41, go_sem, q0, q1]) rfl ?_
    exact ⟨_, _, rfl, HO1'.out, by rw [strs_flat]; exact HO2'.out, HFF.out⟩
end Go.Proofs.YtbodbajgpgaoeaaGreatDoor

namespace Go.Proofs.YtbodbajgpgaoeaaGreatDoor
open Go Go.RowKit

theorem just1 (w : World) (x : Nat) (a : Value) : Fr (Just x) w (w.setCell ⟨x, 0, none⟩ a) := (Fr.refl _ w).setCell (fun _ => just_self x) _
def sbOf (s : St) : SB := ⟨s.text, if s.way = 2 then 4 else 0, [], false⟩
theorem begin_bufs (starts : List St) (nb : Nat) : (Yd.begin starts nb).bufs = starts.map sbOf := rfl
theorem sbs_append (l m : List SB) : sbs (l ++ m) = sbs l ++ sbs m := by simp [sbs]
theorem sbs_one (s : SB) : sbs [s] = s.cells := by simp [sbs]
theorem made_strs' (n : Nat) : (madeCells #[Value.string ⟨#[]⟩] n).toList = strs (List.replicate n []) := by
  apply List.ext_getElem
  · simp [madeCells]
  · intro i h1 h2
    simp [madeCells, strs, strV, Nat.mod_one]
theorem make_strs8 (n : Nat) (hn : n ≤ 255) (w : World) : (Instr.makeSlice 30 (.int .u8 (n : Int)) (.int .u8 (n : Int))).run Tryz.prog w = .ok (.slice (some ⟨w.heap.size, 0, none⟩) n n) (w.alloc (.cells (madeCells #[Value.string ⟨#[]⟩] n) 9)) := by
  obtain ⟨i0, hi, hz0, hz1, hz2⟩ := info_parts (show (Tryz.prog.info? 9).map (fun i => (i.zero, i.size, i.bytes)) = some (some (.string ⟨#[]⟩), 1, 16) by kernel_rfl)
  have hr := run_make (P := Tryz.prog) w 30 9 i0 _ Tryz.underlying30 hi hz0 .u8 .u8 n n (by omega) (by omega) (by rw [hz2]; omega) (by omega)
  simp only [Int.toNat_natCast, hz1, Nat.mul_one, Value.cells] at hr
  exact hr
theorem Own.made' (n : Nat) (hn : n ≤ 4294967296) {w : World} {base H : Nat} (hb : base ≤ H) (hh : w.heap[H]? = some (.cells (madeCells #[Value.string ⟨#[]⟩] n) 9 (0, 0))) : Own 9 1 w base (.slice (some ⟨H, 0, none⟩) n n) n (strs (List.replicate n [])) :=
  ⟨by simp, .inr ⟨_, n, _, rfl, hb, hh, Nat.le_refl _, by unfold maxLen; omega, by simp [madeCells], by rw [made_strs', List.take_of_length_le (by simp)]⟩⟩
/-- How far the loop has come. -/
structure BgI (w wr : World) (starts : List St) (nb k : Nat) (v : Value) : Prop where
  yd : wr.heap[w.heap.size + 1 + 1]? = some (.cells #[v, .slice (some ⟨w.heap.size + 1, 0, none⟩) nb nb] 59 (0, 0))
  md : wr.heap[w.heap.size + 1]? = some (.cells (madeCells #[Value.string ⟨#[]⟩] nb) 9 (0, 0))
  rs : wr.heap[w.heap.size]? = some (.cells #[.slice none 0 0, .slice none 0 0] 59 (0, 0))
  own : Own 81 4 wr w.heap.size v k (sbs ((starts.take k).map sbOf))
  fr : Fr (fun _ => False) w wr

set_option maxHeartbeats 1600000 in
set_option maxRecDepth 100000 in
theorem sp_begin (starts : List St) (nb : Nat) (A : Option Addr) (c : Nat) (w : World) (hR : Reads St.cells 3 w A starts) (hn : starts.length ≤ 4294967296) (hnb : nb ≤ 255) :
    Calls Tryz.prog 28 #[.slice A starts.length c, .int .u8 (nb : Int)] w (CopyPost w (Yd.begin starts nb)) := by
  have HR := Lib.hid hR
  clear hR
  have hmk := make_strs8 nb hnb
  obtain ⟨w3, hw3⟩ : ∃ w3, w3 = ((w.alloc (.cells #[.slice none 0 0, .slice none 0 0] 59)).alloc (.cells (madeCells #[Value.string ⟨#[]⟩] nb) 9)).alloc (.cells #[.slice none 0 0, .slice (some ⟨w.heap.size + 1, 0, none⟩) nb nb] 59) := ⟨_, rfl⟩
  have hI0 : BgI w w3 starts nb 0 (.slice none 0 0) := by
    rw [hw3]
    refine ⟨?_, ?_, ?_, Own.nil _ _ _ _, (((Fr.refl _ w).alloc _).alloc _).alloc _⟩
    · have := heap_alloc_new ((w.alloc (.cells #[.slice none 0 0, .slice none 0 0] 59)).alloc (.cells (madeCells #[Value.string ⟨#[]⟩] nb) 9)) (.cells #[.slice none 0 0, .slice (some ⟨w.heap.size + 1, 0, none⟩) nb nb] 59)
      simpa using this
    · have := ((Fr.refl (fun _ => False) _).alloc (.cells #[.slice none 0 0, .slice (some ⟨w.heap.size + 1, 0, none⟩) nb nb] 59)).blk (heap_alloc_new (w.alloc (.cells #[.slice none 0 0, .slice none 0 0] 59)) (.cells (madeCells #[Value.string ⟨#[]⟩] nb) 9)) (fun q => q)
      simpa using this
    · exact (((Fr.refl (fun _ => False) _).alloc (.cells (madeCells #[Value.string ⟨#[]⟩] nb) 9)).alloc (.cells #[.slice none 0 0, .slice (some ⟨w.heap.size + 1, 0, none⟩) nb nb] 59)).blk (heap_alloc_new w (.cells #[.slice none 0 0, .slice none 0 0] 59)) (fun q => q)
  have HI0 := Lib.hid hI0
  have HW3 := Lib.hid hw3
  clear hI0 hw3
  go_enter Tryz.func28, Tryz.ntmps28
  go_wp2_with fail
  rw [← HW3.out]
  go_loopw [14] (fun v14 wr => ∃ (k : Nat) (v : Value), k ≤ starts.length ∧ v14 = .int .i64 (k : Int) ∧ BgI w wr starts nb k v) (fun v14 _ => starts.length - (intOf v14).toNat)
  case atStart => exact ⟨0, _, Nat.zero_le _, rfl, HI0.out⟩
  case round =>
    obtain ⟨k, v, hk, rfl, hI⟩ := hrel
    by_cases hkl : k < starts.length
    · obtain ⟨s, hs⟩ : ∃ s, starts[k]? = some s := ⟨_, List.getElem?_eq_getElem hkl⟩
      obtain ⟨r, o, e1, hc⟩ := HR.out.at' k s hs
      subst e1
      obtain ⟨text, way, space⟩ := s
      have hq : ∀ j u, (St.cells ⟨text, way, space⟩)[j]? = some u → wr.cell? ⟨r, o + k * 3 + j, none⟩ = some u := fun j u hu => (hI.fr.cell (World.block_lt_of_cell? _ _ (hc j u hu)) (fun q => q)).trans (hc j u hu)
      have c0 := hq 0 _ rfl
      have c1 := hq 1 _ rfl
      have c2 := hq 2 _ rfl
      simp only [Nat.add_zero] at c0
      have y0 : wr.cell? ⟨w.heap.size + 1 + 1, 0, none⟩ = some v := by rw [cell_of_row wr _ 0 _ _ _ hI.yd]; rfl
      have yz : wr.frozen? ⟨w.heap.size + 1 + 1, 0, none⟩ = false := by simp [World.frozen?, hI.yd]
      have hlt : w.heap.size + 1 + 1 < wr.heap.size := World.block_lt_of_cell? _ _ y0
      have m0 : ¬ (w.heap.size + 1 + 1 = wr.heap.size) := by omega
      have m1 : ¬ (w.heap.size + 1 = wr.heap.size) := by omega
      have m2 : ¬ (w.heap.size = wr.heap.size) := by omega
      have m3 : ¬ (wr.heap.size = w.heap.size + 1 + 1) := by omega
      have m4 : ¬ (wr.heap.size = w.heap.size + 1) := by omega
      have m5 : ¬ (wr.heap.size = w.heap.size) := by omega
      have m6 : ¬ (w.heap.size + 2 = wr.heap.size) := by omega
      have m7 : ¬ (wr.heap.size = w.heap.size + 2) := by omega
      have y0b : wr.cell? ⟨w.heap.size + 2, 0, none⟩ = some v := y0
      have yzb : wr.frozen? ⟨w.heap.size + 2, 0, none⟩ = false := yz
      have hki : (k : Int) < (starts.length : Int) := by omega
      have hk0 : (0 : Int) ≤ (k : Int) := by omega
      have HI := Lib.hid hI
      have HS := Lib.hid hs
      clear hI hs hc hq
      by_cases hway : way = 2
      · subst hway
        have HOW := Lib.hid (HI.out.own.fr ((((Fr.refl (fun _ => False) wr).alloc (.cells #[.string ⟨text.toArray⟩, .int .i64 2, .int .u16 (space : Int)] 24)).alloc (.cells #[.string ⟨text.toArray⟩, .int .i64 4, .string ⟨#[]⟩, .bool false] 81)).alloc (.cells #[.string ⟨text.toArray⟩, .int .i64 4, .string ⟨#[]⟩, .bool false] 81)) (fun _ _ q => q))
        have HBN := Lib.hid (show (((wr.alloc (.cells #[.string ⟨text.toArray⟩, .int .i64 2, .int .u16 (space : Int)] 24)).alloc (.cells #[.string ⟨text.toArray⟩, .int .i64 4, .string ⟨#[]⟩, .bool false] 81)).alloc (.cells #[.string ⟨text.toArray⟩, .int .i64 4, .string ⟨#[]⟩, .bool false] 81)).heap[wr.heap.size + 1 + 1]? = some (.cells (SB.cells ⟨text, 4, [], false⟩).toArray 81 (0, 0)) by have := heap_alloc_new ((wr.alloc (.cells #[.string ⟨text.toArray⟩, .int .i64 2, .int .u16 (space : Int)] 24)).alloc (.cells #[.string ⟨text.toArray⟩, .int .i64 4, .string ⟨#[]⟩, .bool false] 81)) (.cells #[.string ⟨text.toArray⟩, .int .i64 4, .string ⟨#[]⟩, .bool false] 81); simpa [SB.cells] using this)
        have y5 : ((wr.alloc (.cells #[.string ⟨text.toArray⟩, .int .i64 2, .int .u16 (space : Int)] 24)).alloc (.cells #[.string ⟨text.toArray⟩, .int .i64 4, .string ⟨#[]⟩, .bool false] 81)).cell? ⟨w.heap.size + 1 + 1, 0, none⟩ = some v := ((((Fr.refl (fun _ => False) wr).alloc (.cells #[.string ⟨text.toArray⟩, .int .i64 2, .int .u16 (space : Int)] 24)).alloc (.cells #[.string ⟨text.toArray⟩, .int .i64 4, .string ⟨#[]⟩, .bool false] 81)).cell (World.block_lt_of_cell? _ _ y0) (fun q => q)).trans y0
        go_wp2_with (refine wpList_app rfl elem_sb (.tmp 26) (.tmp 28) rfl w.heap.size _ k _ (by rfl) HOW.out (wr.heap.size + 1 + 1) (SB.cells ⟨text, 4, [], false⟩) 81 (by rfl) HBN.out rfl (by simp [SB.cells, Value.oneCell']) (by omega) (by have := HI.out.fr.size; simp; omega) ?_)
        intro gb cap w4 hown hfr hat hlt1
        have hF3 : Fr (fun _ => False) wr (((wr.alloc (.cells #[.string ⟨text.toArray⟩, .int .i64 2, .int .u16 (space : Int)] 24)).alloc (.cells #[.string ⟨text.toArray⟩, .int .i64 4, .string ⟨#[]⟩, .bool false] 81)).alloc (.cells #[.string ⟨text.toArray⟩, .int .i64 4, .string ⟨#[]⟩, .bool false] 81)) := (((Fr.refl (fun _ => False) wr).alloc _).alloc _).alloc _
        have hne : ∀ x, v.ownBlock = some x → x ≠ w.heap.size + 1 + 1 := fun x hx => HI.out.own.ne_blk HI.out.yd (by decide) hx
        have hne1 : ∀ x, v.ownBlock = some x → x ≠ w.heap.size + 1 := fun x hx => HI.out.own.ne_blk HI.out.md (by decide) hx
        have hne0 : ∀ x, v.ownBlock = some x → x ≠ w.heap.size := fun x hx => HI.out.own.ne_blk HI.out.rs (by decide) hx
        have b2 := hfr.blk (hF3.blk HI.out.yd (fun q => q)) (fun q => hne _ q rfl)
        have b1 := hfr.blk (hF3.blk HI.out.md (fun q => q)) (fun q => hne1 _ q rfl)
        have b0 := hfr.blk (hF3.blk HI.out.rs (fun q => q)) (fun q => hne0 _ q rfl)
        have d0 : w4.cell? ⟨w.heap.size + 1 + 1, 0, none⟩ = some v := by rw [cell_of_row w4 _ 0 _ _ _ b2]; rfl
        have dz : w4.frozen? ⟨w.heap.size + 1 + 1, 0, none⟩ = false := by simp [World.frozen?, b2]
        have HFR := Lib.hid (HI.out.fr.trans' ((hF3.mono (S' := fun x => v.ownBlock = some x) (fun _ _ q => q.elim)).trans hfr) (fun x hx q => by have := HI.out.own.blk_ge q; omega))
        have HB := Lib.hid (And.intro b2 (And.intro b1 b0))
        have HOWN := Lib.hid hown
        clear hF3 hne hne1 hne0 b2 b1 b0 hown hfr hat hlt1
        go_wp2_with fail
        go_roundw
        case rel =>
          obtain ⟨b2, b1, b0⟩ := HB.out
          obtain ⟨hl, e⟩ := List.getElem?_eq_some_iff.1 HS.out
          have hJ : Fr (Just (w.heap.size + 1 + 1)) w4 (w4.setCell ⟨w.heap.size + 1 + 1, 0, none⟩ (.slice (some ⟨gb, 0, none⟩) (k + 1) cap)) := just1 _ _ _
          refine ⟨k + 1, .slice (some ⟨gb, 0, none⟩) (k + 1) cap, by omega, by go_num, ⟨?_, hJ.blk b1 (fun q => by have q : w.heap.size + 1 = w.heap.size + 1 + 1 := q; omega), hJ.blk b0 (fun q => by have q : w.heap.size = w.heap.size + 1 + 1 := q; omega), ?_, HFR.out.trans' hJ (fun x hx q => by have q : x = w.heap.size + 1 + 1 := q; omega)⟩⟩
          · simp [World.setCell, Array.getElem?_modify, b2]
          · rw [List.take_succ_eq_append_getElem hl, e, List.map_append, sbs_append, List.map_cons, List.map_nil, sbs_one]
            have ho := HOWN.out.fr hJ (fun x hx q => HOWN.out.ne_blk b2 (by decide) hx q)
            rw [← List.map_take] at ho
            have es : sbOf ⟨text, 2, space⟩ = ⟨text, 4, [], false⟩ := by simp [sbOf]
            rw [es]
            exact ho
        case measure => simp [intOf]; omega
      · have hwb : (way == 2) = false := by simp [hway]
        have HOW := Lib.hid (HI.out.own.fr ((((Fr.refl (fun _ => False) wr).alloc (.cells #[.string ⟨text.toArray⟩, .int .i64 way, .int .u16 (space : Int)] 24)).alloc (.cells #[.string ⟨text.toArray⟩, .int .i64 0, .string ⟨#[]⟩, .bool false] 81)).alloc (.cells #[.string ⟨text.toArray⟩, .int .i64 0, .string ⟨#[]⟩, .bool false] 81)) (fun _ _ q => q))
        have HBN := Lib.hid (show (((wr.alloc (.cells #[.string ⟨text.toArray⟩, .int .i64 way, .int .u16 (space : Int)] 24)).alloc (.cells #[.string ⟨text.toArray⟩, .int .i64 0, .string ⟨#[]⟩, .bool false] 81)).alloc (.cells #[.string ⟨text.toArray⟩, .int .i64 0, .string ⟨#[]⟩, .bool false] 81)).heap[wr.heap.size + 1 + 1]? = some (.cells (SB.cells ⟨text, 0, [], false⟩).toArray 81 (0, 0)) by have := heap_alloc_new ((wr.alloc (.cells #[.string ⟨text.toArray⟩, .int .i64 way, .int .u16 (space : Int)] 24)).alloc (.cells #[.string ⟨text.toArray⟩, .int .i64 0, .string ⟨#[]⟩, .bool false] 81)) (.cells #[.string ⟨text.toArray⟩, .int .i64 0, .string ⟨#[]⟩, .bool false] 81); simpa [SB.cells] using this)
        have y5 : ((wr.alloc (.cells #[.string ⟨text.toArray⟩, .int .i64 way, .int .u16 (space : Int)] 24)).alloc (.cells #[.string ⟨text.toArray⟩, .int .i64 0, .string ⟨#[]⟩, .bool false] 81)).cell? ⟨w.heap.size + 1 + 1, 0, none⟩ = some v := ((((Fr.refl (fun _ => False) wr).alloc (.cells #[.string ⟨text.toArray⟩, .int .i64 way, .int .u16 (space : Int)] 24)).alloc (.cells #[.string ⟨text.toArray⟩, .int .i64 0, .string ⟨#[]⟩, .bool false] 81)).cell (World.block_lt_of_cell? _ _ y0) (fun q => q)).trans y0
        go_wp2_with (refine wpList_app rfl elem_sb (.tmp 26) (.tmp 28) rfl w.heap.size _ k _ (by rfl) HOW.out (wr.heap.size + 1 + 1) (SB.cells ⟨text, 0, [], false⟩) 81 (by rfl) HBN.out rfl (by simp [SB.cells, Value.oneCell']) (by omega) (by have := HI.out.fr.size; simp; omega) ?_)
        intro gb cap w4 hown hfr hat hlt1
        have hF3 : Fr (fun _ => False) wr (((wr.alloc (.cells #[.string ⟨text.toArray⟩, .int .i64 way, .int .u16 (space : Int)] 24)).alloc (.cells #[.string ⟨text.toArray⟩, .int .i64 0, .string ⟨#[]⟩, .bool false] 81)).alloc (.cells #[.string ⟨text.toArray⟩, .int .i64 0, .string ⟨#[]⟩, .bool false] 81)) := (((Fr.refl (fun _ => False) wr).alloc _).alloc _).alloc _
        have hne : ∀ x, v.ownBlock = some x → x ≠ w.heap.size + 1 + 1 := fun x hx => HI.out.own.ne_blk HI.out.yd (by decide) hx
        have hne1 : ∀ x, v.ownBlock = some x → x ≠ w.heap.size + 1 := fun x hx => HI.out.own.ne_blk HI.out.md (by decide) hx
        have hne0 : ∀ x, v.ownBlock = some x → x ≠ w.heap.size := fun x hx => HI.out.own.ne_blk HI.out.rs (by decide) hx
        have b2 := hfr.blk (hF3.blk HI.out.yd (fun q => q)) (fun q => hne _ q rfl)
        have b1 := hfr.blk (hF3.blk HI.out.md (fun q => q)) (fun q => hne1 _ q rfl)
        have b0 := hfr.blk (hF3.blk HI.out.rs (fun q => q)) (fun q => hne0 _ q rfl)
        have d0 : w4.cell? ⟨w.heap.size + 1 + 1, 0, none⟩ = some v := by rw [cell_of_row w4 _ 0 _ _ _ b2]; rfl
        have dz : w4.frozen? ⟨w.heap.size + 1 + 1, 0, none⟩ = false := by simp [World.frozen?, b2]
        have HFR := Lib.hid (HI.out.fr.trans' ((hF3.mono (S' := fun x => v.ownBlock = some x) (fun _ _ q => q.elim)).trans hfr) (fun x hx q => by have := HI.out.own.blk_ge q; omega))
        have HB := Lib.hid (And.intro b2 (And.intro b1 b0))
        have HOWN := Lib.hid hown
        clear hF3 hne hne1 hne0 b2 b1 b0 hown hfr hat hlt1
        go_wp2_with fail
        go_roundw
        case rel =>
          obtain ⟨b2, b1, b0⟩ := HB.out
          obtain ⟨hl, e⟩ := List.getElem?_eq_some_iff.1 HS.out
          have hJ : Fr (Just (w.heap.size + 1 + 1)) w4 (w4.setCell ⟨w.heap.size + 1 + 1, 0, none⟩ (.slice (some ⟨gb, 0, none⟩) (k + 1) cap)) := just1 _ _ _
          refine ⟨k + 1, .slice (some ⟨gb, 0, none⟩) (k + 1) cap, by omega, by go_num, ⟨?_, hJ.blk b1 (fun q => by have q : w.heap.size + 1 = w.heap.size + 1 + 1 := q; omega), hJ.blk b0 (fun q => by have q : w.heap.size = w.heap.size + 1 + 1 := q; omega), ?_, HFR.out.trans' hJ (fun x hx q => by have q : x = w.heap.size + 1 + 1 := q; omega)⟩⟩
          · simp [World.setCell, Array.getElem?_modify, b2]
          · rw [List.take_succ_eq_append_getElem hl, e, List.map_append, sbs_append, List.map_cons, List.map_nil, sbs_one]
            have ho := HOWN.out.fr hJ (fun x hx q => HOWN.out.ne_blk b2 (by decide) hx q)
            rw [← List.map_take] at ho
            have es : sbOf ⟨text, way, space⟩ = ⟨text, 0, [], false⟩ := by simp [sbOf, hway]
            rw [es]
            exact ho
        case measure => simp [intOf]; omega
    · have hkk : k = starts.length := by omega
      subst hkk
      have ho := hI.own
      rw [List.take_length] at ho
      obtain ⟨B1, d1, rfl⟩ := ho.value
      have y0 : wr.cell? ⟨w.heap.size + 1 + 1, 0, none⟩ = some (.slice B1 starts.length d1) := by rw [cell_of_row wr _ 0 _ _ _ hI.yd]; rfl
      have y1 : wr.cell? ⟨w.heap.size + 1 + 1, 1, none⟩ = some (.slice (some ⟨w.heap.size + 1, 0, none⟩) nb nb) := by rw [cell_of_row wr _ 1 _ _ _ hI.yd]; rfl
      have q0 : wr.cell? ⟨w.heap.size, 0, none⟩ = some (.slice none 0 0) := by rw [cell_of_row wr _ 0 _ _ _ hI.rs]; rfl
      have q1 : wr.cell? ⟨w.heap.size, 1, none⟩ = some (.slice none 0 0) := by rw [cell_of_row wr _ 1 _ _ _ hI.rs]; rfl
      have z0 : wr.frozen? ⟨w.heap.size, 0, none⟩ = false := by simp [World.frozen?, hI.rs]
      have z1 : wr.frozen? ⟨w.heap.size, 1, none⟩ = false := by simp [World.frozen?, hI.rs]
      have hJ : Fr (Just w.heap.size) wr ((wr.setCell ⟨w.heap.size, 0, none⟩ (.slice B1 starts.length d1)).setCell ⟨w.heap.size, 1, none⟩ (.slice (some ⟨w.heap.size + 1, 0, none⟩) nb nb)) := just2 _ _ _ _
      have HO1 := Lib.hid (ho.fr hJ (fun x hx q => ho.ne_blk hI.rs (by decide) hx q))
      have HO2 := Lib.hid (Own.made' nb (by omega) (base := w.heap.size) (H := w.heap.size + 1) (by omega) (hJ.blk hI.md (fun q => by have q : w.heap.size + 1 = w.heap.size := q; omega)))
      have HFF := Lib.hid (hI.fr.trans' hJ (fun x hx q => by have q : x = w.heap.size := q; omega))
      clear hI ho hJ
      go_wp2_with fail
      refine bodyPost_ret (v := .agg #[.slice B1 starts.length d1, .slice (some ⟨w.heap.size + 1, 0, none⟩) nb nb]) (by simp [results, Tryz.results28, go_sem, q0, q1]) rfl ?_
      refine ⟨_, _, rfl, ?_, ?_, HFF.out⟩
      · have e : (Yd.begin starts nb).bufs.length = starts.length := by simp [Yd.begin]
        rw [e, begin_bufs]
        exact HO1.out
      · have e : (Yd.begin starts nb).blds.length = nb := by simp [Yd.begin]
        rw [e]
        exact HO2.out
end Go.Proofs.YtbodbajgpgaoeaaGreatDoor

namespace Go.Proofs.YtbodbajgpgaoeaaGreatDoor
open Go

/-- A yard of one buffer. -/
def yd1 (b : SB) : Yd := ⟨[b], []⟩
theorem yd1_texts (b : SB) : (yd1 b).texts = [b.text] := rfl
theorem yd1_do (b : SB) (c : Cl) (ha : c.a = 0) (h1 : 1 ≤ c.op) (h2 : c.op < 23) : (yd1 b).do c = (yd1 (b.do c).1, (b.do c).2.1, (b.do c).2.2) := by
  unfold Yd.do
  rw [if_neg (by omega), if_neg (by omega), if_pos (by rw [ha]; exact ⟨by omega, by simp [yd1]⟩), if_neg (by omega)]
  simp [ha, yd1, Yd.buf, Yd.setBuf]
theorem yd1_do0 (b : SB) (c : Cl) (h1 : c.op < 1) : (yd1 b).do c = (yd1 b, Td.said' 4, true) := by
  unfold Yd.do
  rw [if_pos (.inl h1)]
theorem yd1_drain (b : SB) (c : Cl) (ha : c.a = 0) (h : c.op = 26) : (yd1 b).do c = if c.size < b.text.length then (yd1 b, Td.zero, false) else (yd1 (b.other []), ⟨b.text.length, b.text, 0, 0⟩, true) := by
  unfold Yd.do
  rw [if_neg (by omega), if_neg (by omega), if_pos (by rw [ha]; exact ⟨by omega, by simp [yd1]⟩), if_pos (by omega)]
  unfold Yd.flow
  simp only [ha, yd1, Yd.buf, Yd.setBuf, h]
  rfl
theorem yd1_fill (b : SB) (c : Cl) (ha : c.a = 0) (h : c.op = 27) : (yd1 b).do c = (yd1 (b.other (b.text ++ c.text)), ⟨c.text.length, [], 0, if c.n = 0 then 0 else 2⟩, true) := by
  unfold Yd.do
  rw [if_neg (by omega), if_neg (by omega), if_pos (by rw [ha]; exact ⟨by omega, by simp [yd1]⟩), if_pos (by omega)]
  unfold Yd.flow
  simp only [ha, yd1, Yd.buf, Yd.setBuf, h]
  rfl

/-- Calls of the first buffer alone. -/
def Cl.one (c : Cl) : Prop := c.a = 0 ∧ (c.op < 23 ∨ c.op = 26 ∨ c.op = 27)
theorem yd1_one (b : SB) (c : Cl) (h : c.one) : ∃ b', ((yd1 b).do c).1 = yd1 b' := by
  obtain ⟨ha, h⟩ := h
  by_cases h1 : c.op < 1
  · exact ⟨b, by rw [yd1_do0 b c h1]⟩
  rcases h with h | h | h
  · exact ⟨_, by rw [yd1_do b c ha (by omega) h]⟩
  · rw [yd1_drain b c ha h]
    split
    · exact ⟨_, rfl⟩
    · exact ⟨_, rfl⟩
  · exact ⟨_, by rw [yd1_fill b c ha h]⟩
theorem run_one : ∀ (l : List Cl) (b : SB), (∀ c ∈ l, c.one) → ∃ b', (runF (yd1 b) l).2 = yd1 b'
  | [], b, _ => ⟨b, rfl⟩
  | c :: l, b, h => by
    simp only [runF]
    split
    · exact ⟨b, rfl⟩
    · obtain ⟨b', e⟩ := yd1_one b c (h c (by simp))
      rw [e]
      exact run_one l b' (fun d hd => h d (by simp [hd]))

/-- A script behind another one. -/
theorem runF_append : ∀ (l m : List Cl) (y : Yd), Mild y l → runF y (l ++ m) = ((runF y l).1 ++ (runF (runF y l).2 m).1, (runF (runF y l).2 m).2)
  | [], m, y, _ => rfl
  | c :: l, m, y, h => by
    simp only [List.cons_append, runF]
    rw [if_neg h.2.1, if_neg h.2.1, runF_append l m _ h.2.2]
    rfl
theorem Mild.append : ∀ (l m : List Cl) (y : Yd), Mild y l → Mild (runF y l).2 m → Mild y (l ++ m)
  | [], m, y, _, h => h
  | c :: l, m, y, h, k => by
    refine ⟨h.1, h.2.1, Mild.append l m _ h.2.2 ?_⟩
    simp only [runF] at k
    rw [if_neg h.2.1] at k
    exact k
theorem runF_two (y : Yd) (c d : Cl) (h1 : (y.do c).2.1.said ≠ 3) (h2 : (((y.do c).1).do d).2.1.said ≠ 3) : runF y [c, d] = ([(y.do c).2.1, (((y.do c).1).do d).2.1], (((y.do c).1).do d).1) := by
  simp only [runF]
  rw [if_neg h1, if_neg h2]
theorem runF_one (y : Yd) (c : Cl) (h1 : (y.do c).2.1.said ≠ 3) : runF y [c] = ([(y.do c).2.1], (y.do c).1) := by
  simp only [runF]
  rw [if_neg h1]

/-! ### reads -/
def Cl.isRead (c : Cl) : Prop := 6 ≤ c.op ∧ c.op ≤ 11
theorem do_read (b : SB) (c : Cl) (h : c.isRead) : b.do c = b.reads c := by
  unfold Cl.isRead at h
  unfold SB.do
  rw [if_neg (by omega), if_neg (by omega), if_neg (by omega), if_neg (by omega), if_neg (by omega), if_neg (by omega), if_neg (by omega), if_neg (by omega), if_neg (by omega), if_neg (by omega)]
theorem upTo_le (x : UInt8) : ∀ (l : List UInt8) (k : Nat), upTo x l = some k → 1 ≤ k ∧ k ≤ l.length
  | [], k, h => by simp [upTo] at h
  | y :: l, k, h => by
    simp only [upTo] at h
    split at h
    · injection h with h
      subst h
      simp
    · cases hu : upTo x l with
      | none => rw [hu] at h; simp at h
      | some j =>
        rw [hu] at h
        simp only [Option.map_some, Option.some.injEq] at h
        have := upTo_le x l j hu
        simp only [List.length_cons]
        omega
theorem reads_ok (b : SB) (c : Cl) : (b.reads c).2.2 = true ∧ ((b.reads c).2.1.said = 0 ∨ (b.reads c).2.1.said = 1) ∧ (b.reads c).1.begun = true := by
  unfold SB.reads
  simp only
  repeat' split
  all_goals first
    | (refine ⟨rfl, ?_, ?_⟩ <;> simp [Td.said', Td.ofText, SB.read] <;> (try split) <;> rfl)
    | skip
/-- Behind a read of n bytes. -/
theorem read_back {b : SB} {n : Nat} {r : Int} (h0 : 0 < n) (hn : n ≤ b.text.length) (hr : r = 1 ∨ r = 2) :
    ((b.read n r).recent = 1 ∨ (b.read n r).recent = 2) ∧ (b.read n r).last.drop ((b.read n r).last.length - 1) = [b.text.getD (n - 1) 0] ∧ (b.read n r).text = b.text.drop n := by
  have hne : n ≠ 0 := by omega
  unfold SB.read
  rw [if_neg hne]
  refine ⟨hr, ?_, rfl⟩
  have hg : b.text.getD (n - 1) 0 = b.text[n - 1] := by simp [List.getD, List.getElem?_eq_getElem (show n - 1 < b.text.length by omega)]
  rw [hg]
  have h1 : (b.text.drop (n - 1)).take 1 = [b.text[n - 1]] := by
    rw [List.drop_eq_getElem_cons (show n - 1 < b.text.length by omega)]
    rfl
  simp only
  split
  · have hlen : (b.text.take n).length = n := by simp; omega
    rw [hlen, List.drop_take]
    have : n - (n - 1) = 1 := by omega
    rw [this, h1]
  · rw [h1]
    rfl
theorem read_len_ne {b : SB} {n : Nat} {r : Int} (h : (b.read n r).text.length ≠ b.text.length) : 0 < n := by
  rcases Nat.eq_zero_or_pos n with h0 | h0
  · subst h0
    exact absurd rfl h
  · exact h0
/-- A read that returned no error. -/
theorem reads_said0 {b : SB} {c : Cl} (hs : (b.reads c).2.1.said = 0) : ∃ n r, (r = 1 ∨ r = 2) ∧ n ≤ b.text.length ∧ (b.reads c).1 = b.read n r := by
  unfold SB.reads at hs ⊢
  simp only at hs ⊢
  by_cases h6 : c.op = 6
  · rw [if_pos h6] at hs ⊢
    split at hs
    · exact absurd hs (by simp [Td.said'])
    · rename_i h
      rw [if_neg h]
      exact ⟨_, 1, .inl rfl, Nat.min_le_right _ _, rfl⟩
  rw [if_neg h6] at hs ⊢
  by_cases h7 : c.op = 7
  · rw [if_pos h7]
    exact ⟨_, 1, .inl rfl, Nat.min_le_right _ _, rfl⟩
  rw [if_neg h7] at hs ⊢
  by_cases h8 : c.op = 8
  · rw [if_pos h8] at hs ⊢
    cases ht : b.text with
    | nil => rw [ht] at hs; exact absurd hs (by simp [Td.said'])
    | cons x l => exact ⟨1, 1, .inl rfl, by simp, rfl⟩
  rw [if_neg h8] at hs ⊢
  by_cases h9 : c.op = 9 ∨ c.op = 10
  · rw [if_pos h9] at hs ⊢
    cases hu : upTo c.sign b.text with
    | some k => exact ⟨k, 1, .inl rfl, (upTo_le _ _ _ hu).2, rfl⟩
    | none =>
      rw [hu] at hs
      simp only at hs
      split at hs
      · exact absurd hs (by simp [Td.said'])
      · exact absurd hs (by simp)
  rw [if_neg h9] at hs ⊢
  split at hs
  · exact absurd hs (by simp [Td.said'])
  · rename_i h
    rw [if_neg h]
    exact ⟨_, 2, .inr rfl, (dec_le b.text h).2.1, rfl⟩
/-- A read that returned bytes and no error. -/
theorem reads_fine {b : SB} {c : Cl} (hs : (b.reads c).2.1.said = 0) (hl : (b.reads c).1.text.length ≠ b.text.length) :
    ∃ n, 0 < n ∧ n ≤ b.text.length ∧ ((b.reads c).1.recent = 1 ∨ (b.reads c).1.recent = 2) ∧ (b.reads c).1.last.drop ((b.reads c).1.last.length - 1) = [b.text.getD (n - 1) 0] ∧ (b.reads c).1.text = b.text.drop n := by
  obtain ⟨n, r, hr, hn, e⟩ := reads_said0 hs
  rw [e] at hl ⊢
  have h0 := read_len_ne hl
  exact ⟨n, h0, hn, read_back h0 hn hr⟩

theorem zero_ne : (0 : Int) ≠ 3 := by decide
theorem two_ne : (2 : Int) ≠ 3 := by decide
/-! ### FnUnreadReads -/
def bsC : Cl := ⟨12, 0, 0, 0, 0, 0, 0, [], [], none, 0⟩
def bcC : Cl := ⟨13, 0, 0, 0, 0, 0, 0, [], [], none, 0⟩
def rsC : Cl := ⟨8, 0, 0, 0, 0, 0, 0, [], [], none, 0⟩
/-- A yard of one buffer, its last call a read. -/
theorem read_mild (b : SB) (c : Cl) (ha : c.a = 0) (hc : c.isRead) : Mild (yd1 b) [c] ∧ runF (yd1 b) [c] = ([(b.reads c).2.1], yd1 (b.reads c).1) := by
  obtain ⟨h1, h2, _⟩ := reads_ok b c
  have hd := yd1_do b c ha (by unfold Cl.isRead at hc; omega) (by unfold Cl.isRead at hc; omega)
  rw [do_read b c hc] at hd
  have hne : ((yd1 b).do c).2.1.said ≠ 3 := by rw [hd]; show (b.reads c).2.1.said ≠ 3; omega
  refine ⟨⟨by rw [hd]; exact h1, hne, trivial⟩, ?_⟩
  rw [runF_one _ _ hne, hd]
theorem unread_law {b : SB} {c : Cl} (hs : (b.reads c).2.1.said = 0) (hl : (b.reads c).1.text.length ≠ b.text.length) :
    ∃ n, 0 < n ∧ n + (b.reads c).1.text.length = b.text.length ∧ Mild (yd1 (b.reads c).1) [bsC, rsC] ∧
      (runF (yd1 (b.reads c).1) [bsC, rsC]).1 = [Td.zero, ⟨0, [], ((b.text.getD (n - 1) 0).toNat : Int), 0⟩] ∧ (runF (yd1 (b.reads c).1) [bsC, rsC]).2.texts = [(b.reads c).1.text] := by
  obtain ⟨n, h0, hn, hr, hlast, htx⟩ := reads_fine hs hl
  generalize (b.reads c).1 = b' at *
  have e1 : b'.do bsC = (b'.other (b'.last.drop (b'.last.length - 1) ++ b'.text), Td.zero, true) := by
    unfold SB.do
    simp only [bsC]
    rw [if_neg (by omega), if_neg (by omega), if_neg (by omega), if_pos (by simp)]
    unfold SB.back
    rw [if_neg (by simp), if_pos hr]
  rw [hlast] at e1
  have e2 : (b'.other ([b.text.getD (n - 1) 0] ++ b'.text)).do rsC = ((b'.other ([b.text.getD (n - 1) 0] ++ b'.text)).read 1 1, ⟨0, [], ((b.text.getD (n - 1) 0).toNat : Int), 0⟩, true) := by
    rw [do_read _ rsC (show (6 : Int) ≤ 8 ∧ (8 : Int) ≤ 11 by decide)]
    rfl
  have d1 := yd1_do b' bsC rfl (by decide) (by decide)
  rw [e1] at d1
  have d2 := yd1_do (b'.other ([b.text.getD (n - 1) 0] ++ b'.text)) rsC rfl (by decide) (by decide)
  rw [e2] at d2
  have e0 : n + b'.text.length = b.text.length := by rw [htx, List.length_drop]; omega
  have n1 : ((yd1 b').do bsC).2.1.said ≠ 3 := by rw [d1]; exact zero_ne
  have n2 : ((((yd1 b').do bsC).1).do rsC).2.1.said ≠ 3 := by rw [d1]; simp only; rw [d2]; exact zero_ne
  refine ⟨n, h0, e0, ⟨by rw [d1], n1, by rw [d1]; simp only; rw [d2], n2, trivial⟩, ?_, ?_⟩
  · rw [runF_two _ _ _ n1 n2, d1]
    simp only
    rw [d2]
  · rw [runF_two _ _ _ n1 n2, d1]
    simp only
    rw [d2]
    rfl

/-! ### FnUnreadWritten -/
def Cl.isWrite (c : Cl) : Prop := 1 ≤ c.op ∧ c.op ≤ 5
def Cl.valid (c : Cl) : Prop := (c.op = 4 ∨ c.op = 31) → enc c.char ≠ []
/-- What a call writes. -/
def textF (c : Cl) : List UInt8 := if c.op = 3 ∨ c.op = 30 then [c.sign] else if c.op = 4 ∨ c.op = 31 then enc c.char else c.text
theorem do_write (b : SB) (c : Cl) (h : c.isWrite) (hv : c.valid) : ∃ t, b.do c = (b.write (textF c), t, true) ∧ t.said = 0 ∧ t.text = [] := by
  unfold Cl.isWrite at h
  unfold Cl.valid at hv
  unfold SB.do textF
  by_cases h1 : c.op = 1 ∨ c.op = 2 ∨ c.op = 5
  · rw [if_pos h1, if_neg (show ¬ (c.op = 3 ∨ c.op = 30) by omega), if_neg (show ¬ (c.op = 4 ∨ c.op = 31) by omega)]
    exact ⟨_, rfl, rfl, rfl⟩
  rw [if_neg h1]
  by_cases h3 : c.op = 3
  · rw [if_pos h3, if_pos (.inl h3)]
    exact ⟨_, rfl, rfl, rfl⟩
  rw [if_neg h3, if_neg (show ¬ (c.op = 3 ∨ c.op = 30) by omega)]
  have h4 : c.op = 4 := by omega
  rw [if_pos h4, if_pos (show c.op = 4 ∨ c.op = 31 from .inl h4)]
  exact ⟨_, by rw [decide_eq_true (hv (.inl h4))], rfl, rfl⟩
theorem written_law {b : SB} {c d : Cl} (ha : c.a = 0) (hc : c.isRead) (hda : d.a = 0) (hd : d.isWrite) (hv : d.valid) :
    ∃ b2 : SB, Mild (yd1 b) [c, d] ∧ (runF (yd1 b) [c, d]).2 = yd1 b2 ∧ Mild (yd1 b2) [bsC, bcC] ∧ runF (yd1 b2) [bsC, bcC] = ([Td.said' 2, Td.said' 2], yd1 b2) := by
  obtain ⟨h1, h2, h3⟩ := reads_ok b c
  have hd1 := yd1_do b c ha (by unfold Cl.isRead at hc; omega) (by unfold Cl.isRead at hc; omega)
  rw [do_read b c hc] at hd1
  obtain ⟨t, e, ht, _⟩ := do_write (b.reads c).1 d hd hv
  have hd2 := yd1_do (b.reads c).1 d hda (by unfold Cl.isWrite at hd; omega) (by unfold Cl.isWrite at hd; omega)
  rw [e] at hd2
  have n1 : ((yd1 b).do c).2.1.said ≠ 3 := by rw [hd1]; show (b.reads c).2.1.said ≠ 3; omega
  have n2 : ((yd1 (b.reads c).1).do d).2.1.said ≠ 3 := by rw [hd2]; show t.said ≠ 3; omega
  have n2' : ((((yd1 b).do c).1).do d).2.1.said ≠ 3 := by rw [hd1]; exact n2
  refine ⟨(b.reads c).1.write (textF d), ⟨by rw [hd1]; exact h1, n1, by rw [hd1]; simp only; rw [hd2], n2', trivial⟩, ?_, ?_⟩
  · rw [runF_two _ _ _ n1 n2', hd1]
    simp only
    rw [hd2]
  · obtain ⟨b2, hb2⟩ : ∃ b2, b2 = (b.reads c).1.write (textF d) := ⟨_, rfl⟩
    have r4 : b2.recent = 4 := by rw [hb2]; rfl
    have rb : b2.begun = true := by rw [hb2]; exact h3
    rw [← hb2]
    have e1 : b2.do bsC = (b2, Td.said' 2, true) := by
      unfold SB.do
      simp only [bsC]
      rw [if_neg (by omega), if_neg (by omega), if_neg (by omega), if_pos (by simp)]
      unfold SB.back
      rw [if_neg (by simp), if_neg (by omega), if_neg (by omega), if_pos r4, rb]
    have e2 : b2.do bcC = (b2, Td.said' 2, true) := by
      unfold SB.do
      simp only [bcC]
      rw [if_neg (by omega), if_neg (by omega), if_neg (by omega), if_pos (by simp)]
      unfold SB.back
      rw [if_pos rfl, if_neg (by omega)]
      simp [r4]
    have d1 := yd1_do b2 bsC rfl (by decide) (by decide)
    rw [e1] at d1
    have d2 := yd1_do b2 bcC rfl (by decide) (by decide)
    rw [e2] at d2
    have m1 : ((yd1 b2).do bsC).2.1.said ≠ 3 := by rw [d1]; exact two_ne
    have m2 : ((((yd1 b2).do bsC).1).do bcC).2.1.said ≠ 3 := by rw [d1]; simp only; rw [d2]; exact two_ne
    refine ⟨⟨by rw [d1], m1, by rw [d1]; simp only; rw [d2], m2, trivial⟩, ?_⟩
    rw [runF_two _ _ _ m1 m2, d1]
    simp only
    rw [d2]

/-! ### FnTruncateForgets -/
def Cl.isBack (c : Cl) : Prop := c.op = 12 ∨ c.op = 13
theorem read_text (b b' : SB) (n : Nat) (r : Int) (ht : b.text = b'.text) : (b.read n r).text = (b'.read n r).text := by
  unfold SB.read
  rw [ht]
theorem reads_text (b b' : SB) (c : Cl) (ht : b.text = b'.text) : (b.reads c).2 = (b'.reads c).2 ∧ (b.reads c).1.text = (b'.reads c).1.text := by
  have hr := fun n r => read_text b b' n r ht
  unfold SB.reads
  simp only
  rw [ht]
  by_cases h6 : c.op = 6
  · rw [if_pos h6, if_pos h6]
    split
    · exact ⟨rfl, hr _ _⟩
    · exact ⟨rfl, hr _ _⟩
  rw [if_neg h6, if_neg h6]
  by_cases h7 : c.op = 7
  · rw [if_pos h7, if_pos h7]
    exact ⟨rfl, hr _ _⟩
  rw [if_neg h7, if_neg h7]
  by_cases h8 : c.op = 8
  · rw [if_pos h8, if_pos h8]
    cases b'.text with
    | nil => exact ⟨rfl, hr _ _⟩
    | cons x l => exact ⟨rfl, hr _ _⟩
  rw [if_neg h8, if_neg h8]
  by_cases h9 : c.op = 9 ∨ c.op = 10
  · rw [if_pos h9, if_pos h9]
    cases upTo c.sign b'.text with
    | some k => exact ⟨rfl, hr _ _⟩
    | none =>
      simp only
      split
      · exact ⟨rfl, rfl⟩
      · exact ⟨rfl, hr _ _⟩
  rw [if_neg h9, if_neg h9]
  split
  · exact ⟨rfl, hr _ _⟩
  · exact ⟨rfl, hr _ _⟩
theorem look_text (b b' : SB) (c : Cl) (ht : b.text = b'.text) : (b.look c).2 = (b'.look c).2 ∧ (b.look c).1.text = (b'.look c).1.text := by
  unfold SB.look
  simp only
  rw [ht]
  by_cases h14 : c.op = 14
  · rw [if_pos h14, if_pos h14]
    split
    · exact ⟨rfl, ht⟩
    · exact ⟨rfl, rfl⟩
  rw [if_neg h14, if_neg h14]
  by_cases h22 : c.op = 22
  · rw [if_pos h22, if_pos h22]
    split
    · exact ⟨rfl, ht⟩
    · split
      · exact ⟨rfl, rfl⟩
      · exact ⟨rfl, rfl⟩
  rw [if_neg h22, if_neg h22]
  split
  · exact ⟨rfl, rfl⟩
  · exact ⟨rfl, rfl⟩
theorem do_text (b b' : SB) (c : Cl) (ht : b.text = b'.text) (hb : ¬ c.isBack) : (b.do c).2 = (b'.do c).2 ∧ (b.do c).1.text = (b'.do c).1.text := by
  unfold Cl.isBack at hb
  have hr := reads_text b b' c ht
  have hk := look_text b b' c ht
  unfold SB.do
  rw [if_neg hb, if_neg hb]
  by_cases h1 : c.op = 1 ∨ c.op = 2 ∨ c.op = 5
  · rw [if_pos h1, if_pos h1]
    exact ⟨rfl, by simp [SB.write, ht]⟩
  rw [if_neg h1, if_neg h1]
  by_cases h3 : c.op = 3
  · rw [if_pos h3, if_pos h3]
    exact ⟨rfl, by simp [SB.write, ht]⟩
  rw [if_neg h3, if_neg h3]
  by_cases h4 : c.op = 4
  · rw [if_pos h4, if_pos h4]
    exact ⟨rfl, by simp [SB.write, ht]⟩
  rw [if_neg h4, if_neg h4]
  by_cases h18 : c.op = 18
  · rw [if_pos h18, if_pos h18]
    exact ⟨by rw [ht], ht⟩
  rw [if_neg h18, if_neg h18]
  by_cases h19 : c.op = 19 ∨ c.op = 20
  · rw [if_pos h19, if_pos h19]
    exact ⟨by rw [ht], ht⟩
  rw [if_neg h19, if_neg h19]
  by_cases h15 : c.op = 15
  · rw [if_pos h15, if_pos h15, ht]
    split
    · exact ⟨rfl, rfl⟩
    · exact ⟨rfl, ht⟩
  rw [if_neg h15, if_neg h15]
  by_cases h16 : c.op = 16
  · rw [if_pos h16, if_pos h16]
    exact ⟨rfl, rfl⟩
  rw [if_neg h16, if_neg h16]
  by_cases h17 : c.op = 17
  · rw [if_pos h17, if_pos h17]
    split
    · exact ⟨rfl, ht⟩
    · exact ⟨rfl, ht⟩
  rw [if_neg h17, if_neg h17]
  by_cases h21 : c.op = 21 ∨ c.op = 22 ∨ c.op = 14
  · rw [if_pos h21, if_pos h21]
    exact hk
  rw [if_neg h21, if_neg h21]
  exact hr
theorem yd1_text (b b' : SB) (c : Cl) (ht : b.text = b'.text) (hc : c.one) (hb : ¬ c.isBack) : ∃ d d', (yd1 b).do c = (yd1 d, ((yd1 b).do c).2) ∧ (yd1 b').do c = (yd1 d', ((yd1 b).do c).2) ∧ d.text = d'.text := by
  obtain ⟨ha, h⟩ := hc
  by_cases h1 : c.op < 1
  · exact ⟨b, b', by rw [yd1_do0 b c h1], by rw [yd1_do0 b c h1, yd1_do0 b' c h1], ht⟩
  rcases h with h | h | h
  · obtain ⟨e1, e2⟩ := do_text b b' c ht hb
    refine ⟨(b.do c).1, (b'.do c).1, by rw [yd1_do b c ha (by omega) h], ?_, e2⟩
    rw [yd1_do b c ha (by omega) h, yd1_do b' c ha (by omega) h, ← e1]
  · rw [yd1_drain b c ha h, yd1_drain b' c ha h, ht]
    split
    · exact ⟨b, b', rfl, rfl, ht⟩
    · exact ⟨_, _, rfl, rfl, rfl⟩
  · rw [yd1_fill b c ha h, yd1_fill b' c ha h, ht]
    exact ⟨_, _, rfl, rfl, rfl⟩
/-- Two buffers with one text do the same, if nothing is taken back. -/
theorem same_run : ∀ (l : List Cl) (b b' : SB), b.text = b'.text → (∀ c ∈ l, c.one ∧ ¬ c.isBack) → Mild (yd1 b) l → Mild (yd1 b') l ∧ (runF (yd1 b') l).1 = (runF (yd1 b) l).1 ∧ (runF (yd1 b') l).2.texts = (runF (yd1 b) l).2.texts
  | [], b, b', ht, _, _ => ⟨trivial, rfl, by simp [runF, yd1_texts, ht]⟩
  | c :: l, b, b', ht, h, hm => by
    obtain ⟨hc, hb⟩ := h c (by simp)
    obtain ⟨d, d', e1, e2, e3⟩ := yd1_text b b' c ht hc hb
    obtain ⟨m1, m2, m3⟩ := hm
    rw [e1] at m3
    obtain ⟨k1, k2, k3⟩ := same_run l d d' e3 (fun x hx => h x (by simp [hx])) m3
    have m2' : ((yd1 b').do c).2.1.said ≠ 3 := by rw [e2]; exact m2
    have q : (yd1 b').do c = (yd1 d', ((yd1 b).do c).2) := e2
    refine ⟨⟨by rw [q]; exact m1, m2', by rw [q]; exact k1⟩, ?_, ?_⟩
    · simp only [runF]
      rw [if_neg m2', if_neg m2]
      rw [q, e1]
      simp only
      rw [k2]
    · simp only [runF]
      rw [if_neg m2', if_neg m2]
      rw [q, e1]
      exact k3
def trC (k : Nat) : Cl := ⟨15, 0, 0, 0, (k : Int), 0, 0, [], [], none, 0⟩
theorem do_trunc (b : SB) (c : Cl) (h : c.op = 15) (k : Nat) (hn : c.n = (k : Int)) (hk : k ≤ b.text.length) : b.do c = (b.other (b.text.take k), Td.zero, true) := by
  unfold SB.do
  rw [if_neg (by omega), if_neg (by omega), if_neg (by omega), if_neg (by omega), if_neg (by omega), if_neg (by omega), if_pos h, hn, if_pos (by omega)]
  simp
theorem trunc_do (b : SB) (k : Nat) (hk : k ≤ b.text.length) : (yd1 b).do (trC k) = (yd1 (b.other (b.text.take k)), Td.zero, true) := by
  rw [yd1_do b (trC k) rfl (by show (1 : Int) ≤ 15; decide) (by show (15 : Int) < 23; decide), do_trunc b (trC k) rfl k rfl hk]
end Go.Proofs.YtbodbajgpgaoeaaGreatDoor
