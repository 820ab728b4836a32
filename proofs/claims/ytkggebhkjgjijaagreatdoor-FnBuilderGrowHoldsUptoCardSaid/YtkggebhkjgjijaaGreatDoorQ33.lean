/- SpecQ, SpecS, SpecU, BldCap, BghR, Rooms. -/
import Derived.Test.YtkggebhkjgjijaaGreatDoorQ32
import Derived.Test.YtkggebhkjgjijaaGreatDoorQ13
namespace Go.Proofs.YtkggebhkjgjijaaGreatDoor
open Go Go.RowKit

def TextPost (w : World) (c : Cl) (e : Ending) (w' : World) : Prop := e = .returned (.string ⟨(textF c).toArray⟩) ∧ Fr (fun _ => False) w w'
set_option maxHeartbeats 1600000 in
set_option maxRecDepth 100000 in
theorem textOf_any (c : Cl) (w : World) : Calls Tryz.prog 7 #[c.val] w (TextPost w c) := by
  obtain ⟨op, a, bb, size, n, sign, char, text, cuts, ad, cap⟩ := c
  unfold TextPost
  by_cases h3 : op = 3 ∨ op = 30
  · have e : textF ⟨op, a, bb, size, n, sign, char, text, cuts, ad, cap⟩ = [sign] := by unfold textF; rw [if_pos h3]
    rw [e]
    clear e
    simp only [Cl.val, Cl.cells]
    rcases h3 with rfl | rfl
    · have hcv := conv_sign (w.alloc (.cells #[.int .i64 3, .int .i64 a, .int .i64 bb, .int .u16 (size : Int), .int .i64 n, .int .u8 (sign.toNat : Int), .int .i32 char, .string ⟨text.toArray⟩, .slice ad cuts.length cap] 27)) sign
      simp only [World.size_alloc] at hcv
      go_enter Tryz.func7, Tryz.ntmps7
      go_wp2_with fail
      go_ret
      exact ⟨rfl, (fr_one w _).alloc _⟩
    · have hcv := conv_sign (w.alloc (.cells #[.int .i64 30, .int .i64 a, .int .i64 bb, .int .u16 (size : Int), .int .i64 n, .int .u8 (sign.toNat : Int), .int .i32 char, .string ⟨text.toArray⟩, .slice ad cuts.length cap] 27)) sign
      simp only [World.size_alloc] at hcv
      go_enter Tryz.func7, Tryz.ntmps7
      go_wp2_with fail
      go_ret
      exact ⟨rfl, (fr_one w _).alloc _⟩
  by_cases h4 : op = 4 ∨ op = 31
  · have e : textF ⟨op, a, bb, size, n, sign, char, text, cuts, ad, cap⟩ = enc char := by unfold textF; rw [if_neg h3, if_pos h4]
    rw [e]
    clear e
    simp only [Cl.val, Cl.cells]
    have n1 : (op == 3) = false := by simp; omega
    have n2 : (op == 30) = false := by simp; omega
    clear h3
    have HEN := Lib.hid (encode_any char)
    rcases h4 with rfl | rfl
    · go_enter Tryz.func7, Tryz.ntmps7
      go_wp2_with fail
      refine (HEN.out _).mono ?_
      rintro e w1 ⟨rfl, F1⟩
      have HF1 := Lib.hid F1
      clear F1
      go_wp2_with fail
      go_ret
      exact ⟨rfl, (fr_one w _).trans HF1.out⟩
    · go_enter Tryz.func7, Tryz.ntmps7
      go_wp2_with fail
      refine (HEN.out _).mono ?_
      rintro e w1 ⟨rfl, F1⟩
      have HF1 := Lib.hid F1
      clear F1
      go_wp2_with fail
      go_ret
      exact ⟨rfl, (fr_one w _).trans HF1.out⟩
  · have e : textF ⟨op, a, bb, size, n, sign, char, text, cuts, ad, cap⟩ = text := by unfold textF; rw [if_neg h3, if_neg h4]
    rw [e]
    clear e
    simp only [Cl.val, Cl.cells]
    have n1 : (op == 3) = false := by simp; omega
    have n2 : (op == 30) = false := by simp; omega
    have n3 : (op == 4) = false := by simp; omega
    have n4 : (op == 31) = false := by simp; omega
    clear h3 h4
    go_enter Tryz.func7, Tryz.ntmps7
    go_wp2_with fail
    go_ret
    exact ⟨rfl, fr_one w _⟩
instance (c : Cl) : Decidable c.valid := by unfold Cl.valid; infer_instance
set_option maxHeartbeats 1600000 in
set_option maxRecDepth 100000 in
theorem t_valid : TestOk 6 (fun c => decide (c.valid)) := by
  intro c w
  have ht := fun wx => textOf_any c wx
  obtain ⟨op, a, bb, size, n, sign, char, text, cuts, ad, cap⟩ := c
  by_cases h4 : op = 4 ∨ op = 31
  · have e : textF ⟨op, a, bb, size, n, sign, char, text, cuts, ad, cap⟩ = enc char := by unfold textF; rw [if_neg (show ¬ (op = 3 ∨ op = 30) by omega), if_pos (show op = 4 ∨ op = 31 from h4)]
    unfold TextPost at ht
    rw [e] at ht
    have hv : decide ((Cl.mk op a bb size n sign char text cuts ad cap).valid) = !(enc char).isEmpty := by
      unfold Cl.valid
      simp only [h4]
      cases enc char <;> simp
    simp only [Cl.val, Cl.cells] at ht ⊢
    rw [hv]
    generalize enc char = el at *
    have HT := Lib.hid ht
    clear ht e hv
    rcases h4 with rfl | rfl
    · go_enter Tryz.func6, Tryz.ntmps6
      go_wp2_with fail
      refine (HT.out _).mono ?_
      rintro e w1 ⟨rfl, F1⟩
      have HF1 := Lib.hid F1
      clear F1
      go_wp2_with fail
      go_ret
      exact ⟨rfl, (fr_one w _).trans HF1.out⟩
    · go_enter Tryz.func6, Tryz.ntmps6
      go_wp2_with fail
      refine (HT.out _).mono ?_
      rintro e w1 ⟨rfl, F1⟩
      have HF1 := Lib.hid F1
      clear F1
      go_wp2_with fail
      go_ret
      exact ⟨rfl, (fr_one w _).trans HF1.out⟩
  · have hv : decide ((Cl.mk op a bb size n sign char text cuts ad cap).valid) = true := decide_eq_true (fun q => absurd q h4)
    simp only [Cl.val, Cl.cells]
    rw [hv]
    have n3 : (op != 4) = true := by simp; omega
    have n4 : (op != 31) = true := by simp; omega
    clear h4 hv ht
    go_enter Tryz.func6, Tryz.ntmps6
    go_wp2_with fail
    go_ret
    exact ⟨rfl, fr_one w _⟩
set_option maxHeartbeats 1600000 in
set_option maxRecDepth 100000 in
theorem long_2 (g : Nat) (A : Option Addr) (n c : Nat) (B : Option Addr) (m d : Nat) (w : World) (_h : w.cell? ⟨g, 0, none⟩ = some (.slice A n c)) (_h2 : w.cell? ⟨g, 1, none⟩ = some (.slice B m d)) (_hn : n ≤ 4294967296) (_hm : m ≤ 4294967296) :
    Calls Tryz.prog 4 #[.slice (some ⟨g, 0, none⟩) 2 2] w fun e w' => e = .returned (.bool (decide (4096 < n + m))) ∧ w' = w := by
  have hz : decide (4096 < n + m) = decide ((4096 : Int) < (n : Int) + (m : Int)) := by by_cases q : 4096 < n + m <;> simp [q] <;> omega
  rw [hz]
  clear hz
  have hw1 : IntKind.i64.wrap (n : Int) = (n : Int) := IntWalk.i64_in _ (by omega)
  have hw2 : IntKind.i64.wrap ((n : Int) + (m : Int)) = (n : Int) + (m : Int) := IntWalk.i64_in _ (by omega)
  go_enter Tryz.func4, Tryz.ntmps4
  go_wp2_with fail
  go_loop [3, 8] (fun v3 v8 => (v8 = .int .i64 0 ∧ v3 = .int .i64 0) ∨ (v8 = .int .i64 1 ∧ v3 = .int .i64 (n : Int)) ∨ (v8 = .int .i64 2 ∧ v3 = .int .i64 ((n : Int) + (m : Int)))) (fun _ v8 => 2 - (intOf v8).toNat)
  case atStart => exact .inl ⟨rfl, rfl⟩
  case round =>
    rcases hrel with ⟨rfl, rfl⟩ | ⟨rfl, rfl⟩ | ⟨rfl, rfl⟩
    · go_wp2_with fail
      go_round
      case rel => exact .inr (.inl ⟨rfl, rfl⟩)
      case measure => simp [intOf]
    · go_wp2_with fail
      go_round
      case rel => exact .inr (.inr ⟨rfl, rfl⟩)
      case measure => simp [intOf]
    · go_wp2_with fail
      go_ret
      exact ⟨rfl, rfl⟩
end Go.Proofs.YtkggebhkjgjijaaGreatDoor

namespace Go.Proofs.YtkggebhkjgjijaaGreatDoor
open Go Go.RowKit

/-- The buffer that a law begins with. -/
def b0 (s : St) : SB := ⟨s.text, if s.way = 2 then 4 else 0, [], false⟩
/-- What is known of the calls that a law is given. -/
structure CallsOk (w : World) (cs : List Cl) : Prop where
  ok : ∀ c ∈ cs, ClOk w c
  sz : wsum cs ≤ 549755813888
  few : cs.length ≤ 1073741824
theorem CallsOk.fr {w w' : World} {cs : List Cl} (h : CallsOk w cs) (hf : Fr (fun _ => False) w w') : CallsOk w' cs := ⟨fun c hc => (h.ok c hc).fr hf, h.sz, h.few⟩
theorem wsum_keep (keep : Cl → Bool) : ∀ cs : List Cl, wsum (keepF keep cs) ≤ wsum cs
  | [] => Nat.le_refl _
  | c :: cs => by
    have h := wsum_keep keep cs
    have e : c.at0.text = c.text := rfl
    simp only [keepF, List.map_cons, List.filter_cons] at h ⊢
    split
    · rw [wsum_cons, wsum_cons, e]
      omega
    · rw [wsum_cons]
      omega
theorem keep_mem {keep : Cl → Bool} {cs : List Cl} {c : Cl} (h : c ∈ keepF keep cs) : ∃ d ∈ cs, c = d.at0 ∧ keep c = true := by
  obtain ⟨h1, h2⟩ := List.mem_filter.1 h
  obtain ⟨d, hd, rfl⟩ := List.mem_map.1 h1
  exact ⟨d, hd, rfl, h2⟩
/-- A script of one buffer that may be played. -/
structure Play1 (w : World) (s : St) (l : List Cl) : Prop where
  mild : Mild (yd1 (b0 s)) l
  first : ∀ c ∈ l, c.first
  ok : ∀ c ∈ l, ClOk w c
  sz : s.text.length + wsum l + 66000 ≤ 1099511627776
  few : l.length ≤ 4294967296
theorem Play1.fr {w w' : World} {s : St} {l : List Cl} (h : Play1 w s l) (hf : Fr (fun _ => False) w w') : Play1 w' s l := ⟨h.mild, h.first, fun c hc => (h.ok c hc).fr hf, h.sz, h.few⟩
end Go.Proofs.YtkggebhkjgjijaaGreatDoor

namespace Go.Proofs.YtkggebhkjgjijaaGreatDoor
open Go Go.RowKit

theorem Play1.append {w : World} {s : St} {l m : List Cl} (h : Play1 w s l) (hm : Mild (runF (yd1 (b0 s)) l).2 m) (hf : ∀ c ∈ m, c.first) (ho : ∀ c ∈ m, ClOk w c) (_hs : s.text.length + wsum l + wsum m + 66000 ≤ 1099511627776) (hn : l.length + m.length ≤ 4294967296) : Play1 w s (l ++ m) := by
  refine ⟨Mild.append l m _ h.mild hm, fun c hc => ?_, fun c hc => ?_, ?_, ?_⟩
  · rcases List.mem_append.mp hc with k | k
    · exact h.first c k
    · exact hf c k
  · rcases List.mem_append.mp hc with k | k
    · exact h.ok c k
    · exact ho c k
  · rw [wsum_append]; omega
  · rw [List.length_append]; exact hn
theorem Reads.left {α : Type} {cells : α → List Value} {size : Nat} {w : World} {A : Option Addr} {xs ys : List α} (h : Reads cells size w A (xs ++ ys)) : Reads cells size w A xs :=
  ⟨fun j x hx => h.at' j x (by rw [List.getElem?_append_left (List.getElem?_eq_some_iff.1 hx).1]; exact hx)⟩
theorem Reads.right {α : Type} {cells : α → List Value} {size r o : Nat} {w : World} {xs ys : List α} (h : Reads cells size w (some ⟨r, o, none⟩) (xs ++ ys)) : Reads cells size w (some ⟨r, o + xs.length * size, none⟩) ys := by
  refine ⟨fun j x hx => ?_⟩
  obtain ⟨r', o', e, hc⟩ := h.at' (xs.length + j) x (by rw [List.getElem?_append_right (by omega), Nat.add_sub_cancel_left]; exact hx)
  injection e with e
  injection e with e1 e2
  subst e1 e2
  refine ⟨r, _, rfl, fun k v hv => ?_⟩
  have := hc k v hv
  rw [Nat.add_mul, ← Nat.add_assoc] at this
  exact this
theorem cl_one (c : Cl) : ∀ u ∈ c.cells, u.oneCell' = true := by simp [Cl.cells, Value.oneCell']
section
variable {α : Type} {cells : α → List Value} {P : Program} {w : World} {ops : Array Oper} {rest : List Oper} {o : Oper} {a : Act} {Q : Exit → Act → World → Prop} {T E : TypeId} {size bytes : Nat}
theorem wpList_copy (ok : ElemOk P T E size bytes) (hs : ∀ x, (cells x).length = size) (h1 : ∀ x, ∀ u ∈ cells x, u.oneCell' = true) (hgd : o.guard = none) (s x : Operand) (ho : o.op = .call { callee := .builtin .append, args := #[s, x], argTypes := #[T, T] })
    (base : Nat) (v : Value) (n : Nat) (xs : List Value) (A : Option Addr) (c : Nat) (ys : List α) (hv : a.eval s = v) (hx : a.eval x = .slice A ys.length c) (hown : Own E size w base v n xs) (hr : Reads cells size w A ys) (hA : A = none → ys = [] ∧ c = 0) (hn : n + ys.length ≤ 8589934592) (hbase : base ≤ w.heap.size)
    (h : ∀ v' w', Own E size w' base v' (n + ys.length) (xs ++ ys.flatMap cells) → Fr (fun x => v.ownBlock = some x) w w' → (v'.ownBlock = v.ownBlock ∨ v'.ownBlock = some w.heap.size) → wpList P ops Q rest (a.put o.dst v') w') :
    wpList P ops Q (o :: rest) a w := by
  obtain ⟨v', w', hrun, k1, k2, k3⟩ := run_copy ok hs h1 o.type hown hr hA hn hbase
  exact wpList_plain hgd fun _ hK => wp_append_of_run s x T T ho hv hx hrun (hK _ _ (h v' w' k1 k2 k3))
end
theorem three_blocks (w : World) (o0 o1 o2 : Obj) : (((w.alloc o0).alloc o1).alloc o2).heap[w.heap.size]? = some o0 ∧ (((w.alloc o0).alloc o1).alloc o2).heap[w.heap.size + 1]? = some o1 ∧ (((w.alloc o0).alloc o1).alloc o2).heap[w.heap.size + 1 + 1]? = some o2 := by
  have h2 := heap_alloc_new ((w.alloc o0).alloc o1) o2
  have h1 := ((Fr.refl (fun _ => False) _).alloc o2).blk (heap_alloc_new (w.alloc o0) o1) (fun q => q)
  have h0 := (((Fr.refl (fun _ => False) _).alloc o1).alloc o2).blk (heap_alloc_new w o0) (fun q => q)
  simp only [World.size_alloc] at h0 h1 h2
  exact ⟨h0, h1, h2⟩
theorem two_blocks (w : World) (o0 o1 : Obj) : ((w.alloc o0).alloc o1).heap[w.heap.size]? = some o0 ∧ ((w.alloc o0).alloc o1).heap[w.heap.size + 1]? = some o1 := by
  have h1 := heap_alloc_new (w.alloc o0) o1
  have h0 := ((Fr.refl (fun _ => False) _).alloc o1).blk (heap_alloc_new w o0) (fun q => q)
  simp only [World.size_alloc] at h0 h1
  exact ⟨h0, h1⟩
end Go.Proofs.YtkggebhkjgjijaaGreatDoor

namespace Go.Proofs.YtkggebhkjgjijaaGreatDoor
open Go Go.RowKit

set_option maxRecDepth 100000 in
theorem bld_cap (w : World) (d : Nat) (g : BG) (h : BldAt w d g) : Calls Tryz.prog 23 #[.pointer (some ⟨d, 0, none⟩)] w fun e w' => e = .returned (.int .i64 (g.cap : Int)) ∧ w' = w := by
  have c1 := h.c1
  clear h
  go_enter Tryz.func23, Tryz.ntmps23
  go_wp2
  go_ret
  exact ⟨rfl, rfl⟩
end Go.Proofs.YtkggebhkjgjijaaGreatDoor

namespace Go.Proofs.YtkggebhkjgjijaaGreatDoor
open Go Go.RowKit

/-- The room of a builder, as the code has it. -/
def rmC (p : Nat × BG) : List Value := [.int .i64 (p.2.txt.length : Int), .int .i64 (p.2.cap : Int), .int .i64 0, .int .i64 0, .int .i64 0]
theorem rmC_len (p : Nat × BG) : (rmC p).length = 5 := rfl
theorem rmC_one (p : Nat × BG) : ∀ u ∈ rmC p, u.oneCell' = true := by simp [rmC, Value.oneCell']
theorem elem_space : ElemOk Tryz.prog 35 34 5 40 := by
  obtain ⟨i0, hi, hz0, hz1, hz2⟩ := info_parts (show (Tryz.prog.info? 34).map (fun i => (i.zero, i.size, i.bytes)) = some (some (.agg #[.int .i64 0, .int .i64 0, .int .i64 0, .int .i64 0, .int .i64 0]), 5, 40) by kernel_rfl)
  exact ⟨Tryz.underlying35, ⟨i0, _, hi, hz0, hz1, hz2, rfl⟩, by decide, by decide⟩
def RoomsPost (w : World) (ds : List (Nat × BG)) (e : Ending) (w' : World) : Prop := ∃ v, e = .returned v ∧ Own 34 5 w' w.heap.size v ds.length (ds.flatMap rmC) ∧ Fr (fun _ => False) w w'
set_option maxHeartbeats 1600000 in
set_option maxRecDepth 100000 in
theorem rooms_any (w : World) (base yb : Nat) (bs : List (Nat × Gh)) (ds : List (Nat × BG)) (hY : YardAt w base yb bs ds) (_hn : ds.length ≤ 4294967296) :
    Calls Tryz.prog 13 #[.pointer (some ⟨yb, 0, none⟩)] w (RoomsPost w ds) := by
  obtain ⟨A, c, A', c', lab, hC⟩ := hY
  have HDP := Lib.hid hC.dp
  have HDA := Lib.hid hC.da
  have y1 : (w.alloc (.cells #[] 34)).cell? ⟨yb, 1, none⟩ = some (.slice A' ds.length c') := alloc_cell (by rw [cell_of_row w _ 1 _ _ _ hC.st]; rfl)
  have hb := own_bare (E := 34) (size := 5) (heap_alloc_new w (.cells #[] 34)) (Nat.le_refl w.heap.size)
  have HB := Lib.hid hb
  clear hC hb
  go_enter Tryz.func13, Tryz.ntmps13
  go_wp2_with fail
  go_loopw [3, 12] (fun v3 v12 wr => ∃ k : Nat, k ≤ ds.length ∧ v12 = .int .i64 (k : Int) ∧ Own 34 5 wr w.heap.size v3 k ((ds.take k).flatMap rmC) ∧ Fr (fun _ => False) w wr) (fun _ v12 _ => ds.length - (intOf v12).toNat)
  case atStart => exact ⟨0, Nat.zero_le _, rfl, HB.out, fr_one w _⟩
  case round =>
    obtain ⟨k, hk, rfl, hO, hF⟩ := hrel
    obtain ⟨A3, q3, rfl⟩ := hO.value
    have HO := Lib.hid hO
    have HF := Lib.hid hF
    by_cases hlt : k < ds.length
    · obtain ⟨p, hp⟩ : ∃ p, ds[k]? = some p := ⟨_, List.getElem?_eq_getElem hlt⟩
      obtain ⟨r, e1, _, c0⟩ := HDP.out k p hp
      subst e1
      have c0' := keep1 hF c0
      have ha := HDA.out k p hp
      obtain ⟨d, g⟩ := p
      have hat : ∀ w', Fr (fun _ => False) wr w' → BldAt w' d g := fun w' hf => ha.fr (hF.trans hf) (fun _ _ q => q)
      have HAT := Lib.hid hat
      have hki : (k : Int) < (ds.length : Int) := by omega
      have hk0 : (0 : Int) ≤ (k : Int) := by omega
      have HP := Lib.hid hp
      clear hO hF hp c0 ha hat
      go_wp2_with fail
      refine (bld_len wr d g (HAT.out wr (Fr.refl _ wr))).mono ?_
      rintro e w1 ⟨rfl, h1⟩
      rw [h1]
      clear h1
      go_wp2_with fail
      refine (bld_cap wr d g (HAT.out wr (Fr.refl _ wr))).mono ?_
      rintro e w2 ⟨rfl, h2⟩
      rw [h2]
      clear h2
      go_wp2_with (refine wpList_copy elem_space rmC_len rmC_one rfl (.tmp 16) (.tmp 22) rfl w.heap.size _ k ((ds.take k).flatMap rmC) (some ⟨wr.heap.size, 0, none⟩) 1 [(d, g)] (by rfl) (by rfl) (HO.out.fr (fr_one wr _) (fun _ _ q => q)) (Reads.of_block rmC_len (heap_alloc_new wr _) rfl) (fun q => by cases q) (by simp only [List.length_cons, List.length_nil]; omega) (by have := HF.out.size; rw [World.size_alloc]; omega) ?_)
      intro v' w' hown hfr hat
      have hown' : Own 34 5 w' w.heap.size v' (k + 1) ((ds.take (k + 1)).flatMap rmC) := by
        obtain ⟨h1, e⟩ := List.getElem?_eq_some_iff.1 HP.out
        rw [List.take_succ_eq_append_getElem h1, e, List.flatMap_append]
        exact hown
      have HOW := Lib.hid hown'
      have HFW := Lib.hid ((HF.out.alloc _).trans' hfr (fun x hx q => by have := HO.out.blk_ge q; omega))
      clear hown hown' hfr hat
      go_wp2_with fail
      go_roundw
      case rel => exact ⟨k + 1, by omega, by go_num, HOW.out, HFW.out⟩
      case measure => simp [intOf]; omega
    · have hkk : k = ds.length := by omega
      subst hkk
      rw [List.take_length] at hO
      have HOE := Lib.hid hO
      clear hO hF
      go_wp2_with fail
      go_ret
      exact ⟨_, rfl, HOE.out, HF.out⟩
end Go.Proofs.YtkggebhkjgjijaaGreatDoor

namespace Go.Proofs.YtkggebhkjgjijaaGreatDoor
open Go Go.RowKit

theorem elem_spaces : ElemOk Tryz.prog 31 35 1 24 := by
  obtain ⟨i0, hi, hz0, hz1, hz2⟩ := info_parts (show (Tryz.prog.info? 35).map (fun i => (i.zero, i.size, i.bytes)) = some (some (.slice none 0 0), 1, 24) by kernel_rfl)
  exact ⟨Tryz.underlying31, ⟨i0, _, hi, hz0, hz1, hz2, rfl⟩, by decide, by decide⟩
def spC (p : Option Addr × Nat) : List Value := [.slice p.1 1 p.2]
theorem spC_len (p : Option Addr × Nat) : (spC p).length = 1 := rfl
theorem spC_one (p : Option Addr × Nat) : ∀ u ∈ spC p, u.oneCell' = true := by simp [spC, Value.oneCell']
/-- How far Rooms has come. -/
structure RmI (w : World) (yb : Nat) (cs : List Cl) (k : Nat) (wr : World) (ov : Value) (d : Nat) (g : BG) (gs : List BG) (vs : List Value) : Prop where
  yard : YardAt wr w.heap.size yb [] [(d, g)]
  rel : (runF (yb1 []) (cs.take k)).2 = yb1 g.txt
  own : Own 35 1 wr w.heap.size ov (k + 1) vs
  fr : Fr (fun _ => False) w wr
  gl : gs.length = k + 1
  vl : vs.length = k + 1
  last : gs[k]? = some g
  rd : ∀ (i : Nat) (v : Value) (g' : BG), vs[i]? = some v → gs[i]? = some g' → Own 34 5 wr w.heap.size v 1 (rmC (0, g'))
  cap : ∀ (i : Nat) (c : Cl) (g1 g2 : BG), i < k → cs[i]? = some c → gs[i]? = some g1 → gs[i + 1]? = some g2 → BCap c g1 g2
  txt : ∀ (i : Nat) (g' : BG), gs[i]? = some g' → (runF (yb1 []) (cs.take i)).2 = yb1 g'.txt
theorem rel_one {bs : List (Nat × Gh)} {ds : List (Nat × BG)} {s : List UInt8} (h : Rel bs ds (yb1 s)) : bs = [] ∧ ∃ d g, ds = [(d, g)] ∧ g.txt = s := by
  have h1 := h.bl
  have h2 := h.dl
  simp only [yb1, List.length_nil, List.length_cons] at h1 h2
  refine ⟨List.length_eq_zero_iff.1 h1, ?_⟩
  match ds, h2 with
  | [p], _ => exact ⟨p.1, p.2, rfl, h.d 0 p s rfl rfl⟩
theorem RmI.next {w wr w4 : World} {yb : Nat} {cs : List Cl} {k : Nat} {ov ov' v : Value} {d : Nat} {g g' : BG} {gs : List BG} {vs : List Value} {c : Cl} (h : RmI w yb cs k wr ov d g gs vs) (hc : cs[k]? = some c)
    (hrun : (runF (yb1 []) (cs.take (k + 1))).2 = yb1 g'.txt) (hcap : BCap c g g') (hy : YardAt w4 w.heap.size yb [] [(d, g')]) (hF : Fr (fun _ => False) w w4)
    (hold : ∀ {v : Value} {xs : List Value}, Own 34 5 wr w.heap.size v 1 xs → Own 34 5 w4 w.heap.size v 1 xs) (hv : Own 34 5 w4 w.heap.size v 1 (rmC (0, g'))) (ho : Own 35 1 w4 w.heap.size ov' (k + 1 + 1) (vs ++ [v])) :
    RmI w yb cs (k + 1) w4 ov' d g' (gs ++ [g']) (vs ++ [v]) := by
  have hgl := h.gl
  have hvl := h.vl
  refine ⟨hy, hrun, ho, hF, by simp [hgl], by simp [hvl], by rw [List.getElem?_append_right (by omega)]; simp [hgl], fun i u x hu hx => ?_, fun i c' g1 g2 hi hc' h1 h2 => ?_, fun i x hx => ?_⟩
  · by_cases hi : i < k + 1
    · rw [List.getElem?_append_left (by omega)] at hu hx
      exact hold (h.rd i u x hu hx)
    · have hi2 : i = k + 1 := by
        have := (List.getElem?_eq_some_iff.1 hx).1
        simp [hgl] at this
        omega
      subst hi2
      rw [List.getElem?_append_right (by omega)] at hu hx
      simp [hgl] at hx
      simp [hvl] at hu
      subst hu hx
      exact hv
  · rw [List.getElem?_append_left (by omega)] at h1
    by_cases hk : i < k
    · rw [List.getElem?_append_left (by omega)] at h2
      exact h.cap i c' g1 g2 hk hc' h1 h2
    · obtain rfl : i = k := by omega
      rw [List.getElem?_append_right (by omega)] at h2
      simp [hgl] at h2
      rw [hc] at hc'
      rw [h.last] at h1
      injection hc' with e1
      injection h1 with e2
      subst e1 e2 h2
      exact hcap
  · by_cases hi : i < k + 1
    · rw [List.getElem?_append_left (by omega)] at hx
      exact h.txt i x hx
    · have hi2 : i = k + 1 := by
        have := (List.getElem?_eq_some_iff.1 hx).1
        simp [hgl] at this
        omega
      subst hi2
      rw [List.getElem?_append_right (by omega)] at hx
      simp [hgl] at hx
      subst hx
      exact hrun
theorem yb1_step {c : Cl} (ha : c.a = 0) (h28 : 28 ≤ c.op) (s : List UInt8) : ∃ s' t ok, (yb1 s).do c = (yb1 s', t, ok) := by
  by_cases h : c.op < 36
  · exact ⟨_, _, _, yb1_do s c ha h28 h⟩
  · exact ⟨_, _, _, yb1_do0 s c (by omega)⟩
def RoomsRun (w : World) (cs : List Cl) (e : Ending) (w' : World) : Prop := ∃ yb ov d g gs vs, e = .returned ov ∧ RmI w yb cs cs.length w' ov d g gs vs
set_option maxHeartbeats 6400000 in
set_option maxRecDepth 100000 in
theorem rooms_run (cs : List Cl) (A' : Option Addr) (c' : Nat) (ea eu : Addr) (w : World) (hC : Reads Cl.cells 9 w A' cs) (hS : Script w (yb1 []) cs) (hM : Mild (yb1 []) cs) (h28 : ∀ c ∈ cs, c.a = 0 ∧ 28 ≤ c.op) (_hcl : cs.length ≤ 4294967296) (_hsz : wsum cs + 66000 ≤ 1099511627776) (hG : Gl w.heap.size ea eu w) :
    Calls Tryz.prog 8 #[.slice none 0 0, .int .u8 1, .slice A' cs.length c'] w (RoomsRun w cs) := by
  have HC := Lib.hid hC
  have HSC := Lib.hid hS
  have HM := Lib.hid hM
  have HG := Lib.hid hG
  have H28 := Lib.hid h28
  clear hC hS hM hG h28
  go_enter Tryz.func8, Tryz.ntmps8
  go_wp2_with fail
  refine (opened_any [] 1 none 0 w (Reads.nil _ _ _ _) (by simp) (by simp) (by omega)).mono ?_
  rintro e w1 ⟨yb, bs0, ds0, rfl, hY, hrel, hF1⟩
  obtain ⟨rfl, d0, g0, rfl, hg0⟩ := rel_one (s := []) hrel
  have HY := Lib.hid hY
  have HF1 := Lib.hid hF1
  have HG0 := Lib.hid hg0
  clear hY hrel hF1 hg0
  go_wp2_with fail
  refine (rooms_any w1 w.heap.size yb [] [(d0, g0)] HY.out (by simp)).mono ?_
  rintro e w2 ⟨v, rfl, hown, F2⟩
  have hown : Own 34 5 w2 w1.heap.size v 1 (rmC (0, g0)) := by
    have q : Own 34 5 w2 w1.heap.size v 1 (rmC (d0, g0)) := by simpa using hown
    exact q
  obtain ⟨Av, qv, rfl⟩ := hown.value
  obtain ⟨v, hv⟩ : ∃ v, v = Value.slice Av 1 qv := ⟨_, rfl⟩
  rw [← hv] at hown
  have hb2 := heap_alloc_new w2 (.cells #[v] 35)
  have hz1 := HF1.out.size
  have hz2 := F2.size
  have hi0 : RmI w yb cs 0 (w2.alloc (.cells #[v] 35)) (.slice (some ⟨w2.heap.size, 0, none⟩) 1 1) d0 g0 [g0] [v] := by
    have F12 := F2.trans (fr_one w2 (.cells #[v] 35))
    refine ⟨HY.out.fr0 F12, by rw [HG0.out]; rfl, ⟨rfl, .inr ⟨_, _, _, rfl, by omega, hb2, Nat.le_refl _, by unfold maxLen; omega, rfl, rfl⟩⟩, HF1.out.trans F12, rfl, rfl, rfl, fun i u x hu hx => ?_, fun i c g1 g2 hi => absurd hi (by omega), fun i x hx => ?_⟩
    · cases i with
      | zero =>
        simp at hu hx
        subst hu hx
        exact (hown.lower (by omega)).fr (fr_one w2 _) (fun _ _ q => q)
      | succ i => simp at hu
    · cases i with
      | zero =>
        simp at hx
        subst hx
        rw [HG0.out]
        rfl
      | succ i => simp at hx
  rw [hv] at hi0
  have HI0 := Lib.hid hi0
  clear hb2 hown F2 hi0 hv
  go_wp2_with fail
  go_loopw [8, 20] (fun v8 v20 wr => ∃ (k : Nat) (d : Nat) (g : BG) (gs : List BG) (vs : List Value), k ≤ cs.length ∧ v20 = .int .i64 (k : Int) ∧ RmI w yb cs k wr v8 d g gs vs) (fun _ v20 _ => cs.length - (intOf v20).toNat)
  case atStart => exact ⟨0, d0, g0, [g0], [.slice Av 1 qv], Nat.zero_le _, rfl, HI0.out⟩
  case round =>
    obtain ⟨k, d, g, gs, vs, hk, rfl, hI⟩ := hrel
    obtain ⟨A8, q8, rfl⟩ := hI.own.value
    have HI := Lib.hid hI
    by_cases hlt : k < cs.length
    · obtain ⟨cc, hcc⟩ : ∃ cc, cs[k]? = some cc := ⟨_, List.getElem?_eq_getElem hlt⟩
      obtain ⟨r, o, e1, hc⟩ := HC.out.at' k cc hcc
      subst e1
      have hmem := List.mem_of_getElem? hcc
      obtain ⟨hset, hns, hsucc⟩ := runF_succ HM.out hlt
      have hcc2 : cs[k] = cc := (List.getElem?_eq_some_iff.1 hcc).2
      rw [hcc2, hI.rel] at hset hns
      rw [hcc2, hI.rel] at hsucc
      have hkept := runF_kept HM.out (show (yb1 []).ok from fun i s h => by simp [yb1] at h) k (by omega)
      obtain ⟨h0, h28⟩ := H28.out cc hmem
      obtain ⟨s', tt, ok, hdo⟩ := yb1_step h0 h28 g.txt
      have hto := hkept.tot
      rw [hI.rel] at hto
      have hwt := wsum_take cs (k + 1)
      rw [List.take_succ_eq_append_getElem hlt, wsum_append, wsum_cons, hcc2] at hwt
      have htot0 : (yb1 []).tot = 0 := by simp [yb1, Yd.tot, Yd.texts, tsum]
      have hmsz : (yb1 g.txt).tot + cc.text.length + 66000 ≤ 1099511627776 := by omega
      have hth := Cl.there_of (c := cc) (y := yb1 []) (y' := yb1 g.txt) (HSC.out.there cc hmem) rfl rfl
      have hbw := hI.yard.bw
      have hrel1 : Rel [] [(d, g)] (yb1 g.txt) := ⟨rfl, rfl, fun i p s h _ => by simp at h, fun i p s h hs => by
        cases i with
        | zero =>
          simp [yb1] at h hs
          rw [← h, ← hs]
        | succ i => simp at h⟩
      have hcall : ∀ w', Fr (fun _ => False) wr w' → Calls Tryz.prog 14 #[.pointer (some ⟨yb, 0, none⟩), cc.val] w' (CallPost w' w.heap.size yb [(d, g)] (yb1 g.txt) cc) := fun w' hf =>
        call_any w' w.heap.size yb [] [(d, g)] (yb1 g.txt) cc ea eu (hI.yard.fr0 hf) hrel1 (((HSC.out.ok cc hmem).fr hI.fr).fr hf) hmsz ((HG.out.fr0 (Nat.le_refl _) hI.fr).fr0 hbw hf) (HSC.out.plays cc hmem) hth hset hns
      unfold CallPost at hcall
      rw [hdo] at hcall hsucc hns
      obtain ⟨tn, ttx, tc, tsd⟩ := tt
      simp only at hns hcall hsucc
      have hq : ∀ j u, (Cl.cells cc)[j]? = some u → wr.cell? ⟨r, o + k * 9 + j, none⟩ = some u := fun j u hu => keep1 hI.fr (hc j u hu)
      obtain ⟨cd, hcd⟩ : ∃ cd, cd = cc := ⟨_, rfl⟩
      have HCC := Lib.hid (show cs[k]? = some cd by rw [hcd]; exact hcc)
      have hcapf : (28 ≤ cc.op → ∀ d1 g1, [(d, g)][cc.a.toNat]? = some (d1, g1) → True) := fun _ _ _ _ => trivial
      have HSU := Lib.hid hsucc
      have HA := Lib.hid (show cd.a = 0 ∧ 28 ≤ cd.op by rw [hcd]; exact ⟨h0, h28⟩)
      rw [← hcd] at hcall
      obtain ⟨op, ca, cb, csize, cn, csign, cchar, ctext, ccuts, cad, ccap⟩ := cc
      have c0 := hq 0 _ rfl
      have c1 := hq 1 _ rfl
      have c2 := hq 2 _ rfl
      have c3 := hq 3 _ rfl
      have c4 := hq 4 _ rfl
      have c5 := hq 5 _ rfl
      have c6 := hq 6 _ rfl
      have c7 := hq 7 _ rfl
      have c8 := hq 8 _ rfl
      simp only [Nat.add_zero] at c0
      have hki : (k : Int) < (cs.length : Int) := by omega
      have hk0 : (0 : Int) ≤ (k : Int) := by omega
      have h3 : (tsd == 3) = false := by simpa using hns
      have hcv : cd.val = .agg #[.int .i64 op, .int .i64 ca, .int .i64 cb, .int .u16 (csize : Int), .int .i64 cn, .int .u8 (csign.toNat : Int), .int .i32 cchar, .string ⟨ctext.toArray⟩, .slice cad ccuts.length ccap] := by rw [hcd]; rfl
      rw [hcv] at hcall
      have HCALL := Lib.hid hcall
      clear hcapf hcall hcv hcd hq hcc hcc2 hc hmem hset hns hsucc hkept h0 h28 hdo hto hwt htot0 hmsz hth hbw hrel1 hI
      go_wp2_with fail
      refine (HCALL.out _ ((Fr.refl _ wr).alloc _)).mono ?_
      rintro e w3 ⟨bs', ds', rfl, S, hrel', hcap⟩
      obtain ⟨rfl, d', g', rfl, hg'⟩ := rel_one hrel'
      have hcg : d' = d ∧ BCap cd g g' := by
        obtain ⟨x, hx, hb⟩ := hcap HA.out.2 d g (by rw [HA.out.1]; rfl)
        rw [HA.out.1] at hx
        simp at hx
        obtain ⟨e1, e2⟩ := hx
        subst e1 e2
        exact ⟨rfl, hb⟩
      obtain ⟨rfl, hcb⟩ := hcg
      simp only [Td.val, Td.cells]
      have o1 : ∀ {E : TypeId} {size n : Nat} {v : Value} {xs : List Value}, Own E size wr w.heap.size v n xs → E ≠ 84 → E ≠ 74 → E ≠ 5 → Own E size w3 w.heap.size v n xs := fun ho h1 h2 h3 => by
        have q := ho.fr ((Fr.refl (fun _ => False) wr).alloc (.cells #[.int .i64 op, .int .i64 ca, .int .i64 cb, .int .u16 (csize : Int), .int .i64 cn, .int .u8 (csign.toNat : Int), .int .i32 cchar, .string ⟨ctext.toArray⟩, .slice cad ccuts.length ccap] 27)) (fun _ _ q => q)
        exact q.fr S.fr (fun x hx => ydS.not_own q h1 h2 h3 hx)
      have hF3 : Fr (fun _ => False) w w3 := (HI.out.fr.alloc _).trans' S.fr (fun x hx q => by have := q.1; omega)
      have HO1 := Lib.hid (o1 HI.out.own (by decide) (by decide) (by decide))
      have HOLD := Lib.hid (show ∀ (v : Value) (xs : List Value), Own 34 5 wr w.heap.size v 1 xs → Own 34 5 w3 w.heap.size v 1 xs from fun v xs ho => o1 ho (by decide) (by decide) (by decide))
      have HS := Lib.hid S.at'
      have HF3 := Lib.hid hF3
      have HGT := Lib.hid hg'
      have HCB := Lib.hid hcb
      clear o1 hF3 S hrel' hcap hg' hcb
      go_wp2_with fail
      refine (rooms_any (w3.alloc (.cells #[.int .i64 tn, .string ⟨ttx.toArray⟩, .int .i32 tc, .int .i64 tsd] 45)) w.heap.size yb [] [(d', g')] (HS.out.fr0 (fr_one w3 _)) (by simp)).mono ?_
      rintro e w5 ⟨v, rfl, hown, F5⟩
      have hown : Own 34 5 w5 (w3.alloc (.cells #[.int .i64 tn, .string ⟨ttx.toArray⟩, .int .i32 tc, .int .i64 tsd] 45)).heap.size v 1 (rmC (0, g')) := by
        have q : Own 34 5 w5 (w3.alloc (.cells #[.int .i64 tn, .string ⟨ttx.toArray⟩, .int .i32 tc, .int .i64 tsd] 45)).heap.size v 1 (rmC (d', g')) := by simpa using hown
        exact q
      obtain ⟨Av, qv, rfl⟩ := hown.value
      have F35 := (fr_one w3 (.cells #[.int .i64 tn, .string ⟨ttx.toArray⟩, .int .i32 tc, .int .i64 tsd] 45)).trans F5
      have hz3 := HF3.out.size
      have HV := Lib.hid (hown.lower (base' := w.heap.size) (by rw [World.size_alloc]; omega))
      have HO5 := Lib.hid (HO1.out.fr F35 (fun _ _ q => q))
      have HF5 := Lib.hid (HF3.out.trans F35)
      have HS5 := Lib.hid (HS.out.fr0 F35)
      have HOLD5 := Lib.hid (show ∀ (v : Value) (xs : List Value), Own 34 5 wr w.heap.size v 1 xs → Own 34 5 w5 w.heap.size v 1 xs from fun v xs ho => (HOLD.out v xs ho).fr F35 (fun _ _ q => q))
      clear hown F5 F35 HOLD HO1 HS
      go_wp2_with (refine wpList_copy elem_spaces spC_len spC_one rfl (.tmp 30) (.tmp 33) rfl w.heap.size _ (k + 1) vs (some ⟨w5.heap.size, 0, none⟩) 1 [(Av, qv)] (by rfl) (by rfl) (HO5.out.fr (fr_one w5 _) (fun _ _ q => q)) (Reads.of_block spC_len (heap_alloc_new w5 _) rfl) (fun q => by cases q) (by simp only [List.length_cons, List.length_nil]; omega) (by have := HF5.out.size; rw [World.size_alloc]; omega) ?_)
      intro v' w6 hown6 hfr6 hat6
      have hw5 : ∀ {v : Value} {xs : List Value}, Own 34 5 w5 w.heap.size v 1 xs → Own 34 5 w6 w.heap.size v 1 xs := fun ho =>
        (ho.fr (fr_one w5 (.cells #[.slice Av 1 qv] 35)) (fun _ _ q => q)).fr hfr6 (fun x hx q => Own.other ho HO5.out (by decide) x hx q)
      have hfr3 : Fr (fun x => (Value.slice A8 (k + 1) q8).ownBlock = some x) w5 w6 := ((Fr.refl _ w5).alloc _).trans hfr6
      have hyd : YardAt w6 w.heap.size yb [] [(d', g')] := HS5.out.fr hfr3 (fun x hx q => .inr ⟨35, HO5.out.typed q, by decide, by decide, by decide, by decide, by decide, by decide⟩) (fun x hx q => by
        rcases hx with hx | hx
        · exact hx.ne (by decide) (HO5.out.typed q)
        · exact hx.ne (by decide) (HO5.out.typed q))
      have hN := RmI.next HI.out HCC.out (by rw [HSU.out, HGT.out]) HCB.out hyd (HF5.out.trans' hfr3 (fun x hx q => by have := HO5.out.blk_ge q; omega)) (fun ho => hw5 (HOLD5.out _ _ ho)) (hw5 HV.out) hown6
      have HN := Lib.hid hN
      clear hown6 hfr6 hat6 hw5 hfr3 hyd hN
      go_wp2_with fail
      go_roundw
      case rel => exact ⟨k + 1, d', g', gs ++ [g'], vs ++ [.slice Av 1 qv], by omega, by go_num, HN.out⟩
      case measure => simp [intOf]; omega
    · have hkk : k = cs.length := by omega
      subst hkk
      go_wp2_with fail
      go_ret
      exact ⟨yb, _, d, g, gs, vs, rfl, HI.out⟩
end Go.Proofs.YtkggebhkjgjijaaGreatDoor
