/- slices.Clone, IndexFunc and DeleteFunc of calls; laws.without and laws.plain. -/
import Derived.Test.YtbodbajgpgaoeaaGreatDoorQCatC
namespace Go.Proofs.YtbodbajgpgaoeaaGreatDoor
open Go Go.RowKit

theorem Reads.of_prefix {α : Type} {cells : α → List Value} {size : Nat} (hs : ∀ x, (cells x).length = size) {w : World} {g : Nat} {xs : List α} {T : TypeId} {fz : Nat × Nat} {cs : Array Value} {rest : List Value} (h : w.heap[g]? = some (.cells cs T fz)) (hc : cs.toList = xs.flatMap cells ++ rest) : Reads cells size w (some ⟨g, 0, none⟩) xs := by
  refine ⟨fun j x hx => ⟨g, 0, rfl, fun k v hv => ?_⟩⟩
  have e := flat_get cells size hs xs j x k v hx hv
  rw [Nat.zero_add, cell_of_row w g _ _ _ _ h, ← Array.getElem?_toList, hc, List.getElem?_append_left (List.getElem?_eq_some_iff.1 e).1]
  exact e
/-- A slice of calls of its own, and all of its block. -/
structure CutS (w : World) (g n cap : Nat) (M : List Cl) (rest : List Value) : Prop where
  blk : w.heap[g]? = some (.cells (cls M ++ rest).toArray 36 (0, 0))
  len : M.length = n
  rl : rest.length = (cap - n) * 9
  le : n ≤ cap
theorem CutS.reads {w : World} {g n cap : Nat} {M : List Cl} {rest : List Value} (h : CutS w g n cap M rest) : Reads Cl.cells 9 w (some ⟨g, 0, none⟩) M := Reads.of_prefix (rest := rest) Cl.cells_len h.blk (by simp [cls])
theorem cls_len (M : List Cl) : (cls M).length = M.length * 9 := by
  induction M with
  | nil => rfl
  | cons c M ih =>
    simp only [cls, List.flatMap_cons, List.length_append, List.length_cons] at ih ⊢
    rw [ih, Cl.cells_len]
    omega
theorem cut_of_own {w : World} {base g n cap : Nat} {M : List Cl} (h : OwnC w base (.slice (some ⟨g, 0, none⟩) n cap) M) (hn : n = M.length) : ∃ rest, CutS w g n cap M rest := by
  subst hn
  obtain ⟨h1, h2⟩ := h
  rcases h2 with ⟨e, _⟩ | ⟨g', cap', cur, e, hb, hblk, hle, hm, hsz, htk⟩
  · cases e
  · injection e with e1 e2 e3
    injection e1 with e1
    injection e1 with e1 _ _
    subst e1 e3
    refine ⟨cur.toList.drop (M.length * 9), ?_, rfl, ?_, hle⟩
    · rw [← htk, List.take_append_drop]
      exact hblk
    · rw [List.length_drop, Array.length_toList, hsz, Nat.sub_mul]
set_option maxHeartbeats 1600000 in
set_option maxRecDepth 100000 in
/-- Clone: nothing, or a slice of its own. -/
theorem clone_calls (A : Option Addr) (c : Nat) (l : List Cl) (w : World) (hr : Reads Cl.cells 9 w A l) (hn : l.length ≤ 4294967296) (hA : A = none → l = [] ∧ c = 0) :
    Calls Tryz.prog 56 #[.slice A l.length c] w (CalmPost w l) := by
  have HR := Lib.hid hr
  have HA := Lib.hid hA
  clear hr hA
  have heq := fun n w' => Lib.run_eql_slice_nil (P := Tryz.prog) w' 25 36 A n c 0 0 Tryz.underlying25
  cases A with
  | none =>
    obtain ⟨h1, h2⟩ := HA.out rfl
    subst h1 h2
    go_enter Tryz.func56, Tryz.ntmps56
    go_wp2_with fail
    go_ret
    exact ⟨_, rfl, Own.nil _ _ _ _, Fr.refl _ w⟩
  | some a =>
    have hb := own_bare (E := 36) (size := 9) (heap_alloc_new w (.cells #[] 36)) (Nat.le_refl w.heap.size)
    have HB := Lib.hid hb
    clear hb
    go_enter Tryz.func56, Tryz.ntmps56
    go_wp2_with (refine wpList_copy elem_call Cl.cells_len cl_one rfl (.tmp 5) (.tmp 6) rfl w.heap.size _ 0 [] (some a) c l (by rfl) (by rfl) HB.out (HR.out.fr0 (fr_one w _)) (fun q => by cases q) (by omega) (by rw [World.size_alloc]; omega) ?_)
    intro v' w' hown hfr hat
    have hown' : OwnC w' w.heap.size v' l := by
      unfold OwnC
      exact hown
    have HO := Lib.hid hown'
    have HF := Lib.hid (((Fr.refl (fun _ => False) w).alloc (.cells #[] 36)).trans' hfr (fun x hx q => by have q := own_at q; omega))
    clear hown hown' hfr hat
    go_wp2_with fail
    go_ret
    exact ⟨_, rfl, HO.out, HF.out⟩
/-- Where the first call is that takes a read back. -/
def IdxPost (w : World) (l : List Cl) (e : Ending) (w' : World) : Prop :=
  ∃ r : Int, e = .returned (.int .i64 r) ∧ Fr (fun _ => False) w w' ∧ ((r = -1 ∧ ∀ x ∈ l, ¬ x.isBack) ∨ ∃ (i : Nat) (d : Cl), r = (i : Int) ∧ l[i]? = some d ∧ d.isBack ∧ ∀ x ∈ l.take i, ¬ x.isBack)
set_option maxHeartbeats 1600000 in
set_option maxRecDepth 100000 in
theorem index_calls (A : Option Addr) (c : Nat) (l : List Cl) (w : World) (hr : Reads Cl.cells 9 w A l) (hn : l.length ≤ 4294967296) :
    Calls Tryz.prog 95 #[.slice A l.length c, .func (.func 32) #[] #[]] w (IdxPost w l) := by
  have HR := Lib.hid hr
  clear hr
  go_enter Tryz.func95, Tryz.ntmps95
  go_wp2_with fail
  go_loopw [8] (fun v8 wr => ∃ k : Nat, k ≤ l.length ∧ v8 = .int .i64 (k : Int) ∧ (∀ x ∈ l.take k, ¬ x.isBack) ∧ Fr (fun _ => False) w wr) (fun v8 _ => l.length - (intOf v8).toNat)
  case atStart => exact ⟨0, Nat.zero_le _, rfl, by simp, Fr.refl _ _⟩
  case round =>
    obtain ⟨k, hk, rfl, hall, hF⟩ := hrel
    have HF := Lib.hid hF
    have HALL := Lib.hid hall
    by_cases hlt : k < l.length
    · obtain ⟨d, hd⟩ : ∃ d, l[k]? = some d := ⟨_, List.getElem?_eq_getElem hlt⟩
      obtain ⟨r, o, e1, hc⟩ := HR.out.at' k d hd
      subst e1
      have hq : ∀ j u, (Cl.cells d)[j]? = some u → wr.cell? ⟨r, o + k * 9 + j, none⟩ = some u := fun j u hu => keep1 hF (hc j u hu)
      obtain ⟨br, hbr⟩ : ∃ br, br = decide d.isBack := ⟨_, rfl⟩
      have hrr : ∀ w', Calls Tryz.prog 32 #[d.val] w' fun e w'' => e = .returned (.bool br) ∧ Fr (fun _ => False) w' w'' := fun w' => by rw [hbr]; exact t_back d w'
      have hsucc : br = false → ∀ x ∈ l.take (k + 1), ¬ x.isBack := fun q x hx => by
        rw [q] at hbr
        obtain ⟨h1, e⟩ := List.getElem?_eq_some_iff.1 hd
        rw [List.take_succ_eq_append_getElem h1, e] at hx
        rcases List.mem_append.1 hx with hx | hx
        · exact HALL.out x hx
        · rw [List.mem_singleton] at hx
          subst hx
          exact of_decide_eq_false hbr.symm
      have HSU := Lib.hid hsucc
      have HBK := Lib.hid (show br = true → d.isBack from fun q => by rw [q] at hbr; exact of_decide_eq_true hbr.symm)
      have HD := Lib.hid hd
      obtain ⟨dd, hdd⟩ : ∃ dd, dd = d := ⟨_, rfl⟩
      rw [← hdd] at HD HBK
      clear hdd
      obtain ⟨op, ca, cb, csize, cn, csign, cchar, ctext, ccuts, cad, ccap⟩ := d
      have c0 := hq 0 _ rfl
      have c1 := hq 1 _ rfl
      have c2 := hq 2 _ rfl
      have c3 := hq 3 _ rfl
      have c4 := hq 4 _ rfl
      have c5 := hq 5 _ rfl
      have c6 := hq 6 _ rfl
      have c7 := hq 7 _ rfl
      have c8 := hq 8 _ rfl
      simp only [Nat.add_zero] at c0
      have hki : (k : Int) < (l.length : Int) := by omega
      have hk0 : (0 : Int) ≤ (k : Int) := by omega
      simp only [Cl.val, Cl.cells] at hrr
      have HRR := Lib.hid hrr
      clear hrr hsucc hbr hd hc hq hall hF
      go_wp2_with fail
      refine (HRR.out _).mono ?_
      rintro e w3 ⟨rfl, F3⟩
      have HF3 := Lib.hid (HF.out.trans F3)
      clear F3 c0 c1 c2 c3 c4 c5 c6 c7 c8
      cases br with
      | false =>
        go_wp2_with fail
        go_roundw
        case rel => exact ⟨k + 1, by omega, by go_num, HSU.out trivial, HF3.out⟩
        case measure => simp [intOf]; omega
      | true =>
        go_wp2_with fail
        go_ret
        exact ⟨_, rfl, HF3.out, .inr ⟨k, dd, rfl, HD.out, HBK.out trivial, HALL.out⟩⟩
    · have hkk : k = l.length := by omega
      subst hkk
      rw [List.take_length] at hall
      have HALL2 := Lib.hid hall
      clear hall hF
      go_wp2_with fail
      go_ret
      exact ⟨_, rfl, HF.out, .inl ⟨rfl, HALL2.out⟩⟩
/-- What is left without the calls that take a read back. -/
def keepB (l : List Cl) : List Cl := l.filter fun c => ¬ c.isBack
theorem keepB_none {l : List Cl} (h : ∀ x ∈ l, ¬ x.isBack) : keepB l = l := by
  unfold keepB
  rw [List.filter_eq_self]
  intro x hx
  simpa using h x hx
theorem keepB_snoc (l : List Cl) (d : Cl) : keepB (l ++ [d]) = if d.isBack then keepB l else keepB l ++ [d] := by
  unfold keepB
  rw [List.filter_append]
  by_cases h : d.isBack <;> simp [h]
theorem keepB_succ {l : List Cl} {k : Nat} {d : Cl} (h : l[k]? = some d) : keepB (l.take (k + 1)) = if d.isBack then keepB (l.take k) else keepB (l.take k) ++ [d] := by
  obtain ⟨h1, e⟩ := List.getElem?_eq_some_iff.1 h
  rw [List.take_succ_eq_append_getElem h1, e, keepB_snoc]
theorem set9 (p q : List Value) (u0 u1 u2 u3 u4 u5 u6 u7 u8 v0 v1 v2 v3 v4 v5 v6 v7 v8 : Value) :
    ((((((((((p ++ u0 :: u1 :: u2 :: u3 :: u4 :: u5 :: u6 :: u7 :: u8 :: q).set (p.length) v0).set (p.length + 1) v1).set (p.length + 2) v2).set (p.length + 3) v3).set (p.length + 4) v4).set (p.length + 5) v5).set (p.length + 6) v6).set (p.length + 7) v7).set (p.length + 8) v8) = p ++ v0 :: v1 :: v2 :: v3 :: v4 :: v5 :: v6 :: v7 :: v8 :: q := by
  simp
theorem set_blk {w : World} {g k : Nat} {l : List Value} {T : TypeId} {v : Value} (h : w.heap[g]? = some (.cells l.toArray T (0, 0))) : (w.setCell ⟨g, k, none⟩ v).heap[g]? = some (.cells (l.set k v).toArray T (0, 0)) := by
  simp [World.setCell, Array.getElem?_modify, h]
theorem store9 {w : World} {g i : Nat} {M : List Cl} {rest : List Value} {d : Cl} {v0 v1 v2 v3 v4 v5 v6 v7 v8 : Value} (h : w.heap[g]? = some (.cells (cls M ++ rest).toArray 36 (0, 0))) (hi : i < M.length) (hd : d.cells = [v0, v1, v2, v3, v4, v5, v6, v7, v8]) :
    (((((((((w.setCell ⟨g, i * 9, none⟩ v0).setCell ⟨g, i * 9 + 1, none⟩ v1).setCell ⟨g, i * 9 + 2, none⟩ v2).setCell ⟨g, i * 9 + 3, none⟩ v3).setCell ⟨g, i * 9 + 4, none⟩ v4).setCell ⟨g, i * 9 + 5, none⟩ v5).setCell ⟨g, i * 9 + 6, none⟩ v6).setCell ⟨g, i * 9 + 7, none⟩ v7).setCell ⟨g, i * 9 + 8, none⟩ v8).heap[g]? = some (.cells (cls (M.set i d) ++ rest).toArray 36 (0, 0)) := by
  have hM : M = M.take i ++ M[i] :: M.drop (i + 1) := by rw [← List.drop_eq_getElem_cons hi, List.take_append_drop]
  have hS : M.set i d = M.take i ++ d :: M.drop (i + 1) := by rw [List.set_eq_take_append_cons_drop, if_pos hi]
  have hp : (cls (M.take i)).length = i * 9 := by rw [cls_len, List.length_take, Nat.min_eq_left (by omega)]
  obtain ⟨u0, u1, u2, u3, u4, u5, u6, u7, u8, hu⟩ : ∃ u0 u1 u2 u3 u4 u5 u6 u7 u8, M[i].cells = [u0, u1, u2, u3, u4, u5, u6, u7, u8] := ⟨_, _, _, _, _, _, _, _, _, rfl⟩
  have key : ∀ (P Q : List Cl) (x : Cl) (a0 a1 a2 a3 a4 a5 a6 a7 a8 : Value), x.cells = [a0, a1, a2, a3, a4, a5, a6, a7, a8] → cls (P ++ x :: Q) ++ rest = cls P ++ a0 :: a1 :: a2 :: a3 :: a4 :: a5 :: a6 :: a7 :: a8 :: (cls Q ++ rest) := by
    intro P Q x a0 a1 a2 a3 a4 a5 a6 a7 a8 hx
    simp [cls, hx]
  have e1 := (congrArg (fun z => cls z ++ rest) hM).trans (key _ _ _ _ _ _ _ _ _ _ _ _ hu)
  have e2 := (congrArg (fun z => cls z ++ rest) hS).trans (key _ _ _ _ _ _ _ _ _ _ _ _ hd)
  rw [e2, ← set9 (cls (M.take i)) (cls (M.drop (i + 1)) ++ rest) u0 u1 u2 u3 u4 u5 u6 u7 u8 v0 v1 v2 v3 v4 v5 v6 v7 v8, hp]
  rw [e1] at h
  exact set_blk (set_blk (set_blk (set_blk (set_blk (set_blk (set_blk (set_blk (set_blk h))))))))
theorem fr9 {w : World} {g i : Nat} {v0 v1 v2 v3 v4 v5 v6 v7 v8 : Value} : Fr (fun x => x = g) w (((((((((w.setCell ⟨g, i * 9, none⟩ v0).setCell ⟨g, i * 9 + 1, none⟩ v1).setCell ⟨g, i * 9 + 2, none⟩ v2).setCell ⟨g, i * 9 + 3, none⟩ v3).setCell ⟨g, i * 9 + 4, none⟩ v4).setCell ⟨g, i * 9 + 5, none⟩ v5).setCell ⟨g, i * 9 + 6, none⟩ v6).setCell ⟨g, i * 9 + 7, none⟩ v7).setCell ⟨g, i * 9 + 8, none⟩ v8) := by
  repeat (with_reducible first | exact Fr.refl _ _ | refine Fr.setCell ?_ (fun _ => by dsimp only) _)
def zeroC : List Value := [.int .i64 0, .int .i64 0, .int .i64 0, .int .u16 0, .int .i64 0, .int .u8 0, .int .i32 0, .string ⟨#[]⟩, .slice none 0 0]
theorem zeroC_one (n : Nat) : ∀ v ∈ (Builtin.zeroCells (Value.agg zeroC.toArray).cells n).toList, v.oneCell' = true := by
  intro v hv
  simp [Builtin.zeroCells, Value.cells] at hv
  obtain ⟨a, _, rfl⟩ := hv
  have h : ∀ r, r < 9 → (zeroC[r]?.getD default).oneCell' = true := by
    intro r hr
    match r, hr with
    | 0, _ => rfl
    | 1, _ => rfl
    | 2, _ => rfl
    | 3, _ => rfl
    | 4, _ => rfl
    | 5, _ => rfl
    | 6, _ => rfl
    | 7, _ => rfl
    | 8, _ => rfl
    | r + 9, hr => omega
  exact h _ (Nat.mod_lt _ (by decide))
theorem clear_calls {w : World} {g o m c : Nat} {l : List Value} (h : w.heap[g]? = some (.cells l.toArray 36 (0, 0))) (hm : 0 < m) (hfit : o + m * 9 ≤ l.length) :
    ∃ Z : List Value, ∀ ty : TypeId, (Builtin.clear_ #[25] ty #[.slice (some ⟨g, o, none⟩) m c]).run Tryz.prog w = .ok (.tuple #[]) (w.setRow g (l.take o ++ Z ++ l.drop (o + m * 9)).toArray) := by
  obtain ⟨i0, hi, hz0, hz1, hz2⟩ := info_parts info_callU
  obtain ⟨k, rfl⟩ : ∃ k, m = k + 1 := ⟨m - 1, by omega⟩
  have hl : (Builtin.zeroCells (Value.agg zeroC.toArray).cells (k + 1)).toList.length = (k + 1) * 9 := by
    rw [Array.length_toList, size_zeroCells]
    rfl
  have hst := run_storeCells_free Tryz.prog g o 36 (0, 0) (Builtin.zeroCells (Value.agg zeroC.toArray).cells (k + 1)).toList 0 l.toArray w h (fun j _ _ q => by simp at q) (by rw [hl]; simpa using hfit) (zeroC_one _)
  refine ⟨(Builtin.zeroCells (Value.agg zeroC.toArray).cells (k + 1)).toList, fun ty => ?_⟩
  rw [hl] at hst
  simp only [Nat.add_zero] at hst
  have hv : ∀ w, (zeroValue 36).run Tryz.prog w = .ok (Value.agg zeroC.toArray) w := fun w => by simp [zeroValue, typeInfo, hi, hz0, zeroC]
  simp [Builtin.clear_, run_underlying Tryz.underlying25, hv, hst]
theorem slice_calls_from (g n c m : Nat) (hm : m ≤ n) (hc : ¬ (c - m = 0)) (w : World) : (Instr.slice 25 (.slice (some ⟨g, 0, none⟩) n c) (some (.int .i64 (m : Int))) none none).run Tryz.prog w = .ok (.slice (some ⟨g, m * 9, none⟩) (n - m) (c - m)) w := by
  obtain ⟨i0, hi, hz0, hz1, hz2⟩ := info_parts info_callU
  have h2 : (m : Int) ≤ (n : Int) := by omega
  have h3 : ¬ (c = m) := by omega
  simp [Instr.slice, run_underlying Tryz.underlying25, Instr.sliceBounds, run_sliceBound, sizeOf, typeInfo, hi, hz1, h2, h3, addr_add]
/-- What DeleteFunc leaves. -/
def DelPost (w : World) (g : Nat) (l : List Cl) (e : Ending) (w' : World) : Prop := ∃ c', e = .returned (.slice (some ⟨g, 0, none⟩) (keepB l).length c') ∧ Reads Cl.cells 9 w' (some ⟨g, 0, none⟩) (keepB l) ∧ Fr (fun x => x = g) w w'
set_option maxHeartbeats 3200000 in
set_option maxRecDepth 100000 in
theorem delete_calls (g cap : Nat) (l : List Cl) (rest : List Value) (w : World) (h : CutS w g l.length cap l rest) (hn : l.length ≤ 4294967296) (hcap : cap ≤ 9223372036854775807) :
    Calls Tryz.prog 55 #[.slice (some ⟨g, 0, none⟩) l.length cap, .func (.func 32) #[] #[]] w (DelPost w g l) := by
  have HS := Lib.hid h
  have hle := h.le
  have hgl : g < w.heap.size := lt_of_blk h.blk
  clear h
  go_enter Tryz.func55, Tryz.ntmps55
  go_wp2_with fail
  refine (index_calls (some ⟨g, 0, none⟩) cap l w HS.out.reads hn).mono ?_
  rintro e w1 ⟨r, rfl, F1, hr⟩
  rcases hr with ⟨rfl, hall⟩ | ⟨i0, d0, rfl, hd0, hb0, ht0⟩
  · have hk := keepB_none hall
    have HK := Lib.hid hk
    have HF1 := Lib.hid F1
    clear hk hall F1
    go_wp2_with fail
    go_ret
    exact ⟨cap, by rw [HK.out]; rfl, by rw [HK.out]; exact HS.out.reads.fr0 HF1.out, HF1.out.mono (fun _ _ q => q.elim)⟩
  have hil : i0 < l.length := (List.getElem?_eq_some_iff.1 hd0).1
  have hnm : ¬ ((i0 : Int) = -1) := by omega
  have hadd : IntKind.i64.wrap ((i0 : Int) + 1) = ((i0 + 1 : Nat) : Int) := by rw [IntWalk.i64_in _ (by omega)]; omega
  obtain ⟨j0, hj0⟩ : ∃ j0, j0 = i0 + 1 := ⟨_, rfl⟩
  rw [← hj0] at hadd
  have hst : l.take i0 = keepB (l.take j0) := by rw [hj0, keepB_succ hd0, if_pos hb0, keepB_none ht0]
  have HST := Lib.hid hst
  have HJ := Lib.hid hj0
  have HF1 := Lib.hid F1
  have HS1 := Lib.hid (show CutS w1 g l.length cap l rest from ⟨F1.blk HS.out.blk (fun q => q), HS.out.len, HS.out.rl, HS.out.le⟩)
  clear hst hj0 F1 hd0 hb0 ht0
  go_wp2_with fail
  go_loopw [5, 6] (fun v5 v6 wr => ∃ (i j : Nat) (M : List Cl), j ≤ l.length ∧ i < j ∧ v5 = .int .i64 (i : Int) ∧ v6 = .int .i64 (j : Int) ∧ M.take i = keepB (l.take j) ∧ M.drop j = l.drop j ∧ CutS wr g l.length cap M rest ∧ Fr (fun x => x = g) w wr) (fun _ v6 _ => l.length - (intOf v6).toNat)
  case atStart => exact ⟨i0, j0, l, by have := HJ.out; omega, by have := HJ.out; omega, rfl, rfl, HST.out, rfl, HS1.out, HF1.out.mono (fun _ _ q => q.elim)⟩
  case round =>
    obtain ⟨i, j, M, hj, hij, rfl, rfl, htk, hdp, hC, hF⟩ := hrel
    have HC := Lib.hid hC
    have HF := Lib.hid hF
    have HTK := Lib.hid htk
    have HDP := Lib.hid hdp
    have hml := hC.len
    by_cases hlt : j < l.length
    · obtain ⟨d, hd⟩ : ∃ d, l[j]? = some d := ⟨_, List.getElem?_eq_getElem hlt⟩
      have hdM : M[j]? = some d := by
        have q := congrArg (fun x : List Cl => x[0]?) hdp
        simp only [List.getElem?_drop, Nat.add_zero] at q
        rw [q, hd]
      have hks := keepB_succ hd
      have hlenI : (keepB (l.take j)).length = i := by rw [← htk, List.length_take]; omega
      have hdp2 : M.drop (j + 1) = l.drop (j + 1) := by
        have q := congrArg (fun x : List Cl => x.drop 1) hdp
        simpa [List.drop_drop, Nat.add_comm] using q
      obtain ⟨r, o, e1, hc⟩ := hC.reads.at' j d hdM
      injection e1 with e1
      injection e1 with e1 e2
      subst e1 e2
      obtain ⟨br, hbr⟩ : ∃ br, br = decide d.isBack := ⟨_, rfl⟩
      have hrr : ∀ w', Calls Tryz.prog 32 #[d.val] w' fun e w'' => e = .returned (.bool br) ∧ Fr (fun _ => False) w' w'' := fun w' => by rw [hbr]; exact t_back d w'
      obtain ⟨dd, hdd⟩ : ∃ dd, dd = d := ⟨_, rfl⟩
      have HKS := Lib.hid (show keepB (l.take (j + 1)) = if br = true then keepB (l.take j) else keepB (l.take j) ++ [dd] by rw [hks, hbr, hdd]; by_cases q : d.isBack <;> simp [q])
      have hiM : i < M.length := by omega
      have hmi := (hC.reads.at' i (M[i]'hiM) (List.getElem?_eq_getElem hiM))
      obtain ⟨r', o', e3, hx⟩ := hmi
      injection e3 with e3
      injection e3 with e3 e4
      subst e3 e4
      obtain ⟨op, ca, cb, csize, cn, csign, cchar, ctext, ccuts, cad, ccap⟩ := d
      have c0 := hc 0 _ rfl
      have c1 := hc 1 _ rfl
      have c2 := hc 2 _ rfl
      have c3 := hc 3 _ rfl
      have c4 := hc 4 _ rfl
      have c5 := hc 5 _ rfl
      have c6 := hc 6 _ rfl
      have c7 := hc 7 _ rfl
      have c8 := hc 8 _ rfl
      simp only [Nat.add_zero, Nat.zero_add] at c0 c1 c2 c3 c4 c5 c6 c7 c8
      have hki : (j : Int) < (l.length : Int) := by omega
      have hk0 : (0 : Int) ≤ (j : Int) := by omega
      have hi0 : (0 : Int) ≤ (i : Int) := by omega
      have hi1 : (i : Int) < (l.length : Int) := by omega
      have hgn : ¬ (g = wr.heap.size) := by have := lt_of_blk hC.blk; omega
      have hgn2 : ¬ (wr.heap.size = g) := by have := lt_of_blk hC.blk; omega
      simp only [Cl.val, Cl.cells] at hrr
      have HRR := Lib.hid hrr
      have HX := Lib.hid hx
      have HDD := Lib.hid hdd
      have HLI := Lib.hid hlenI
      have HDP2 := Lib.hid hdp2
      clear hrr hbr hd hdM hc hx hks hlenI hdp2 htk hdp hC hF hdd
      go_wp2_with fail
      refine (HRR.out _).mono ?_
      rintro e w3 ⟨rfl, F3⟩
      have hb9 := F3.blk (heap_alloc_new wr (.cells #[.int .i64 op, .int .i64 ca, .int .i64 cb, .int .u16 (csize : Int), .int .i64 cn, .int .u8 (csign.toNat : Int), .int .i32 cchar, .string ⟨ctext.toArray⟩, .slice cad ccuts.length ccap] 36)) (fun q => q)
      have F33 := ((Fr.refl (fun _ => False) wr).alloc (.cells #[.int .i64 op, .int .i64 ca, .int .i64 cb, .int .u16 (csize : Int), .int .i64 cn, .int .u8 (csign.toNat : Int), .int .i32 cchar, .string ⟨ctext.toArray⟩, .slice cad ccuts.length ccap] 36)).trans F3
      have HF3 := Lib.hid (HF.out.trans (F33.mono (fun _ _ q => q.elim)))
      have HC3 := Lib.hid (show CutS w3 g l.length cap M rest from ⟨F33.blk HC.out.blk (fun q => q), HC.out.len, HC.out.rl, HC.out.le⟩)
      have HX3 := Lib.hid (fun m u hu => keep1 F33 (HX.out m u hu))
      have HB9 := Lib.hid hb9
      clear F3 F33 hb9 c0 c1 c2 c3 c4 c5 c6 c7 c8
      cases br with
      | true =>
        have hks := HKS.out
        rw [if_pos rfl] at hks
        have HK2 := Lib.hid hks
        clear hks
        go_wp2_with fail
        go_roundw
        case rel =>
          refine ⟨_, _, _, _, _, _, _, _, _, _, _, _, _, _, _, _, _, _, _, _, _, _, _, ?_, rfl⟩
          exact ⟨i, j + 1, M, by omega, by omega, rfl, by go_num, by rw [HK2.out]; exact HTK.out, HDP2.out, HC3.out, HF3.out⟩
        case measure => simp [intOf]; omega
      | false =>
        have hks := HKS.out
        rw [if_neg (by decide)] at hks
        have HK2 := Lib.hid hks
        have d0 : w3.cell? ⟨wr.heap.size, 0, none⟩ = some (.int .i64 op) := by rw [cell_of_row w3 _ 0 _ _ _ HB9.out]; rfl
        have d1 : w3.cell? ⟨wr.heap.size, 1, none⟩ = some (.int .i64 ca) := by rw [cell_of_row w3 _ 1 _ _ _ HB9.out]; rfl
        have d2 : w3.cell? ⟨wr.heap.size, 2, none⟩ = some (.int .i64 cb) := by rw [cell_of_row w3 _ 2 _ _ _ HB9.out]; rfl
        have d3 : w3.cell? ⟨wr.heap.size, 3, none⟩ = some (.int .u16 (csize : Int)) := by rw [cell_of_row w3 _ 3 _ _ _ HB9.out]; rfl
        have d4 : w3.cell? ⟨wr.heap.size, 4, none⟩ = some (.int .i64 cn) := by rw [cell_of_row w3 _ 4 _ _ _ HB9.out]; rfl
        have d5 : w3.cell? ⟨wr.heap.size, 5, none⟩ = some (.int .u8 (csign.toNat : Int)) := by rw [cell_of_row w3 _ 5 _ _ _ HB9.out]; rfl
        have d6 : w3.cell? ⟨wr.heap.size, 6, none⟩ = some (.int .i32 cchar) := by rw [cell_of_row w3 _ 6 _ _ _ HB9.out]; rfl
        have d7 : w3.cell? ⟨wr.heap.size, 7, none⟩ = some (.string ⟨ctext.toArray⟩) := by rw [cell_of_row w3 _ 7 _ _ _ HB9.out]; rfl
        have d8 : w3.cell? ⟨wr.heap.size, 8, none⟩ = some (.slice cad ccuts.length ccap) := by rw [cell_of_row w3 _ 8 _ _ _ HB9.out]; rfl
        have x0 := HX3.out 0 _ rfl
        have x1 := HX3.out 1 _ rfl
        have x2 := HX3.out 2 _ rfl
        have x3 := HX3.out 3 _ rfl
        have x4 := HX3.out 4 _ rfl
        have x5 := HX3.out 5 _ rfl
        have x6 := HX3.out 6 _ rfl
        have x7 := HX3.out 7 _ rfl
        have x8 := HX3.out 8 _ rfl
        simp only [Nat.add_zero, Nat.zero_add] at x0 x1 x2 x3 x4 x5 x6 x7 x8
        have z0 := frozen_row HC3.out.blk (i * 9)
        have z1 := frozen_row HC3.out.blk (i * 9 + 1)
        have z2 := frozen_row HC3.out.blk (i * 9 + 2)
        have z3 := frozen_row HC3.out.blk (i * 9 + 3)
        have z4 := frozen_row HC3.out.blk (i * 9 + 4)
        have z5 := frozen_row HC3.out.blk (i * 9 + 5)
        have z6 := frozen_row HC3.out.blk (i * 9 + 6)
        have z7 := frozen_row HC3.out.blk (i * 9 + 7)
        have z8 := frozen_row HC3.out.blk (i * 9 + 8)
        have hst := store9 (i := i) (d := ⟨op, ca, cb, csize, cn, csign, cchar, ctext, ccuts, cad, ccap⟩) HC3.out.blk (by omega) rfl
        have hfr : Fr (fun x => x = g) w3 _ := fr9 (w := w3) (g := g) (i := i) (v0 := (.int .i64 op)) (v1 := (.int .i64 ca)) (v2 := (.int .i64 cb)) (v3 := (.int .u16 (csize : Int))) (v4 := (.int .i64 cn)) (v5 := (.int .u8 (csign.toNat : Int))) (v6 := (.int .i32 cchar)) (v7 := (.string ⟨ctext.toArray⟩)) (v8 := (.slice cad ccuts.length ccap))
        have HSTO := Lib.hid hst
        have HFRS := Lib.hid (HF3.out.trans hfr)
        clear hks hst hfr
        go_wp2_with fail
        go_roundw
        case rel =>
          refine ⟨_, _, _, _, _, _, _, _, _, _, _, _, _, _, _, _, _, _, _, _, _, _, _, ?_, rfl⟩
          refine ⟨i + 1, j + 1, M.set i dd, by omega, by omega, by go_num, by go_num, ?_, ?_, ⟨?_, by rw [List.length_set]; exact hml, HC3.out.rl, HC3.out.le⟩, HFRS.out⟩
          · rw [HK2.out, ← HTK.out]
            rw [List.take_succ_eq_append_getElem (by rw [List.length_set]; omega), List.getElem_set_self, List.take_set_of_le (Nat.le_refl _)]
          · rw [List.drop_set_of_lt (by omega)]
            exact HDP2.out
          · rw [HDD.out]
            exact HSTO.out
        case measure => simp [intOf]; omega
    · have hkk : j = l.length := by omega
      subst hkk
      rw [List.take_length] at htk
      obtain ⟨Z, hcl⟩ := clear_calls (o := i * 9) (m := l.length - i) (c := cap - i) hC.blk (by omega) (by rw [List.length_append, cls_len, hml, hC.rl]; omega)
      have hsf := fun w' => slice_calls_from g l.length cap i (by omega) (by omega) w'
      have hst := fun w' => slice_calls_to (some ⟨g, 0, none⟩) l.length cap i (by omega) w'
      have hlenI : (keepB l).length = i := by rw [← htk, List.length_take]; omega
      have hbk := setRow_heap wr g _ ((cls M ++ rest).take (i * 9) ++ Z ++ (cls M ++ rest).drop (i * 9 + (l.length - i) * 9)).toArray _ _ hC.blk
      have hrd : Reads Cl.cells 9 (wr.setRow g ((cls M ++ rest).take (i * 9) ++ Z ++ (cls M ++ rest).drop (i * 9 + (l.length - i) * 9)).toArray) (some ⟨g, 0, none⟩) (keepB l) := by
        refine Reads.of_prefix (rest := Z ++ (cls M ++ rest).drop (i * 9 + (l.length - i) * 9)) Cl.cells_len hbk ?_
        rw [← htk]
        have q : (cls M ++ rest).take (i * 9) = cls (M.take i) := by
          have e : cls M = cls (M.take i) ++ cls (M.drop i) := by rw [← cls_append, List.take_append_drop]
          rw [e, List.append_assoc, List.take_left' (by rw [cls_len, List.length_take]; rw [Nat.min_eq_left (by omega)])]
        rw [q]
        simp [cls]
      have HRD := Lib.hid hrd
      have HFE := Lib.hid (show Fr (fun x => x = g) w _ from hF.setRow (fun _ => rfl) ((cls M ++ rest).take (i * 9) ++ Z ++ (cls M ++ rest).drop (i * 9 + (l.length - i) * 9)).toArray)
      have HLI := Lib.hid hlenI
      clear hrd hbk htk hdp hC hF hlenI
      go_wp2_with fail
      go_ret
      exact ⟨cap, by rw [HLI.out]; rfl, by simpa only [List.append_assoc] using HRD.out, by simpa only [List.append_assoc] using HFE.out⟩
theorem delete_none (w : World) : Calls Tryz.prog 55 #[.slice none 0 0, .func (.func 32) #[] #[]] w fun e w' => e = .returned (.slice none 0 0) ∧ Fr (fun _ => False) w w' := by
  go_enter Tryz.func55, Tryz.ntmps55
  go_wp2_with fail
  refine (index_calls none 0 [] w (Reads.nil _ _ _ _) (by simp)).mono ?_
  rintro e w1 ⟨r, rfl, F1, hr⟩
  rcases hr with ⟨rfl, _⟩ | ⟨i0, d0, _, hd0, _⟩
  · have HF := Lib.hid F1
    clear F1
    go_wp2_with fail
    go_ret
    exact ⟨rfl, HF.out⟩
  · simp at hd0
def WithoutPost (w : World) (l : List Cl) (e : Ending) (w' : World) : Prop := ∃ A' c', e = .returned (.slice A' (keepB l).length c') ∧ Reads Cl.cells 9 w' A' (keepB l) ∧ Fr (fun _ => False) w w'
set_option maxHeartbeats 1600000 in
set_option maxRecDepth 100000 in
theorem without_calls (A : Option Addr) (c : Nat) (l : List Cl) (w : World) (hr : Reads Cl.cells 9 w A l) (hn : l.length ≤ 4294967296) (hA : A = none → l = [] ∧ c = 0) :
    Calls Tryz.prog 39 #[.slice A l.length c, .func (.func 32) #[] #[]] w (WithoutPost w l) := by
  have HR := Lib.hid hr
  clear hr
  go_enter Tryz.func39, Tryz.ntmps39
  go_wp2_with fail
  refine (clone_calls A c l w HR.out hn hA).mono ?_
  rintro e w1 ⟨v, rfl, hown, F1⟩
  have HF1 := Lib.hid F1
  have hown2 := hown
  obtain ⟨hlen, hv | ⟨g, cap, cur, rfl, hge, hblk, hle, hmax, hsz, htk⟩⟩ := hown
  · obtain ⟨rfl, hl0⟩ := hv
    obtain rfl : l = [] := List.length_eq_zero_iff.1 hl0
    clear hown2 F1 hlen
    go_wp2_with fail
    refine (delete_none w1).mono ?_
    rintro e w2 ⟨rfl, F2⟩
    have HF2 := Lib.hid (HF1.out.trans F2)
    clear F2
    go_wp2_with fail
    go_ret
    exact ⟨none, 0, rfl, Reads.nil _ _ _ _, HF2.out⟩
  · obtain ⟨rest, hcut⟩ := cut_of_own hown2 rfl
    have HCUT := Lib.hid hcut
    have HGE := Lib.hid hge
    have hcap : cap ≤ 9223372036854775807 := by unfold maxLen at hmax; omega
    clear hown2 F1 hlen hblk hsz htk hcut hge hmax
    go_wp2_with fail
    refine (delete_calls g cap l rest w1 HCUT.out hn hcap).mono ?_
    rintro e w2 ⟨c', rfl, hrd, F2⟩
    have HRD := Lib.hid hrd
    have HF2 := Lib.hid (HF1.out.trans' F2 (fun x hx q => by have := HGE.out; omega))
    clear hrd F2
    go_wp2_with fail
    go_ret
    exact ⟨_, c', rfl, HRD.out, HF2.out⟩
set_option maxHeartbeats 1600000 in
set_option maxRecDepth 100000 in
theorem plain_calls (s : St) (A : Option Addr) (c : Nat) (A' : Option Addr) (c' : Nat) (l : List Cl) (w : World) (hS : Reads St.cells 3 w A [s]) (hr : Reads Cl.cells 9 w A' l) (hn : l.length ≤ 4294967296) (hA : A' = none → l = [] ∧ c' = 0) (hI : InvB (Yd.begin [s] 0) (keepB l)) :
    Calls Tryz.prog 21 #[.slice A 1 c, .int .u8 0, .slice A' l.length c'] w (CalmPost w (calmF (Yd.begin [s] 0) (keepB l))) := by
  have HR := Lib.hid hr
  have HS := Lib.hid hS
  have HI := Lib.hid hI
  have hkl : (keepB l).length ≤ l.length := by unfold keepB; exact List.length_filter_le _ _
  clear hr hS hI
  go_enter Tryz.func21, Tryz.ntmps21
  go_wp2_with fail
  refine (without_calls A' c' l w HR.out hn hA).mono ?_
  rintro e w1 ⟨A2, c2, rfl, hrd, F1⟩
  have hcalm := calm_any InvB stepB [s] 0 A c (keepB l) A2 c2 w1 (HS.out.fr0 F1) (by simp) (by omega) hrd (by omega) HI.out
  have HCALM := Lib.hid hcalm
  have HF1 := Lib.hid F1
  clear hcalm hrd F1
  go_wp2_with fail
  refine HCALM.out.mono ?_
  rintro e w2 ⟨v, rfl, hown, F2⟩
  have HO := Lib.hid (hown.lower (base' := w.heap.size) HF1.out.size)
  have HF2 := Lib.hid (HF1.out.trans F2)
  clear hown F2
  go_wp2_with fail
  go_ret
  exact ⟨_, rfl, HO.out, HF2.out⟩
end Go.Proofs.YtbodbajgpgaoeaaGreatDoor
