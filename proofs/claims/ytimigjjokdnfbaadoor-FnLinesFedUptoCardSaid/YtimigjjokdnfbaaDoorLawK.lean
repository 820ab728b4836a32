/- What the walks of the laws share; laws.ready. -/
import Derived.Test.YtimigjjokdnfbaaDoorEq
namespace Go.Proofs.YtimigjjokdnfbaaDoor
open Go Go.RowKit

/-- It returns true, and leaves all that there was. -/
def LawPost (w : World) (e : Ending) (w' : World) : Prop := e = .returned (.bool true) ∧ Fr (fun _ => False) w w'
theorem elem_call : ElemOk Tryd.prog 23 26 9 88 := by
  obtain ⟨i0, hi, hz0, hz1, hz2⟩ := info_parts (show (Tryd.prog.info? 26).map (fun i => (i.zero, i.size, i.bytes)) = some (some (.agg #[.int .i64 0, .int .i64 0, .int .i64 0, .int .u16 0, .int .i64 0, .int .u8 0, .int .i32 0, .string ⟨#[]⟩, .slice none 0 0]), 9, 88) by kernel_rfl)
  exact ⟨Tryd.underlying23, ⟨i0, _, hi, hz0, hz1, hz2, rfl⟩, by decide, by decide⟩
def cls (l : List Cl) : List Value := l.flatMap Cl.cells
theorem cls_append (l m : List Cl) : cls (l ++ m) = cls l ++ cls m := by simp [cls]
theorem cls_one (c : Cl) : cls [c] = c.cells := by simp [cls]
/-- A slice of calls of the law's own. -/
abbrev OwnC (w : World) (base : Nat) (v : Value) (l : List Cl) : Prop := Own 26 9 w base v l.length (cls l)
theorem Gl.up {base base' : Nat} {ea eu : Addr} {w : World} (h : Gl base ea eu w) (hb : base ≤ base') : Gl base' ea eu w := by
  have hE : ∀ {x : Nat}, (∃ s, ErrBlk w base x s) → ∃ s, ErrBlk w base' x s := fun ⟨s, k⟩ => ⟨s, k.blk, Nat.lt_of_lt_of_le k.lt hb⟩
  exact ⟨h.eof, h.unr, hE h.be, hE h.bu, h.nu, Nat.lt_of_lt_of_le h.e0 hb, Nat.lt_of_lt_of_le h.e2 hb, fun w' k => h.tabs w' fun x hx => k x (Nat.lt_of_lt_of_le hx hb)⟩
theorem OwnC.slice {w : World} {base : Nat} {A : Option Addr} {n c : Nat} {l : List Cl} (h : OwnC w base (.slice A n c) l) : n = l.length ∧ Reads Cl.cells 9 w A l := by
  obtain ⟨A', c', e, _, hr, _⟩ := Own.reads (cells := Cl.cells) Cl.cells_len (by decide) h
  injection e with e1 e2 e3
  subst e1 e2
  exact ⟨rfl, hr⟩
theorem wsum_le (M : Nat) : ∀ l : List Cl, (∀ c ∈ l, c.text.length ≤ M) → wsum l ≤ l.length * (M + 4)
  | [], _ => by simp [wsum]
  | c :: l, h => by
    have := wsum_le M l (fun d hd => h d (by simp [hd]))
    have h1 := h c (by simp)
    rw [wsum_cons, List.length_cons, Nat.succ_mul]
    omega
theorem bytes_appL (a b : List UInt8) : (⟨a.toArray⟩ ++ ⟨b.toArray⟩ : ByteArray) = ⟨(a ++ b).toArray⟩ := by
  apply ByteArray.ext
  simp
theorem elem_start : ElemOk Tryd.prog 33 32 3 32 := by
  obtain ⟨i0, hi, hz0, hz1, hz2⟩ := info_parts (show (Tryd.prog.info? 32).map (fun i => (i.zero, i.size, i.bytes)) = some (some (.agg #[.string ⟨#[]⟩, .int .i64 0, .int .u16 0]), 3, 32) by kernel_rfl)
  exact ⟨Tryd.underlying33, ⟨i0, _, hi, hz0, hz1, hz2, rfl⟩, by decide, by decide⟩
def sts (l : List St) : List Value := l.flatMap St.cells
theorem sts_append (l m : List St) : sts (l ++ m) = sts l ++ sts m := by simp [sts]
theorem sts_one (s : St) : sts [s] = s.cells := by simp [sts]
theorem tds_one (s : Td) : tds [s] = s.cells := by simp [tds]
/-- Slices of different types lie in different blocks. -/
theorem Own.other {E E' : TypeId} {size size' : Nat} {w : World} {base base' : Nat} {v v' : Value} {n n' : Nat} {xs xs' : List Value} (h : Own E size w base v n xs) (h' : Own E' size' w base' v' n' xs') (hne : E ≠ E') (x : Nat) (hx : v.ownBlock = some x) : v'.ownBlock ≠ some x := by
  intro hx'
  exact (h.typed hx).ne hne (h'.typed hx')
/-- What an append does not touch. -/
theorem Own.keep {E' : TypeId} {size' : Nat} {w w2 : World} {o : Obj} {base : Nat} {v v' : Value} {n' : Nat} {xs' : List Value} (h' : Own E' size' w base v' n' xs') (hd : ∀ x, v'.ownBlock = some x → v.ownBlock ≠ some x) (hfr : Fr (fun x => v.ownBlock = some x) (w.alloc o) w2) : Own E' size' w2 base v' n' xs' :=
  h'.fr (((Fr.refl _ w).alloc o).trans hfr) (fun x hx q => hd x hx q)
theorem Own.apart {E' : TypeId} {size' : Nat} {w : World} {base : Nat} {v v' : Value} {n' g m cap : Nat} {xs' : List Value} (h' : Own E' size' w base v' n' xs') (hd : ∀ x, v'.ownBlock = some x → v.ownBlock ≠ some x) (hat : v.ownBlock = some g ∨ w.heap.size + 1 ≤ g) (x : Nat) (hx : v'.ownBlock = some x) : (Value.slice (some ⟨g, 0, none⟩) m cap).ownBlock ≠ some x := by
  intro q
  have e : g = x := by injection q
  subst e
  rcases hat with k | k
  · exact hd g hx k
  · have := h'.blk_lt hx
    omega
theorem Own.grown {E : TypeId} {size : Nat} {w0 w w2 : World} {o : Obj} {v : Value} {n : Nat} {xs : List Value} (h : Own E size w w0.heap.size v n xs) (h0 : Fr (fun _ => False) w0 w) (hfr : Fr (fun x => v.ownBlock = some x) (w.alloc o) w2) : Fr (fun _ => False) w0 w2 :=
  h0.trans' (((Fr.refl _ w).alloc o).trans hfr) (fun x hx q => by have := h.blk_ge q; omega)
theorem Reads.of_block {α : Type} {cells : α → List Value} {size : Nat} (hs : ∀ x, (cells x).length = size) {w : World} {g : Nat} {xs : List α} {T : TypeId} {fz : Nat × Nat} {cs : Array Value} (h : w.heap[g]? = some (.cells cs T fz)) (hc : cs.toList = xs.flatMap cells) : Reads cells size w (some ⟨g, 0, none⟩) xs := by
  refine ⟨fun j x hx => ⟨g, 0, rfl, fun k v hv => ?_⟩⟩
  have e := flat_get cells size hs xs j x k v hx hv
  rw [Nat.zero_add, cell_of_row w g _ _ _ _ h, ← Array.getElem?_toList, hc]
  exact e
theorem Own.readsAt {α : Type} {cells : α → List Value} {size : Nat} (hs : ∀ x, (cells x).length = size) (hp : 0 < size) {E : TypeId} {w : World} {base : Nat} {A : Option Addr} {n c : Nat} {xs : List α} (h : Own E size w base (.slice A n c) n (xs.flatMap cells)) : Reads cells size w A xs := by
  obtain ⟨A', c', e, _, hr, _⟩ := Own.reads (cells := cells) hs hp h
  injection e with e1 e2
  subst e1
  exact hr
theorem Own.readsStrs {E : TypeId} {w : World} {base : Nat} {A : Option Addr} {n c : Nat} {xs : List (List UInt8)} (h : Own E 1 w base (.slice A n c) n (strs xs)) : Reads strC 1 w A xs := by
  rw [strs_flat] at h
  exact Own.readsAt (cells := strC) (fun _ => rfl) (by decide) h

/-- The script that laws.ready plays. -/
def rdyS : List St := [⟨[97, 98], 0, 0⟩]
def rdyC : List Cl := [⟨1, 0, 0, 0, 0, 0, 0, [99], [], none, 0⟩, ⟨7, 0, 0, 2, 0, 0, 0, [], [], none, 0⟩]
theorem rdy_run : (runF (Yd.begin rdyS 0) rdyC).1 = [⟨1, [], 0, 0⟩, ⟨0, [97, 98], 0, 0⟩] ∧ (runF (Yd.begin rdyS 0) rdyC).2.texts = [[99]] := ⟨rfl, rfl⟩
theorem rdy_mild : Mild (Yd.begin rdyS 0) rdyC := ⟨rfl, by decide, rfl, by decide, trivial⟩
theorem rdy_script (w : World) : Script w (Yd.begin rdyS 0) rdyC := by
  have hU : U16s w none [] := ⟨by simp, fun q => absurd q (by simp)⟩
  refine ⟨fun c hc => ?_, fun c hc => ?_, fun c hc => ?_⟩ <;> simp only [rdyC, List.mem_cons, List.not_mem_nil, or_false] at hc <;> rcases hc with rfl | rfl
  · exact ⟨by decide, hU, by decide, by decide⟩
  · exact ⟨by decide, hU, by decide, by decide⟩
  · exact .inl (by decide)
  · exact .inl (by decide)
  · unfold Cl.there
    rw [if_neg (by decide)]
    exact ⟨⟨by decide, by decide⟩, fun q => absurd q (by decide)⟩
  · unfold Cl.there
    rw [if_neg (by decide)]
    exact ⟨⟨by decide, by decide⟩, fun q => absurd q (by decide)⟩
theorem rdy_size : (Yd.begin rdyS 0).tot + wsum rdyC + 66000 ≤ 1099511627776 := by
  have e1 : (Yd.begin rdyS 0).tot = 2 := rfl
  have e2 : wsum rdyC = 9 := rfl
  omega
theorem rdy_any (A A' : Option Addr) (c c' : Nat) (ea eu : Addr) (w : World) (hR : Reads St.cells 3 w A rdyS) (hC : Reads Cl.cells 9 w A' rdyC) (hG : Gl w.heap.size ea eu w) :
    Calls Tryd.prog 5 #[.slice A 1 c, .int .u8 0, .slice A' 2 c'] w fun e w' => ∃ v1 v2 v3, e = .returned (.tuple #[v1, v2, v3]) ∧ Own 35 4 w' w.heap.size v1 2 (tds [⟨1, [], 0, 0⟩, ⟨0, [97, 98], 0, 0⟩]) ∧ Own 9 1 w' w.heap.size v2 1 (strs [[99]]) ∧ Fr (fun _ => False) w w' := by
  have hrun := run_any rdyS 0 A c rdyC A' c' ea eu w hR (fun s hs => by simp [rdyS] at hs; subst hs; simp) (by simp [rdyS]) (by omega) hC (rdy_script w) rdy_mild (fun i s hs => by cases i with | zero => simp [Yd.begin, rdyS] at hs; subst hs; simp | succ i => simp [Yd.begin, rdyS] at hs) (by simp [rdyC]) rdy_size hG
  refine Calls.mono hrun ?_
  rintro e w' ⟨v1, v2, v3, rfl, h1, h2, h3, hf⟩
  rw [rdy_run.1] at h1
  rw [rdy_run.2] at h2
  exact ⟨v1, v2, v3, rfl, h1, h2, hf⟩
set_option maxHeartbeats 800000 in
set_option maxRecDepth 100000 in
theorem ready_any (ea eu : Addr) (w : World) (hG : Gl w.heap.size ea eu w) : Calls Tryd.prog 8 #[] w (LawPost w) := by
  obtain ⟨w2, hw2⟩ : ∃ w2, w2 = (w.alloc (.cells #[.string ⟨#[97, 98]⟩, .int .i64 0, .int .u16 0] 32)).alloc (.cells #[.int .i64 1, .int .i64 0, .int .i64 0, .int .u16 0, .int .i64 0, .int .u8 0, .int .i32 0, .string ⟨#[99]⟩, .slice none 0 0, .int .i64 7, .int .i64 0, .int .i64 0, .int .u16 2, .int .i64 0, .int .u8 0, .int .i32 0, .string ⟨#[]⟩, .slice none 0 0] 26) := ⟨_, rfl⟩
  have hF2 : Fr (fun _ => False) w w2 := by rw [hw2]; exact ((Fr.refl _ w).alloc _).alloc _
  have hr1 : Reads St.cells 3 w2 (some ⟨w.heap.size, 0, none⟩) rdyS := by
    rw [hw2]
    exact Reads.of_block St.cells_len (((Fr.refl (fun _ => False) _).alloc _).blk (heap_alloc_new w _) (fun q => q)) rfl
  have hr2 : Reads Cl.cells 9 w2 (some ⟨w.heap.size + 1, 0, none⟩) rdyC := by
    have hb := heap_alloc_new (w.alloc (.cells #[.string ⟨#[97, 98]⟩, .int .i64 0, .int .u16 0] 32)) (.cells #[.int .i64 1, .int .i64 0, .int .i64 0, .int .u16 0, .int .i64 0, .int .u8 0, .int .i32 0, .string ⟨#[99]⟩, .slice none 0 0, .int .i64 7, .int .i64 0, .int .i64 0, .int .u16 2, .int .i64 0, .int .u8 0, .int .i32 0, .string ⟨#[]⟩, .slice none 0 0] 26)
    rw [← hw2] at hb
    have e : (w.alloc (.cells #[.string ⟨#[97, 98]⟩, .int .i64 0, .int .u16 0] 32)).heap.size = w.heap.size + 1 := by simp
    rw [e] at hb
    exact Reads.of_block Cl.cells_len hb rfl
  have HG2 := Lib.hid ((hG.fr0 (Nat.le_refl _) hF2).up hF2.size)
  have HR1 := Lib.hid hr1
  have HR2 := Lib.hid hr2
  have HF2 := Lib.hid hF2
  have HW2 := Lib.hid hw2
  clear hG hw2 hF2 hr1 hr2
  go_enter Tryd.func8, Tryd.ntmps8
  go_wp2_with fail
  rw [← HW2.out]
  refine (rdy_any _ _ _ _ ea eu w2 HR1.out HR2.out HG2.out).mono ?_
  rintro e w3 ⟨v1, v2, v3, rfl, o1, o2, F3⟩
  obtain ⟨A1, q1, rfl⟩ := o1.value
  obtain ⟨A2, q2, rfl⟩ := o2.value
  have r1 := Own.readsAt Td.cells_len (by decide) o1
  have r2 := Own.readsStrs o2
  obtain ⟨g1, p1, rfl, k1⟩ := r1.at' 1 _ rfl
  obtain ⟨g2, p2, rfl, k2⟩ := r2.at' 0 _ rfl
  have c1 := k1 1 _ rfl
  have c2 := k2 0 _ rfl
  simp only [strV, Nat.add_zero, Nat.zero_mul] at c2
  have HF := Lib.hid (HF2.out.trans F3)
  clear o1 o2 r1 r2 k1 k2 F3
  go_wp2_with fail
  go_ret
  exact ⟨rfl, HF.out⟩
end Go.Proofs.YtimigjjokdnfbaaDoor
