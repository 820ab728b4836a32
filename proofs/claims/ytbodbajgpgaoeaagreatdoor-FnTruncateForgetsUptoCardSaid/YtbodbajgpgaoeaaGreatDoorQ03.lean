/- Begin, App, SourceB, ReadFrom. -/
import Derived.Test.YtbodbajgpgaoeaaGreatDoorQ02
import Derived.Test.YtbodbajgpgaoeaaGreatDoorQ01
import Derived.Deep.AppendLies
import Derived.WalkLawsBesides
import Derived.LaidEql
import Derived.Deep.LoopGhost
namespace Go.Proofs.YtbodbajgpgaoeaaGreatDoor
open Go Go.RowKit

theorem Fresh.weaken {w0 w w' : World} {b : Nat} {g : Gh} (h : Fresh w w' b g) (hf : Fr (fun _ => False) w0 w) : Fresh w0 w' b g :=
  ⟨h.at', Nat.le_trans hf.size h.blk, fun r hr => Nat.le_trans hf.size (h.row r hr), hf.trans h.fr⟩
theorem Fresh.step {w w1 w2 : World} {b : Nat} {g g' : Gh} (h : Fresh w w1 b g) (k : BufStep w1 b g w2 g') : Fresh w w2 b g' := by
  refine ⟨k.at', h.blk, fun r hr => ?_, h.fr.trans' k.fr ?_⟩
  · rcases k.row with e | ⟨r', e, hr'⟩
    · exact h.row r (e ▸ hr)
    · rw [e] at hr
      injection hr with hr
      subst hr
      exact Nat.le_trans h.fr.size hr'
  · intro i hi q
    rcases q with q | q
    · have := h.blk; omega
    · have := h.row i q; omega
theorem Fresh.zero (w0 w : World) (hf : Fr (fun _ => False) w0 w) : Fresh w0 (w.alloc (.cells #[.slice none 0 0, .int .i64 0, .int .i8 0] 96)) w.heap.size ⟨none, [], 0, 0, 0⟩ :=
  ⟨⟨⟨heap_alloc_new w _, (fun _ q => by cases q), (fun _ => rfl), Nat.zero_le _⟩, Nat.zero_le _, Nat.zero_le _⟩, hf.size, (fun _ q => by cases q), hf.alloc _⟩

def startV (text : List UInt8) (way : Int) (space : Nat) : Value := .agg #[.string ⟨text.toArray⟩, .int .i64 way, .int .u16 (space : Int)]
def BeginPost (w : World) (l : List UInt8) (e : Ending) (w' : World) : Prop := ∃ b g, e = .returned (.pointer (some ⟨b, 0, none⟩)) ∧ Fresh w w' b g ∧ g.txt = l ∧ g.lr = 0

set_option maxRecDepth 100000 in
theorem begin_string (text : List UInt8) (way : Int) (space : Nat) (w : World) (hw1 : (way == 1) = false) (hw2 : (way == 2) = false) (hl : text.length ≤ 1099511627776) :
    Calls Tryz.prog 46 #[startV text way space] w (BeginPost w text) := by
  unfold startV
  go_enter Tryz.func46, Tryz.ntmps46
  go_wp2_with fail
  with_reducible refine (newBufferString text _ (by omega)).mono ?_
  rintro e w' ⟨b, g, rfl, F, ht, hr⟩
  have HF := Lib.hid (F.weaken ((Fr.refl _ w).alloc _))
  have HT := Lib.hid ht
  have HR := Lib.hid hr
  clear F ht hr
  go_wp2_with fail
  go_ret
  exact ⟨_, _, rfl, HF.out, HT.out, HR.out⟩

set_option maxRecDepth 100000 in
theorem begin_write (text : List UInt8) (space : Nat) (w : World) (hl : text.length ≤ 1099511627776) :
    Calls Tryz.prog 46 #[startV text 2 space] w (BeginPost w text) := by
  unfold startV
  go_enter Tryz.func46, Tryz.ntmps46
  go_wp2_with fail
  have hz := Fresh.zero w _ ((Fr.refl _ w).alloc (.cells #[.string ⟨text.toArray⟩, .int .i64 2, .int .u16 (space : Int)] 24))
  simp only [World.size_alloc] at hz
  with_reducible refine (bufWS text _ _ _ hz.at' (Src.str _ _) (by simpa [Gh.txt] using hl) (fun _ _ _ => Src.str _ _)).mono ?_
  rintro e w' ⟨g, rfl, S, W⟩
  have HF := Lib.hid (hz.step S)
  have HT := Lib.hid W.txt
  have HR := Lib.hid W.lr
  clear S W hz
  go_wp2_with fail
  go_ret
  exact ⟨_, _, rfl, HF.out, by simpa [Gh.txt] using HT.out, HR.out⟩

set_option maxHeartbeats 800000 in
set_option maxRecDepth 100000 in
theorem begin_slice (text : List UInt8) (space : Nat) (w : World) (hl : text.length ≤ 1099511627776) (hs : space ≤ 65535) :
    Calls Tryz.prog 46 #[startV text 1 space] w (BeginPost w text) := by
  unfold startV
  have hmk := fun w' => mk_bytes 0 (text.length + space) (Nat.zero_le _) (by omega) w'
  simp only [Int.cast_ofNat_Int, Int.natCast_add] at hmk
  have hwr : IntKind.i64.wrap ((text.length : Int) + (space : Int)) = (text.length : Int) + (space : Int) := IntWalk.i64_in _ (by omega)
  have hcv : IntKind.i64.wrap (space : Int) = (space : Int) := IntWalk.i64_in _ (by omega)
  obtain ⟨i0, hi, hz0, hz1, hz2⟩ := info_parts info_u8
  have hW := Row.zrow (w.alloc (.cells #[.string ⟨text.toArray⟩, .int .i64 1, .int .u16 (space : Int)] 24)) 5 (text.length + space)
  have hF0 : Fr (fun _ => False) w (((w.alloc (.cells #[.string ⟨text.toArray⟩, .int .i64 1, .int .u16 (space : Int)] 24)).alloc (zrow 5 (text.length + space))).drew) := (((Fr.refl _ w).alloc _).alloc _).drew
  simp only [World.size_alloc] at hW
  obtain ⟨fz, hW1, hW2⟩ := hW.drew
  obtain ⟨w2, happ, hcell, hfr2⟩ := run_append_fit (P := Tryz.prog) (dT := 40) (xT := 9) (ty := 40) (o := 0) (n := 0) (c := text.length + space) (D := some ⟨w.heap.size + 1, 0, none⟩) Tryz.underlying40 Tryz.underlying9 (fun _ => by simp) hi hz1 hW1 (Src.str _ text) (by omega) (fun _ => rfl) (by simp) (fun j h1 h2 => by simp at hW2; omega)
  have hrow2 : Row 5 w2 (w.heap.size + 1) (splice (List.replicate (text.length + space) 0) 0 text) := ⟨fz, by simpa using hcell, by rw [length_splice _ _ _ (by simp)]; exact hW2⟩
  have hfr3 : Fr (fun _ => False) w w2 := hF0.trans' hfr2 (fun i hi q => by unfold Just at q; omega)
  obtain ⟨all, hall⟩ : ∃ all, all = splice (List.replicate (text.length + space) (0 : UInt8)) 0 text := ⟨_, rfl⟩
  rw [← hall] at hrow2
  have hlen : all.length = text.length + space := by rw [hall, length_splice _ _ _ (by simp)]; simp
  have hS : (w2.cell? ⟨w.heap.size, 0, none⟩ = some (.string ⟨text.toArray⟩) ∧ w2.cell? ⟨w.heap.size, 2, none⟩ = some (.int .u16 (space : Int))) := by
    have e0 := hfr2.cell (p := ⟨w.heap.size, 0, none⟩) (by simp; omega) (fun q => by unfold Just at q; simp at q)
    have e2 := hfr2.cell (p := ⟨w.heap.size, 2, none⟩) (by simp; omega) (fun q => by unfold Just at q; simp at q)
    rw [e0, e2]
    constructor <;> simp
  obtain ⟨hS1, hS2⟩ := hS
  have hsz2 : w.heap.size < w2.heap.size := World.block_lt_of_cell? _ _ hS1
  have HR := Lib.hid hrow2
  have HF := Lib.hid hfr3
  have HA := Lib.hid hall
  have HL := Lib.hid hlen
  rw [Nat.zero_add] at happ
  clear hW hF0 hW1 hW2 hcell hfr2 hrow2 hfr3 hall hlen
  go_enter Tryz.func46, Tryz.ntmps46
  go_wp2_with fail
  go_region_held3 (fun w' => w'.cell? ⟨w.heap.size, 0, none⟩ = some (.string ⟨text.toArray⟩) ∧ w'.cell? ⟨w.heap.size, 2, none⟩ = some (.int .u16 (space : Int))) (go_keep) (first | (refine step_of_wp rfl (wp_append_of_run (.tmp 15) (.tmp 17) _ _ rfl rfl rfl happ ?_)) | (go_at_call 62; refine (newBuffer _ _ _ all _ w HR.out HL.out (by omega) (by rw [HL.out]; omega) (by rw [HL.out]; omega) HF.out).mono ?_; rintro e w3 ⟨b, rfl, F3, G3⟩; have k1 := (G3.cell (p := ⟨w.heap.size, 0, none⟩) hsz2 (fun q => q)).trans hS1; have k2 := (G3.cell (p := ⟨w.heap.size, 2, none⟩) hsz2 (fun q => q)).trans hS2; have HF3 := Lib.hid F3; clear F3 G3))
  go_wp2_with fail
  go_ret
  refine ⟨_, _, rfl, HF3.out, ?_, rfl⟩
  simp only [Gh.txt, List.drop_zero]
  rw [HA.out]
  exact splice_take_head _ _ rfl
end Go.Proofs.YtbodbajgpgaoeaaGreatDoor

namespace Go.Proofs.YtbodbajgpgaoeaaGreatDoor
open Go Go.RowKit

/-- What is known of a slice type T of elements E, so many cells and bytes each. -/
structure ElemOk (P : Program) (T E : TypeId) (size bytes : Nat) : Prop where
  ht : P.underlying T = some (.slice E)
  ex : ∃ i z, P.info? E = some i ∧ i.zero = some z ∧ i.size = size ∧ i.bytes = bytes ∧ z.cells.size = size
  pos : 0 < size
  few : bytes ≤ 4096

/-- The value v holds a slice of the call's own, its elements' cells xs. -/
abbrev Own (E : TypeId) (size : Nat) (w : World) (base : Nat) (v : Value) (n : Nat) (xs : List Value) : Prop := w.ownsRow base E size v n xs

section
variable {P : Program} {w : World} {ops : Array Oper} {rest : List Oper} {o : Oper} {a : Act} {K : Act → World → Prop} {Q : Exit → Act → World → Prop} {T E : TypeId} {size bytes : Nat}

theorem wp_app (ok : ElemOk P T E size bytes) (s x : Operand) (ho : o.op = .call { callee := .builtin .append, args := #[s, x], argTypes := #[T, T] })
    (base : Nat) (v : Value) (n : Nat) (xs : List Value) (hs : a.eval s = v) (hown : Own E size w base v n xs) (H : Nat) (cs : List Value) (E' : TypeId) (hx : a.eval x = .slice (some ⟨H, 0, none⟩) 1 1)
    (hb : w.heap[H]? = some (.cells cs.toArray E' (0, 0))) (hcs : cs.length = size) (h1 : ∀ u ∈ cs, u.oneCell' = true) (hn : n ≤ 8589934592) (hbase : base ≤ w.heap.size)
    (h : ∀ g cap w', Own E size w' base (.slice (some ⟨g, 0, none⟩) (n + 1) cap) (n + 1) (xs ++ cs) → Fr (fun x => v.ownBlock = some x) w w' → (v.ownBlock = some g ∨ w.heap.size ≤ g) → g < w'.heap.size → K (a.put o.dst (.slice (some ⟨g, 0, none⟩) (n + 1) cap)) w') :
    o.wp P a w K Q := by
  obtain ⟨i, z, hi, hz, h2, h3, h4⟩ := ok.ex
  have hfew := ok.few
  have hbytes : (n + 1) * bytes ≤ 140737488355328 := by
    have : (n + 1) * bytes ≤ 8589934593 * 4096 := Nat.mul_le_mul (by omega) hfew
    omega
  refine wp_append_lies w s x T ho base E i z size bytes ok.ht hi hz h2 h3 h4 ok.pos v n xs hs hown ⟨H, 0, none⟩ 1 1 cs hx (by omega) (World.news_of_block (cs := cs.toArray) hb) h1 (by omega) (by unfold maxLen; omega) hbytes hbase w.heap.size rfl ?_
  intro g cap w' k1 k2 k3 k4
  exact h g cap w' k1 (Fr.of_grown k2 fun _ q => q) (k3.imp id (fun q => by omega)) k4

theorem wpList_app (hgd : o.guard = none) (ok : ElemOk P T E size bytes) (s x : Operand) (ho : o.op = .call { callee := .builtin .append, args := #[s, x], argTypes := #[T, T] })
    (base : Nat) (v : Value) (n : Nat) (xs : List Value) (hs : a.eval s = v) (hown : Own E size w base v n xs) (H : Nat) (cs : List Value) (E' : TypeId) (hx : a.eval x = .slice (some ⟨H, 0, none⟩) 1 1)
    (hb : w.heap[H]? = some (.cells cs.toArray E' (0, 0))) (hcs : cs.length = size) (h1 : ∀ u ∈ cs, u.oneCell' = true) (hn : n ≤ 8589934592) (hbase : base ≤ w.heap.size)
    (h : ∀ g cap w', Own E size w' base (.slice (some ⟨g, 0, none⟩) (n + 1) cap) (n + 1) (xs ++ cs) → Fr (fun x => v.ownBlock = some x) w w' → (v.ownBlock = some g ∨ w.heap.size ≤ g) → g < w'.heap.size → wpList P ops Q rest (a.put o.dst (.slice (some ⟨g, 0, none⟩) (n + 1) cap)) w') :
    wpList P ops Q (o :: rest) a w :=
  wpList_plain hgd fun _ hK => wp_app ok s x ho base v n xs hs hown H cs E' hx hb hcs h1 hn hbase fun g cap w' k1 k2 k3 k4 => hK _ _ (h g cap w' k1 k2 k3 k4)

theorem step_app {E0 : Prop} (hgd : o.guard = none) (ok : ElemOk P T E size bytes) (s x : Operand) (ho : o.op = .call { callee := .builtin .append, args := #[s, x], argTypes := #[T, T] })
    (base : Nat) (v : Value) (n : Nat) (xs : List Value) (hs : a.eval s = v) (hown : Own E size w base v n xs) (H : Nat) (cs : List Value) (E' : TypeId) (hx : a.eval x = .slice (some ⟨H, 0, none⟩) 1 1)
    (hb : w.heap[H]? = some (.cells cs.toArray E' (0, 0))) (hcs : cs.length = size) (h1 : ∀ u ∈ cs, u.oneCell' = true) (hn : n ≤ 8589934592) (hbase : base ≤ w.heap.size)
    (h : ∀ g cap w', Own E size w' base (.slice (some ⟨g, 0, none⟩) (n + 1) cap) (n + 1) (xs ++ cs) → Fr (fun x => v.ownBlock = some x) w w' → (v.ownBlock = some g ∨ w.heap.size ≤ g) → g < w'.heap.size → K (a.put o.dst (.slice (some ⟨g, 0, none⟩) (n + 1) cap)) w') :
    if Region.wanted o (yielded ops a.tmps) = true then Oper.wp P o a w K Q else E0 :=
  step_of_wp hgd (wp_app ok s x ho base v n xs hs hown H cs E' hx hb hcs h1 hn hbase h)
end

section
variable {E : TypeId} {size : Nat} {w w' : World} {base : Nat} {v : Value} {n : Nat} {xs : List Value}
theorem Own.nil (E : TypeId) (size : Nat) (w : World) (base : Nat) : Own E size w base (.slice none 0 0) 0 [] := World.ownsRow_nil _ _ _ _
theorem Own.len (h : Own E size w base v n xs) : xs.length = n * size := h.1
theorem Own.of_block (h : Own E size w base v n xs) (hb : ∀ g, v.ownBlock = some g → w'.heap[g]? = w.heap[g]?) : Own E size w' base v n xs := by
  refine ⟨h.1, ?_⟩
  rcases h.2 with h | ⟨g, cap, cur, rfl, h1, h2, h3⟩
  · exact .inl h
  · exact .inr ⟨g, cap, cur, rfl, h1, (hb g rfl).trans h2, h3⟩
theorem Own.blk_lt (h : Own E size w base v n xs) {g : Nat} (hg : v.ownBlock = some g) : g < w.heap.size := by
  rcases h.2 with ⟨rfl, _⟩ | ⟨g', cap, cur, rfl, _, h2, _⟩
  · cases hg
  · injection hg with hg
    subst hg
    exact lt_of_blk h2
theorem Own.blk_ge (h : Own E size w base v n xs) {g : Nat} (hg : v.ownBlock = some g) : base ≤ g := by
  rcases h.2 with ⟨rfl, _⟩ | ⟨g', cap, cur, rfl, h1, h2, _⟩
  · cases hg
  · injection hg with hg
    subst hg
    exact h1
theorem Own.fr {S : Nat → Prop} (h : Own E size w base v n xs) (hf : Fr S w w') (hn : ∀ g, v.ownBlock = some g → ¬ S g) : Own E size w' base v n xs :=
  h.of_block fun g hg => hf.block g (h.blk_lt hg) (hn g hg)
theorem Own.value (h : Own E size w base v n xs) : ∃ A cap, v = .slice A n cap := by
  rcases h.2 with ⟨rfl, rfl⟩ | ⟨g', cap, cur, rfl, _⟩
  · exact ⟨_, _, rfl⟩
  · exact ⟨_, _, rfl⟩
/-- The block's element type: blocks of another type are apart. -/
theorem Own.ne_blk {b : Nat} {T : TypeId} {cs : Array Value} {fz : Nat × Nat} (h : Own E size w base v n xs) (hb : w.heap[b]? = some (.cells cs T fz)) (hne : T ≠ E) {g : Nat} (hg : v.ownBlock = some g) : g ≠ b := by
  rintro rfl
  rcases h.2 with ⟨rfl, _⟩ | ⟨g', cap, cur, rfl, _, h2, _⟩
  · cases hg
  · injection hg with hg
    subst hg
    rw [hb] at h2
    injection h2 with h2
    injection h2 with _ h2
    exact hne h2
end
end Go.Proofs.YtbodbajgpgaoeaaGreatDoor

namespace Go.Proofs.YtbodbajgpgaoeaaGreatDoor
open Go Go.RowKit

/-- The first pieces of a text, and what is left. -/
def cutAll : List UInt8 → List Nat → List (List UInt8) × List UInt8
  | s, [] => ([], s)
  | s, c :: cs => (s.take c :: (cutAll (s.drop c) cs).1, (cutAll (s.drop c) cs).2)
def piecesF (s : List UInt8) (cuts : List Nat) : List (List UInt8) := (cutAll s cuts).1 ++ if (cutAll s cuts).2 = [] then [] else [(cutAll s cuts).2]
theorem cutAll_snoc (c : Nat) : ∀ (ks : List Nat) (s : List UInt8), cutAll s (ks ++ [c]) = ((cutAll s ks).1 ++ [(cutAll s ks).2.take c], (cutAll s ks).2.drop c)
  | [], s => rfl
  | k :: ks, s => by simp [cutAll, cutAll_snoc c ks]
theorem cutAll_flat : ∀ (ks : List Nat) (s : List UInt8), (cutAll s ks).1.flatten ++ (cutAll s ks).2 = s
  | [], s => rfl
  | k :: ks, s => by simp [cutAll, List.append_assoc, cutAll_flat ks, List.take_append_drop]
theorem piecesF_flat (s : List UInt8) (ks : List Nat) : (piecesF s ks).flatten = s := by
  have := cutAll_flat ks s
  unfold piecesF
  by_cases h : (cutAll s ks).2 = []
  · rw [h] at this; simp [h] at this ⊢; exact this
  · simp [h]; exact this
theorem cutAll_len : ∀ (ks : List Nat) (s : List UInt8), (cutAll s ks).1.length = ks.length
  | [], s => rfl
  | k :: ks, s => by simp [cutAll, cutAll_len ks]
theorem cutAll_rest_le : ∀ (ks : List Nat) (s : List UInt8), (cutAll s ks).2.length ≤ s.length
  | [], s => Nat.le_refl _
  | k :: ks, s => by
    have := cutAll_rest_le ks (s.drop k)
    simp only [cutAll]
    simp at this
    omega

theorem ext_take (l : List UInt8) (m : Nat) : ByteArray.extract ⟨l.toArray⟩ 0 m = ⟨(l.take m).toArray⟩ := by
  apply ByteArray.ext
  simp [ByteArray.data_extract]
theorem ext_drop (l : List UInt8) (m : Nat) : ByteArray.extract ⟨l.toArray⟩ m l.length = ⟨(l.drop m).toArray⟩ := by
  apply ByteArray.ext
  simp [ByteArray.data_extract]
  exact List.take_of_length_le (by simp)

def strV (s : List UInt8) : Value := .string ⟨s.toArray⟩
def strs (l : List (List UInt8)) : List Value := l.map strV
@[simp] theorem strs_length (l : List (List UInt8)) : (strs l).length = l.length := by simp [strs]
theorem strs_append (l m : List (List UInt8)) : strs (l ++ m) = strs l ++ strs m := by simp [strs]

/-- A slice of uint16 that reads as ks. -/
structure U16s (w : World) (A : Option Addr) (ks : List Nat) : Prop where
  few : ∀ x ∈ ks, x ≤ 65535
  cell : 0 < ks.length → ∃ r o, A = some ⟨r, o, none⟩ ∧ ∀ j (h : j < ks.length), w.cell? ⟨r, o + j, none⟩ = some (.int .u16 (ks[j] : Int))
theorem U16s.fr {S : Nat → Prop} {w w' : World} {A : Option Addr} {ks : List Nat} (h : U16s w A ks) (hf : Fr S w w') (hn : ∀ r o, A = some ⟨r, o, none⟩ → ¬ S r) : U16s w' A ks := by
  refine ⟨h.few, fun q => ?_⟩
  obtain ⟨r, o, rfl, hc⟩ := h.cell q
  exact ⟨r, o, rfl, fun j hj => (hf.cell (World.block_lt_of_cell? _ _ (hc j hj)) (hn r o rfl)).trans (hc j hj)⟩

theorem elem_string : ElemOk Tryz.prog 30 9 1 16 := by
  obtain ⟨i0, hi, hz0, hz1, hz2⟩ := info_parts (show (Tryz.prog.info? 9).map (fun i => (i.zero, i.size, i.bytes)) = some (some (.string ⟨#[]⟩), 1, 16) by kernel_rfl)
  exact ⟨Tryz.underlying30, ⟨i0, _, hi, hz0, hz1, hz2, rfl⟩, by decide, by decide⟩

def PiecesPost (w : World) (ps : List (List UInt8)) (e : Ending) (w' : World) : Prop :=
  ∃ v, e = .returned v ∧ Own 9 1 w' w.heap.size v ps.length (strs ps) ∧ Fr (fun _ => False) w w'

/-- What holds at the head of a round. -/
structure PiecesInv (w : World) (s : List UInt8) (cuts : List Nat) (k : Nat) (v : Value) (wr : World) : Prop where
  own : Own 9 1 wr w.heap.size v k (strs (cutAll s (cuts.take k)).1)
  fr : Fr (fun _ => False) w wr

set_option maxHeartbeats 1600000 in
set_option maxRecDepth 100000 in
theorem pieces_any (s : List UInt8) (cuts : List Nat) (A : Option Addr) (c : Nat) (w : World) (hA : U16s w A cuts) (_hs : s.length ≤ 1099511627776) (hc : cuts.length ≤ 4294967296) :
    Calls Tryz.prog 88 #[.string ⟨s.toArray⟩, .slice A cuts.length c] w (PiecesPost w (piecesF s cuts)) := by
  have HA := Lib.hid hA
  clear hA
  go_enter Tryz.func88, Tryz.ntmps88
  go_wp2_with fail
  go_loopw [0, 5, 11] (fun sv v i wr => ∃ k : Nat, k ≤ cuts.length ∧ i = .int .i64 (k : Int) ∧ sv = .string ⟨(cutAll s (cuts.take k)).2.toArray⟩ ∧ PiecesInv w s cuts k v wr) (fun _ _ i _ => cuts.length - (intOf i).toNat)
  case atStart => exact ⟨0, Nat.zero_le _, rfl, rfl, ⟨Own.nil _ _ _ _, Fr.refl _ _⟩⟩
  case round =>
    obtain ⟨k, hk, rfl, rfl, hI⟩ := hrel
    by_cases hlt : k < cuts.length
    · obtain ⟨r, o, rfl, hcell⟩ := HA.out.cell (by omega)
      have hc1 : wr.cell? ⟨r, o + k, none⟩ = some (.int .u16 (cuts[k] : Int)) := (hI.fr.cell (World.block_lt_of_cell? _ _ (hcell k hlt)) (fun q => q)).trans (hcell k hlt)
      have hfew := HA.out.few cuts[k] (List.getElem_mem _)
      have hrl := cutAll_rest_le (cuts.take k) s
      generalize hrest : (cutAll s (cuts.take k)).2 = rest at *
      generalize hcut : cuts[k] = ck at *
      have HR := Lib.hid hrest
      have HCK := Lib.hid hcut
      clear hrest hcut hcell
      obtain ⟨m, hm⟩ : ∃ m, m = min ck rest.length := ⟨_, rfl⟩
      have hmin : min (ck : Int) (rest.length : Int) = (m : Int) := by omega
      have hml : m ≤ rest.length := by omega
      have hmi : (m : Int) ≤ (rest.length : Int) := by omega
      have hm0 : (0 : Int) ≤ (m : Int) := by omega
      have HM := Lib.hid hm
      have hx1 := ext_take rest m
      have hx2 := ext_drop rest m
      clear hm
      go_wp2_with fail
      go_region_held3 (fun _ => True) (trivial) ((refine step_app rfl elem_string (.tmp 20) (.tmp 24) rfl w.heap.size _ k _ (by rfl) (hI.own.fr (((Fr.refl (fun _ => False) wr).alloc _).drew) (fun _ _ q => q)) wr.heap.size [strV (rest.take m)] 9 (by rfl) (by exact heap_alloc_new wr _) rfl (by simp [strV, Value.oneCell']) (by omega) (by have := hI.fr.size; simp; omega) ?_; intro gb cap w1 hown hfr hat hlt1))
      have R : PiecesInv w s cuts (k + 1) (.slice (some ⟨gb, 0, none⟩) (k + 1) cap) w1 ∧ (cutAll s (cuts.take (k + 1))).2 = rest.drop m := by
        have e := cutAll_snoc cuts[k] (cuts.take k) s
        rw [← List.take_succ_eq_append_getElem hlt, HR.out, HCK.out] at e
        have e1 : rest.take ck = rest.take m := by rw [HM.out, ← List.take_eq_take_min]
        have e2 : rest.drop ck = rest.drop m := by rw [HM.out]; rcases Nat.le_total ck rest.length with h | h; rw [Nat.min_eq_left h]; rw [Nat.min_eq_right h, List.drop_of_length_le h, List.drop_length]
        rw [e, e1, e2]
        refine ⟨⟨?_, (hI.fr.alloc _).drew.trans' hfr ?_⟩, rfl⟩
        · rw [e, e1]
          simpa [strs] using hown
        · intro i hi q
          have := hI.own.blk_ge q
          omega
      obtain ⟨R1, R2⟩ := R
      have HR1 := Lib.hid R1
      have HR2 := Lib.hid R2
      clear R1 R2 hown hfr hat hI
      go_wp2_with fail
      go_roundw
      case rel => exact ⟨k + 1, by omega, by go_num, by rw [HR2.out], HR1.out⟩
      case measure => simp [intOf]; omega
    · have hkk : cuts.take k = cuts := List.take_of_length_le (by omega)
      have hq : piecesF s cuts = (cutAll s (cuts.take k)).1 ++ if (cutAll s (cuts.take k)).2 = [] then [] else [(cutAll s (cuts.take k)).2] := by rw [hkk]; rfl
      have hql : (cutAll s (cuts.take k)).1.length = k := by rw [cutAll_len]; simp; omega
      have hIo := hI.own
      have hIf := hI.fr
      obtain ⟨A5, cap5, rfl⟩ := hIo.value
      generalize cutAll s (cuts.take k) = q at *
      obtain ⟨q1, q2⟩ := q
      have HO := Lib.hid hIo
      have HQ := Lib.hid hq
      have HL := Lib.hid hql
      clear hIo hI hq hql hkk
      by_cases hr : q2 = []
      · subst hr
        go_wp2_with fail
        go_ret
        refine ⟨_, rfl, ?_, hIf⟩
        rw [HQ.out]
        simpa [HL.out] using HO.out
      · have hb1 : (!q2.isEmpty) = true := by simp [hr]
        have hb2 : q2.isEmpty = false := by simp [hr]
        have HRR := Lib.hid hr
        clear hr
        go_wp2_with (refine wpList_app rfl elem_string (.tmp 32) (.tmp 34) rfl w.heap.size _ k _ (by rfl) (HO.out.fr ((Fr.refl (fun _ => False) wr).alloc _) (fun _ _ q => q)) wr.heap.size [strV q2] 9 (by rfl) (by exact heap_alloc_new wr _) rfl (by simp [strV, Value.oneCell']) (by omega) (by have := hIf.size; simp; omega) ?_)
        intro gb cap w1 hown hfr hat hlt1
        have HO1 := Lib.hid hown
        have HF1 := Lib.hid ((hIf.alloc _).trans' hfr (fun i hi q => by have := HO.out.blk_ge q; omega))
        clear hown hfr hat
        go_wp2_with fail
        go_ret
        refine ⟨_, rfl, ?_, HF1.out⟩
        rw [HQ.out, if_neg HRR.out]
        simpa [HL.out, strs] using HO1.out
end Go.Proofs.YtbodbajgpgaoeaaGreatDoor

namespace Go.Proofs.YtbodbajgpgaoeaaGreatDoor
open Go Go.RowKit

theorem elem_int : ElemOk Tryz.prog 133 3 1 8 := by
  obtain ⟨i0, hi, hz0, hz1, hz2⟩ := info_parts (show (Tryz.prog.info? 3).map (fun i => (i.zero, i.size, i.bytes)) = some (some (.int .i64 0), 1, 8) by kernel_rfl)
  exact ⟨Tryz.underlying133, ⟨i0, _, hi, hz0, hz1, hz2, rfl⟩, by decide, by decide⟩
def intV (n : Nat) : Value := .int .i64 (n : Int)
def ints' (l : List Nat) : List Value := l.map intV

/-- The strings ps lie in a row from its place o on. -/
def StrRow (w : World) (base : Nat) (A : Option Addr) (ps : List (List UInt8)) : Prop :=
  ps ≠ [] → ∃ r o cur, A = some ⟨r, o, none⟩ ∧ base ≤ r ∧ w.heap[r]? = some (.cells cur 9 (0, 0)) ∧ ∀ (j : Nat) p, ps[j]? = some p → cur[o + j]? = some (strV p)
/-- A reader of pieces: its struct's three cells, what they hold. -/
structure SrcC (w : World) (sb base : Nat) (A : Option Addr) (c : Nat) (v : Value) (ps : List (List UInt8)) (fl : Bool) (ak : List Nat) : Prop where
  bb : base ≤ sb
  st : w.heap[sb]? = some (.cells #[.slice A ps.length c, .bool fl, v] 135 (0, 0))
  row : StrRow w base A ps
  len : ps.length ≤ c
  own : Own 3 1 w base v ak.length (ints' ak)
def SrcAt (w : World) (sb base : Nat) (ps : List (List UInt8)) (fl : Bool) (ak : List Nat) : Prop := ∃ A c v, SrcC w sb base A c v ps fl ak

/-- A block of elements T. -/
def Typed (w : World) (x : Nat) (T : TypeId) : Prop := ∃ cs fz, w.heap[x]? = some (.cells cs T fz)
/-- What a reader may write: blocks that are young and no rows of bytes. -/
def srcS (w : World) (base : Nat) (x : Nat) : Prop := base ≤ x ∧ ¬ Typed w x 5
theorem Typed.ne {w : World} {x : Nat} {T T' : TypeId} (h : Typed w x T) (hne : T ≠ T') : ¬ Typed w x T' := by
  rintro ⟨cs', fz', k⟩
  obtain ⟨cs, fz, h⟩ := h
  rw [h] at k
  injection k with k
  injection k with _ k
  exact hne k

section
variable {w w' : World} {sb base : Nat} {A : Option Addr} {c : Nat} {v : Value} {ps : List (List UInt8)} {fl : Bool} {ak : List Nat}
theorem SrcC.lt (h : SrcC w sb base A c v ps fl ak) : sb < w.heap.size := lt_of_blk h.st
theorem SrcC.c0 (h : SrcC w sb base A c v ps fl ak) : w.cell? ⟨sb, 0, none⟩ = some (.slice A ps.length c) := by rw [cell_of_row w sb 0 _ _ _ h.st]; rfl
theorem SrcC.c1 (h : SrcC w sb base A c v ps fl ak) : w.cell? ⟨sb, 1, none⟩ = some (.bool fl) := by rw [cell_of_row w sb 1 _ _ _ h.st]; rfl
theorem SrcC.c2 (h : SrcC w sb base A c v ps fl ak) : w.cell? ⟨sb, 2, none⟩ = some v := by rw [cell_of_row w sb 2 _ _ _ h.st]; rfl
theorem SrcC.f (h : SrcC w sb base A c v ps fl ak) (i : Nat) : w.frozen? ⟨sb, i, none⟩ = false := by simp [World.frozen?, h.st]
theorem StrRow.fr {S : Nat → Prop} (h : StrRow w base A ps) (hf : Fr S w w') (hn : ∀ x, S x → ¬ Typed w x 9 ∨ ¬ base ≤ x) : StrRow w' base A ps := by
  intro q
  obtain ⟨r, o, cur, rfl, h1, h2, h3⟩ := h q
  refine ⟨r, o, cur, rfl, h1, hf.blk h2 (fun k => ?_), h3⟩
  rcases hn r k with k | k
  · exact k ⟨_, _, h2⟩
  · exact k h1
theorem SrcC.fr {S : Nat → Prop} (h : SrcC w sb base A c v ps fl ak) (hf : Fr S w w') (hn : ∀ x, S x → base ≤ x → Typed w x 5) : SrcC w' sb base A c v ps fl ak := by
  refine ⟨h.bb, hf.blk h.st (fun k => ?_), h.row.fr hf (fun x k => ?_), h.len, h.own.fr hf (fun g hg k => ?_)⟩
  · exact (Typed.ne ⟨_, _, h.st⟩ (by decide)) (hn _ k h.bb)
  · rcases Nat.lt_or_ge x base with q | q
    · exact .inr (by omega)
    · exact .inl ((hn x k q).ne (by decide))
  · obtain ⟨cs, fz, k2⟩ := hn g k (h.own.blk_ge hg)
    exact h.own.ne_blk k2 (by decide) hg rfl
theorem SrcC.st_own (h : SrcC w sb base A c v ps fl ak) (hf : Fr (fun x => v.ownBlock = some x) w w') : w'.heap[sb]? = some (.cells #[.slice A ps.length c, .bool fl, v] 135 (0, 0)) :=
  hf.blk h.st (fun k => h.own.ne_blk h.st (by decide) k rfl)
/-- The numbers' slice laid anew. -/
theorem SrcC.put2 {v' : Value} {ak' : List Nat} (h : SrcC w sb base A c v ps fl ak) (hf : Fr (fun x => v.ownBlock = some x) w w') (hown : Own 3 1 w' base v' ak'.length (ints' ak')) :
    SrcC (w'.setCell ⟨sb, 2, none⟩ v') sb base A c v' ps fl ak' := by
  have hne : ∀ g, v.ownBlock = some g → g ≠ sb := fun g hg => h.own.ne_blk h.st (by decide) hg
  have hst : w'.heap[sb]? = _ := hf.blk h.st (fun k => hne sb k rfl)
  refine ⟨h.bb, ?_, ?_, h.len, ?_⟩
  · simp [World.setCell, Array.getElem?_modify, hst]
  · have h1 : StrRow w' base A ps := h.row.fr hf (fun x k => .inl fun ⟨cs, fz, q⟩ => h.own.ne_blk q (by decide) k rfl)
    exact h1.fr ((Fr.refl (Just sb) w').setCell (fun _ => just_self sb) _) (fun x k => .inl (by rw [k]; exact Typed.ne ⟨_, _, hst⟩ (by decide)))
  · exact hown.fr ((Fr.refl (Just sb) w').setCell (fun _ => just_self sb) _) (fun g hg k => by
      have := hown.ne_blk hst (by decide) hg
      exact this k)
end

/-- An error of errors.New's make. -/
abbrev errV (a : Addr) : Value := .iface 161 (.pointer (some a))

set_option maxHeartbeats 1600000 in
set_option maxRecDepth 100000 in
/-- There is nothing to read: io.EOF. -/
theorem source_end (sb base : Nat) (ak : List Nat) (A : Option Addr) (n c : Nat) (ea : Addr) (w : World) (h : SrcAt w sb base [] false ak) (he : w.cell? ⟨0, 0, none⟩ = some (errV ea)) (hak : ak.length ≤ 4294967296) (hb : base ≤ w.heap.size) (_hn : n ≤ 9223372036854775807)
    (hsb : 0 < base) :
    Calls Tryz.prog 136 #[.pointer (some ⟨sb, 0, none⟩), .slice A n c] w fun e w' => e = .returned (.tuple #[.int .i64 0, errV ea]) ∧ SrcAt w' sb base [] false (ak ++ [n]) ∧ Fr (srcS w base) w w' := by
  obtain ⟨A0, c0, v0, hC⟩ := h
  have k0 := hC.c0; have k1 := hC.c1; have k2 := hC.c2; have f2 := hC.f 2
  have hlt := hC.lt
  simp only [List.length_nil] at k0
  have H := Lib.hid hC
  have HN : w.heap.size ≠ sb := by omega
  clear hC
  go_enter Tryz.func136, Tryz.ntmps136
  go_wp2_with (refine wpList_app rfl elem_int (.tmp 11) (.tmp 14) rfl base _ ak.length _ (by rfl) (H.out.own.fr ((Fr.refl (fun _ => False) w).alloc _) (fun _ _ q => q)) w.heap.size [intV n] 3 (by rfl) (by exact heap_alloc_new w _) rfl (by simp [intV, Value.oneCell']) (by omega) (by simp; omega) ?_)
  intro gb cap w1 hown hfr hat hlt1
  have hC1 := H.out.fr ((Fr.refl (fun _ => False) w).alloc (.cells #[intV n] 3)) (fun _ q => q.elim)
  have hst1 := hC1.st_own hfr
  have k2' : w1.cell? ⟨sb, 2, none⟩ = some v0 := by rw [cell_of_row w1 sb 2 _ _ _ hst1]; rfl
  have f2' : w1.frozen? ⟨sb, 2, none⟩ = false := by simp [World.frozen?, hst1]
  have hC2 := hC1.put2 (ak' := ak ++ [n]) hfr (by simpa [ints'] using hown)
  have HC2 := Lib.hid hC2
  have HO := H.out.own
  have hF2 : Fr (srcS w base) w (w1.setCell ⟨sb, 2, none⟩ (.slice (some ⟨gb, 0, none⟩) (ak.length + 1) cap)) := by
    refine Fr.setCell (((Fr.refl _ w).alloc _).trans' hfr ?_) (fun _ => ⟨H.out.bb, Typed.ne ⟨_, _, H.out.st⟩ (by decide)⟩) _
    intro i hi q
    exact ⟨HO.blk_ge q, fun ⟨cs, fz, k⟩ => HO.ne_blk k (by decide) q rfl⟩
  have hE2 : (w1.setCell ⟨sb, 2, none⟩ (.slice (some ⟨gb, 0, none⟩) (ak.length + 1) cap)).cell? ⟨0, 0, none⟩ = some (errV ea) := (hF2.cell (World.block_lt_of_cell? _ _ he) (fun q => by have := q.1; simp at this; omega)).trans he
  have q0 := hC2.c0
  have q1 := hC2.c1
  have HF2 := Lib.hid hF2
  simp only [List.length_nil] at q0
  clear hC1 hst1 hC2 hF2 HO hown hfr hat k0 k1 k2 f2 he
  generalize hw2 : w1.setCell ⟨sb, 2, none⟩ (.slice (some ⟨gb, 0, none⟩) (ak.length + 1) cap) = w2 at *
  go_wp2_with fail
  go_quiet (fail)
  go_wp2_with fail
  go_ret2
  exact ⟨rfl, ⟨_, _, _, HC2.out.fr ((Fr.refl (fun _ => False) w2).drewN _) (fun _ q => q.elim)⟩, HF2.out.drewN _⟩
end Go.Proofs.YtbodbajgpgaoeaaGreatDoor

namespace Go.Proofs.YtbodbajgpgaoeaaGreatDoor
open Go Go.RowKit

section
variable {w w' : World} {sb base : Nat} {A : Option Addr} {c : Nat} {v : Value} {p q : List UInt8} {rest : List (List UInt8)} {fl : Bool} {ak : List Nat}
theorem SrcC.drew {ps : List (List UInt8)} (h : SrcC w sb base A c v ps fl ak) : SrcC w.drew sb base A c v ps fl ak := h.fr ((Fr.refl (fun _ => False) w).drew) (fun _ (q : False) => q.elim)
/-- Where the first piece lies. -/
theorem SrcC.first (h : SrcC w sb base A c v (p :: rest) fl ak) : ∃ r o, A = some ⟨r, o, none⟩ ∧ base ≤ r ∧ w.cell? ⟨r, o, none⟩ = some (strV p) ∧ w.frozen? ⟨r, o, none⟩ = false ∧ Typed w r 9 := by
  obtain ⟨r, o, cur, rfl, h1, h2, h3⟩ := h.row (by simp)
  refine ⟨r, o, rfl, h1, ?_, by simp [World.frozen?, h2], ⟨_, _, h2⟩⟩
  have := h3 0 p rfl
  rw [cell_of_row w r o _ _ _ h2]
  simpa using this
theorem SrcC.putStr {r o : Nat} (h : SrcC w sb base (some ⟨r, o, none⟩) c v (p :: rest) fl ak) : SrcC (w.setCell ⟨r, o, none⟩ (strV q)) sb base (some ⟨r, o, none⟩) c v (q :: rest) fl ak := by
  obtain ⟨r', o', cur, e, h1, h2, h3⟩ := h.row (by simp)
  injection e with e
  injection e with e1 e2 e3
  subst e1 e2
  have hne : sb ≠ r := by
    rintro rfl
    have := h.st
    rw [h2] at this
    injection this with this
    injection this with _ this
    exact absurd this (by decide)
  have hfr : Fr (Just r) w (w.setCell ⟨r, o, none⟩ (strV q)) := (Fr.refl _ w).setCell (fun _ => just_self r) _
  refine ⟨h.bb, hfr.blk h.st (fun k => hne k), fun _ => ⟨r, o, cur.setIfInBounds o (strV q), rfl, h1, ?_, ?_⟩, h.len, h.own.fr hfr (fun g hg k => h.own.ne_blk h2 (by decide) hg k)⟩
  · simp [World.setCell, Array.getElem?_modify, h2]
  · intro j x hx
    cases j with
    | zero =>
      simp only [List.getElem?_cons_zero, Option.some.injEq] at hx
      subst hx
      have := h3 0 p rfl
      have hlt : o < cur.size := (Array.getElem?_eq_some_iff.1 this).1
      simp [hlt]
    | succ j =>
      have := h3 (j + 1) x (by simpa using hx)
      rw [Array.getElem?_setIfInBounds_ne (by omega)]
      exact this
theorem SrcC.tail {r o : Nat} {A' : Option Addr} (h : SrcC w sb base (some ⟨r, o, none⟩) c v (p :: rest) fl ak) (hA : ¬ c = 1 → A' = some ⟨r, o + 1, none⟩) : SrcC (w.setCell ⟨sb, 0, none⟩ (.slice A' rest.length (c - 1))) sb base A' (c - 1) v rest fl ak := by
  have hfr : Fr (Just sb) w (w.setCell ⟨sb, 0, none⟩ (.slice A' rest.length (c - 1))) := (Fr.refl _ w).setCell (fun _ => just_self sb) _
  have hlen := h.len
  simp only [List.length_cons] at hlen
  refine ⟨h.bb, ?_, fun hne => ?_, by omega, h.own.fr hfr (fun g hg k => h.own.ne_blk h.st (by decide) hg k)⟩
  · have := h.st
    simp [World.setCell, Array.getElem?_modify, this]
  · obtain ⟨r', o', cur, e, h1, h2, h3⟩ := h.row (by simp)
    injection e with e
    injection e with e1 e2 e3
    subst e1 e2
    have : 0 < rest.length := List.length_pos_iff.2 hne
    refine ⟨r, o + 1, cur, hA (by omega), h1, hfr.blk h2 (fun k => ?_), fun j x hx => ?_⟩
    · have k : r = sb := k
      subst k
      have := h.st
      rw [h2] at this
      injection this with this
      injection this with _ this
      exact absurd this (by decide)
    · have := h3 (j + 1) x (by simpa using hx)
      rwa [show o + 1 + j = o + (j + 1) by omega]
end

/-- What is left of the pieces behind a read into n bytes. -/
def psNext (p : List UInt8) (rest : List (List UInt8)) (n : Nat) : List (List UInt8) := if p.length ≤ n then rest else p.drop n :: rest
def SourcePost (w : World) (sb base : Nat) (p : List UInt8) (rest : List (List UInt8)) (fl : Bool) (ak : List Nat) (r off n : Nat) (all : List UInt8) (e : Ending) (w' : World) : Prop :=
  e = .returned (.tuple #[.int .i64 ((min p.length n : Nat) : Int), .nilIface]) ∧ SrcAt w' sb base (psNext p rest n) fl (ak ++ [n]) ∧ Row 5 w' r (splice all off (p.take n)) ∧ Fr (fun x => x = r ∨ srcS w base x) w w'

set_option maxHeartbeats 1600000 in
set_option maxRecDepth 100000 in
theorem source_some (sb base : Nat) (p : List UInt8) (rest : List (List UInt8)) (fl : Bool) (ak : List Nat) (r off n c : Nat) (all : List UInt8) (w : World) (h : SrcAt w sb base (p :: rest) fl ak) (hrow : Row 5 w r all) (hfit : off + n ≤ all.length)
    (hak : ak.length ≤ 4294967296) (hb : base ≤ w.heap.size) (_hn : n ≤ 9223372036854775807) (_hp : p.length ≤ 1099511627776) (hrl : rest.length ≤ 4294967296) :
    Calls Tryz.prog 136 #[.pointer (some ⟨sb, 0, none⟩), .slice (some ⟨r, off, none⟩) n c] w (SourcePost w sb base p rest fl ak r off n all) := by
  obtain ⟨A0, c0, v0, hC⟩ := h
  have k0 := hC.c0; have k1 := hC.c1; have k2 := hC.c2; have f2 := hC.f 2
  have hlt := hC.lt
  simp only [List.length_cons] at k0
  have H := Lib.hid hC
  have HR := Lib.hid hrow
  have HN : w.heap.size ≠ sb := by omega
  have hclen := hC.len
  simp only [List.length_cons] at hclen
  clear hC hrow
  go_enter Tryz.func136, Tryz.ntmps136
  go_wp2_with (refine wpList_app rfl elem_int (.tmp 11) (.tmp 14) rfl base _ ak.length _ (by rfl) (H.out.own.fr ((Fr.refl (fun _ => False) w).alloc _) (fun _ _ q => q)) w.heap.size [intV n] 3 (by rfl) (by exact heap_alloc_new w _) rfl (by simp [intV, Value.oneCell']) (by omega) (by simp; omega) ?_)
  intro gb cap w1 hown hfr hat hlt1
  have hC1 := H.out.fr ((Fr.refl (fun _ => False) w).alloc (.cells #[intV n] 3)) (fun _ q => q.elim)
  have hst1 := hC1.st_own hfr
  have k2' : w1.cell? ⟨sb, 2, none⟩ = some v0 := by rw [cell_of_row w1 sb 2 _ _ _ hst1]; rfl
  have f2' : w1.frozen? ⟨sb, 2, none⟩ = false := by simp [World.frozen?, hst1]
  have hC2 := hC1.put2 (ak' := ak ++ [n]) hfr (by simpa [ints'] using hown)
  have HO := H.out.own
  have hF2 : Fr (srcS w base) w (w1.setCell ⟨sb, 2, none⟩ (.slice (some ⟨gb, 0, none⟩) (ak.length + 1) cap)) := by
    refine Fr.setCell (((Fr.refl _ w).alloc _).trans' hfr ?_) (fun _ => ⟨H.out.bb, Typed.ne ⟨_, _, H.out.st⟩ (by decide)⟩) _
    intro i hi q
    exact ⟨HO.blk_ge q, fun ⟨cs, fz, k⟩ => HO.ne_blk k (by decide) q rfl⟩
  have hR2 : Row 5 (w1.setCell ⟨sb, 2, none⟩ (.slice (some ⟨gb, 0, none⟩) (ak.length + 1) cap)) r all := HR.out.fr hF2 (fun q => q.2 (by obtain ⟨fz, h1, _⟩ := HR.out; exact ⟨_, _, h1⟩))
  generalize hw2 : w1.setCell ⟨sb, 2, none⟩ (.slice (some ⟨gb, 0, none⟩) (ak.length + 1) cap) = w2 at *
  obtain ⟨r0, o0, rfl, hr0, hcell0, hfro0, hty0⟩ := hC2.first
  have q0 := hC2.c0
  have HC2 := Lib.hid hC2
  have HF2 := Lib.hid hF2
  have HR2 := Lib.hid hR2
  simp only [List.length_cons] at q0
  unfold strV at hcell0
  clear hC1 hst1 hC2 hF2 HO hown hfr hat k0 k1 k2 f2 hR2 hty0 hfro0
  obtain ⟨m, hm⟩ : ∃ m, Nat.min p.length n = m := ⟨_, rfl⟩
  have hm' : min p.length n = m := hm
  have hmp : m ≤ p.length := by omega
  have hmn : m ≤ n := by omega
  have hmi : (m : Int) ≤ (p.length : Int) := by omega
  have hm0 : (0 : Int) ≤ (m : Int) := by omega
  have HM := Lib.hid hm
  have HM' := Lib.hid hm'
  have hx2 := ext_drop p m
  clear hm hm'
  go_wp2_with (refine wpList_copy8 rfl (.tmp 30) (.tmp 36) _ rfl r off n c m all p _ _ (by rfl) (by rfl) HR2.out (Src.str _ p) HM.out (fun _ => rfl) (by omega) ?_)
  intro w3 hrow3 hfr3
  have hC3 := HC2.out.fr hfr3 (fun x k _ => by have k : x = r := k; subst k; obtain ⟨fz, h1, _⟩ := HR2.out; exact ⟨_, _, h1⟩)
  have hC4 := hC3.putStr (q := p.drop m)
  obtain ⟨r0', o0', e0, hr0', hcell3, hfro3, hty3⟩ := hC3.first
  injection e0 with e0
  injection e0 with e1 e2 e3
  subst e1 e2
  have q3 := hC3.c0
  simp only [List.length_cons] at q3
  unfold strV at hcell3
  have hF4 : Fr (fun x => x = r ∨ srcS w base x) w (w3.setCell ⟨r0, o0, none⟩ (strV (p.drop m))) := by
    have g1 : Fr (fun x => x = r ∨ srcS w base x) w w3 := (HF2.out.mono (fun i _ q => .inr q)).trans' hfr3 (fun i _ q => .inl q)
    refine g1.setCell (fun hlt => .inr ⟨hr0, ?_⟩) _
    obtain ⟨r1, o1, e1, _, _, _, hty1⟩ := H.out.first
    injection e1 with e1
    injection e1 with e1
    subst e1
    exact hty1.ne (by decide)
  have hR4 : Row 5 (w3.setCell ⟨r0, o0, none⟩ (strV (p.drop m))) r (splice all off (p.take m)) := hrow3.setCell_far (fun e => by have e : r = r0 := e; subst e; obtain ⟨fz, h1, _⟩ := hrow3; exact hty3.ne (by decide) ⟨_, _, h1⟩) _
  unfold strV at hC4 hF4 hR4
  generalize hw4 : w3.setCell ⟨r0, o0, none⟩ (.string ⟨(p.drop m).toArray⟩) = w4 at *
  have HC4 := Lib.hid hC4
  have HF4 := Lib.hid hF4
  have HR4 := Lib.hid hR4
  have p4 := hC4.c0
  obtain ⟨r0', o0', e0, _, hcell4, hfro4, _⟩ := hC4.first
  injection e0 with e0
  injection e0 with e1 e2 e3
  subst e1 e2
  have f40 := hC4.f 0
  unfold strV at hcell4
  simp only [List.length_cons] at p4
  clear hC3 hC4 hF4 hR4 hrow3 hfr3 hcell0 q0 hty3 hr0'
  go_wp2_with fail
  refine wp_region_mixed 13 (by kernel_rfl) (by kernel_rfl) (fun _ _ d _ _ h => by cases d <;> exact h) ?_
  simp only [List.take_succ_cons, List.take_zero, List.drop_succ_cons, List.drop_zero, List.filter_cons, List.filter_nil, isMv, Array.isEmpty_iff, Bool.not_false, Bool.and_true, Option.isNone_none, if_true, if_false, Bool.false_eq_true]
  repeat still_step
  refine wpStill_nil ?_
  have hfin : ∀ w', SrcAt w' sb base (psNext p rest n) fl (ak ++ [n]) → Fr (Just sb) w4 w' → SourcePost w sb base p rest fl ak r off n all (.returned (.tuple #[.int .i64 (m : Int), .nilIface])) w' := by
    intro w' g1 g2
    have e1 : p.take m = p.take n := by rw [← HM'.out, Nat.min_comm, ← List.take_eq_take_min]
    refine ⟨by rw [HM'.out], g1, ?_, HF4.out.trans' g2 (fun i _ q => .inr ?_)⟩
    · rw [← e1]
      exact HR4.out.fr g2 (fun q => HR4.out.ne_blk HC4.out.st (by decide) q)
    · have q : i = sb := q
      subst q
      exact ⟨H.out.bb, Typed.ne ⟨_, _, H.out.st⟩ (by decide)⟩
  have HFIN := Lib.hid hfin
  clear hfin
  by_cases hpe : p.length ≤ n
  · have hb1 : (p.drop m).isEmpty = true := by have := HM'.out; simp; omega
    have hnx : Hid (psNext p rest n = rest) := by unfold psNext; exact if_pos hpe
    by_cases hc1 : c0 = 1
    · subst hc1
      obtain rfl : rest = [] := List.eq_nil_of_length_eq_zero (by omega)
      simp only [List.length_nil] at p4 q3
      go_wp2_with fail
      go_ret2
      refine HFIN.out _ ?_ (((Fr.refl _ w4).setCell (fun _ => just_self sb) _).drew)
      rw [hnx.out]
      exact ⟨_, _, _, (HC4.out.tail (A' := some ⟨r0, o0, none⟩) (fun q => absurd rfl q)).drew⟩
    · go_wp2_with fail
      go_ret2
      refine HFIN.out _ ?_ (((Fr.refl _ w4).setCell (fun _ => just_self sb) _).drew)
      rw [hnx.out]
      exact ⟨_, _, _, (HC4.out.tail (fun q => rfl)).drew⟩
  · have hb1 : (p.drop m).isEmpty = false := by have := HM'.out; simp; omega
    have hnx := Lib.hid (show psNext p rest n = p.drop m :: rest by unfold psNext; rw [if_neg hpe, show m = n by have := HM'.out; omega])
    go_wp2_with fail
    go_ret2
    refine HFIN.out _ ?_ ((Fr.refl _ w4).drew)
    rw [hnx.out]
    exact ⟨_, _, _, HC4.out.drew⟩
end Go.Proofs.YtbodbajgpgaoeaaGreatDoor

namespace Go.Proofs.YtbodbajgpgaoeaaGreatDoor
open Go Go.RowKit

theorem err_comp : (Tryz.prog.info? 161).map (·.comparable) = some true := by kernel_rfl
theorem err_size : (Tryz.prog.info? 163).map (·.size) = some 1 := by kernel_rfl
theorem err_same (a : Addr) (w : World) : (binOp .eql 104 (errV a) (errV a)).run Tryz.prog w = .ok (.bool true) w := by
  obtain ⟨i, hi, hcmp⟩ := Option.map_eq_some_iff.1 err_comp
  obtain ⟨j, hj, hjs⟩ := Option.map_eq_some_iff.1 err_size
  exact run_eql_iface_ptr_same (P := Tryz.prog) w a Tryz.underlying104 Tryz.underlying161 hi hcmp hj
theorem err_nil (a : Addr) (w : World) : (binOp .eql 104 .nilIface (errV a)).run Tryz.prog w = .ok (.bool false) w :=
  run_eql_iface_nil_left (P := Tryz.prog) w _ _ Tryz.underlying104
theorem guard_nil (x y : Operand) (b : Addr) (w : World) : (eqGuard .eql 104 x y .nilIface (errV b)).run Tryz.prog w = .ok () w := by kernel_rfl
/-- The reader's method. -/
theorem nil_src (a : Addr) (w : World) : (nilAhead 307 131 (.pointer (some a)) "Read").run Tryz.prog w = .ok (some false) w := by kernel_rfl
theorem method_src (a : Addr) (w : World) : (method 307 131 (.pointer (some a)) "Read").run Tryz.prog w = .ok (136, .pointer (some a)) w := by kernel_rfl

/-- A buffer goes on from g to g'; blocks of S may be written besides. -/
structure BufGo (S : Nat → Prop) (w : World) (b : Nat) (g : Gh) (w' : World) (g' : Gh) : Prop where
  at' : BufAt w' b g'
  row : g'.row = g.row ∨ ∃ r, g'.row = some r ∧ w.heap.size ≤ r
  fr : Fr (fun x => g.foot b x ∨ S x) w w'
theorem BufGo.of_step {S : Nat → Prop} {w w' : World} {b : Nat} {g g' : Gh} (h : BufStep w b g w' g') : BufGo S w b g w' g' := ⟨h.at', h.row, h.fr.mono fun _ _ q => .inl q⟩
theorem BufGo.trans {S S' : Nat → Prop} {w w1 w2 : World} {b : Nat} {g g1 g2 : Gh} (h : BufGo S w b g w1 g1) (k : BufGo S' w1 b g1 w2 g2) (hS : ∀ x, x < w.heap.size → S' x → g.foot b x ∨ S x) : BufGo S w b g w2 g2 := by
  refine ⟨k.at', ?_, h.fr.trans' k.fr ?_⟩
  · rcases k.row with e | ⟨r, e, hr⟩
    · rcases h.row with e' | ⟨r, e', hr⟩
      · exact .inl (e.trans e')
      · exact .inr ⟨r, e.trans e', hr⟩
    · exact .inr ⟨r, e, Nat.le_trans h.fr.size hr⟩
  · intro i hi q
    rcases q with q | q
    · rcases q with q | q
      · exact .inl (.inl q)
      · rcases h.row with e' | ⟨r, e', hr⟩
        · exact .inl (.inr (e' ▸ q))
        · rw [e'] at q
          injection q with q
          omega
    · exact hS i hi q

/-- A variable that holds an error lies outside of a buffer. -/
theorem BufAt.ne_err {w : World} {b x : Nat} {g : Gh} {a : Addr} (h : BufAt w b g) (hx : w.cell? ⟨x, 0, none⟩ = some (errV a)) : ¬ g.foot b x := by
  rintro (rfl | hr)
  · rw [h.c0] at hx
    injection hx with hx
    cases hx
  · obtain ⟨fz, h1, _⟩ := h.row x hr
    rw [cell_of_row w x 0 _ _ _ h1] at hx
    cases hl : g.all with
    | nil => rw [hl] at hx; simp [bcs] at hx
    | cons y l =>
      rw [hl] at hx
      simp only [bcs, List.map_cons, List.getElem?_toArray, List.getElem?_cons_zero, Option.some.injEq] at hx
      cases hx
theorem SrcAt.fr {S : Nat → Prop} {w w' : World} {sb base : Nat} {ps : List (List UInt8)} {fl : Bool} {ak : List Nat} (h : SrcAt w sb base ps fl ak) (hf : Fr S w w') (hn : ∀ x, S x → base ≤ x → Typed w x 5) : SrcAt w' sb base ps fl ak := by
  obtain ⟨A, c, v, h⟩ := h
  exact ⟨A, c, v, h.fr hf hn⟩
theorem BufAt.foot_u8 {w : World} {b x base : Nat} {g : Gh} (h : BufAt w b g) (hb : b < base) (hx : g.foot b x) (hbx : base ≤ x) : Typed w x 5 := by
  rcases hx with rfl | hr
  · omega
  · obtain ⟨fz, h1, _⟩ := h.row x hr
    exact ⟨_, _, h1⟩
theorem BufAt.src_apart {w : World} {b base x : Nat} {g : Gh} (h : BufAt w b g) (hb : b < base) (hx : g.foot b x) : ¬ srcS w base x := fun q => q.2 (h.foot_u8 hb hx q.1)

/-- How many bytes pieces have together. -/
def tot (ps : List (List UInt8)) : Nat := ps.flatten.length
theorem tot_nil : tot [] = 0 := rfl
theorem tot_cons (p : List UInt8) (ps : List (List UInt8)) : tot (p :: ps) = p.length + tot ps := by simp [tot]
theorem tot_next (p : List UInt8) (rest : List (List UInt8)) (n : Nat) : tot (psNext p rest n) + min p.length n = tot (p :: rest) := by
  unfold psNext
  split
  · rw [tot_cons]; omega
  · rw [tot_cons, tot_cons]; simp; omega
theorem flat_next (p : List UInt8) (rest : List (List UInt8)) (n : Nat) : p.take n ++ (psNext p rest n).flatten = (p :: rest).flatten := by
  unfold psNext
  split
  · rw [List.take_of_length_le (by omega)]; rfl
  · simp only [List.flatten_cons]; rw [← List.append_assoc, List.take_append_drop]
theorem meas_next (p : List UInt8) (rest : List (List UInt8)) (n : Nat) (hn : 0 < n) : tot (psNext p rest n) + (psNext p rest n).length < tot (p :: rest) + (p :: rest).length := by
  have := tot_next p rest n
  unfold psNext at *
  split
  · rename_i h; rw [if_pos h] at this; simp only [List.length_cons]; omega
  · rename_i h; rw [if_neg h] at this; simp only [List.length_cons] at *; omega
/-- How far ReadFrom has come. -/
structure RF (w0 : World) (b : Nat) (g0 : Gh) (sb base : Nat) (ps0 : List (List UInt8)) (fl : Bool) (wr : World) (cnt : Nat) (g : Gh) (ps : List (List UInt8)) (ak : List Nat) : Prop where
  go : BufGo (srcS w0 base) w0 b g0 wr g
  lr : g.lr = 0
  txt : g.txt ++ ps.flatten = g0.txt ++ ps0.flatten
  src : SrcAt wr sb base ps fl ak
  min : ∀ n ∈ ak, 512 ≤ n
  cnt : cnt + tot ps = tot ps0
  few : ak.length + (tot ps + ps.length) ≤ tot ps0 + ps0.length
  cap : g0.len + tot ps0 + 512 ≤ g0.all.length → g.all.length = g0.all.length ∧ g.len + tot ps + 512 ≤ g.all.length

def RFPost (w0 : World) (b : Nat) (g0 : Gh) (sb base : Nat) (ps0 : List (List UInt8)) (fl : Bool) (ev : Value) (e : Ending) (w' : World) : Prop :=
  ∃ g ak, e = .returned (.tuple #[.int .i64 (tot ps0 : Int), ev]) ∧ BufGo (srcS w0 base) w0 b g0 w' g ∧ g.lr = 0 ∧ g.txt = g0.txt ++ ps0.flatten ∧ SrcAt w' sb base [] fl ak ∧ (∀ n ∈ ak, 512 ≤ n) ∧ ak ≠ [] ∧
    (g0.len + tot ps0 + 512 ≤ g0.all.length → g.all.length = g0.all.length)

theorem srcS_back {F : Nat → Prop} {w0 w : World} {base : Nat} (hf : Fr (fun x => F x ∨ srcS w0 base x) w0 w) (x : Nat) (hx : x < w0.heap.size) (h : srcS w base x) : F x ∨ srcS w0 base x := by
  by_cases hF : F x
  · exact .inl hF
  · refine .inr ⟨h.1, fun ht => ?_⟩
    have hn : ¬ (F x ∨ srcS w0 base x) := fun q => q.elim hF (fun q => q.2 ht)
    obtain ⟨cs, fz, k⟩ := ht
    exact h.2 ⟨cs, fz, (hf.block x hx hn).trans k⟩
theorem BufStep.drew {w w' : World} {b : Nat} {g g' : Gh} (h : BufStep w b g w' g') : BufStep w b g w'.drew g' := ⟨h.at'.drew, h.row, h.fr.drew⟩
theorem BufGo.step {S : Nat → Prop} {w w1 w2 : World} {b : Nat} {g g1 g2 : Gh} (h : BufGo S w b g w1 g1) (k : BufStep w1 b g1 w2 g2) : BufGo S w b g w2 g2 :=
  h.trans (S' := fun _ => False) (BufGo.of_step k) (fun _ _ q => q.elim)
theorem BufGo.src {base : Nat} {w w1 w2 : World} {b : Nat} {g g1 g2 : Gh} (h : BufGo (srcS w base) w b g w1 g1) (k : BufGo (srcS w1 base) w1 b g1 w2 g2) : BufGo (srcS w base) w b g w2 g2 :=
  h.trans k (fun x hx q => srcS_back h.fr x hx q)

theorem BufRaw.putAllS {S : Nat → Prop} {w w' : World} {b r : Nat} {g : Gh} {l : List UInt8} (h : BufRaw w b g) (hr : g.row = some r) (hf : Fr S w w') (hb : ¬ S b) (hrow : Row 5 w' r l) (hl : l.length = g.all.length) : BufRaw w' b { g with all := l } := by
  refine ⟨?_, fun r' hr' => ?_, fun q => ?_, by rw [hl]; exact h.sz⟩
  · simp only [hl]
    exact hf.blk h.st hb
  · simp only [hr, Option.some.injEq] at hr'
    subst hr'
    exact hrow
  · simp only [hr] at q
    cases q

/-- The last round: the reader says io.EOF. -/
theorem rf_end {w0 : World} {b : Nat} {g0 : Gh} {sb base : Nat} {ps0 : List (List UInt8)} {fl : Bool} {wr w2 w3 w4 : World} {cnt : Nat} {g g1 : Gh} {ak : List Nat} {i : Nat} {ev : Value}
    (hI : RF w0 b g0 sb base ps0 fl wr cnt g [] ak) (hG : Grown g 512 i g1) (hl : g1.len ≤ g1.all.length) (hS2 : BufStep wr b g w2 { g1 with len := i }) (hS3 : SrcAt w3 sb base [] fl (ak ++ [g1.all.length - i])) (hF3 : Fr (srcS w2.drew base) w2.drew w3) (hB3 : BufAt w3 b { g1 with len := i })
    (hB4 : BufRaw w4 b { g1 with len := i }) (hF4 : Fr (Just b) w3 w4) (hb : b < base) : RFPost w0 b g0 sb base ps0 fl ev (.returned (.tuple #[.int .i64 (cnt : Int), ev])) w4 := by
  have hcnt' : cnt = tot ps0 := by have := hI.cnt; rw [tot_nil] at this; omega
  have hlen := hG.len
  have hA4 : BufAt w4 b { g1 with len := i } := ⟨hB4, hG.off, by simp only; omega⟩
  refine ⟨{ g1 with len := i }, ak ++ [g1.all.length - i], by rw [hcnt'], ?_, ?_, ?_, ?_, ?_, by simp, ?_⟩
  · exact ((hI.go.step hS2.drew).src ⟨hB3, .inl rfl, hF3.mono fun _ _ q => .inr q⟩).step (BufStep.of_just hA4 rfl hF4)
  · rcases hG.lr with e | e
    · simp only at e ⊢; rw [e]; exact hI.lr
    · exact e
  · have h1 := hG.txt
    have h2 := hI.txt
    simp only [List.flatten_nil, List.append_nil] at h2
    rw [← h2, ← h1]
    rfl
  · exact hS3.fr hF4 (fun x q k => by have q : x = b := q; omega)
  · intro x hx
    rcases List.mem_append.1 hx with hx | hx
    · exact hI.min x hx
    · simp at hx; omega
  · intro q
    have h1 := hI.cap q
    rw [tot_nil] at h1
    have h3 := hG.cap (by omega)
    simp only
    omega
/-- A round that reads of a piece. -/
theorem rf_step {w0 : World} {b : Nat} {g0 : Gh} {sb base : Nat} {ps0 rest : List (List UInt8)} {p : List UInt8} {fl : Bool} {wr w2 w3 w4 : World} {cnt : Nat} {g g1 : Gh} {ak : List Nat} {i r : Nat}
    (hI : RF w0 b g0 sb base ps0 fl wr cnt g (p :: rest) ak) (hG : Grown g 512 i g1) (hl : g1.len ≤ g1.all.length) (hr : g1.row = some r) (hS2 : BufStep wr b g w2 { g1 with len := i })
    (hS3 : SrcAt w3 sb base (psNext p rest (g1.all.length - i)) fl (ak ++ [g1.all.length - i])) (hF3 : Fr (fun x => x = r ∨ srcS w2.drew base x) w2.drew w3) (hB3 : BufAt w3 b { g1 with len := i, all := splice g1.all i (p.take (g1.all.length - i)) })
    (hB4 : BufRaw w4 b { g1 with len := i + min p.length (g1.all.length - i), all := splice g1.all i (p.take (g1.all.length - i)) }) (hF4 : Fr (Just b) w3 w4) (hb : b < base) :
    ∃ g', RF w0 b g0 sb base ps0 fl w4 (cnt + min p.length (g1.all.length - i)) g' (psNext p rest (g1.all.length - i)) (ak ++ [g1.all.length - i]) := by
  have hlen := hG.len
  have htk : (p.take (g1.all.length - i)).length = min p.length (g1.all.length - i) := by rw [List.length_take, Nat.min_comm]
  have hsl : (splice g1.all i (p.take (g1.all.length - i))).length = g1.all.length := length_splice _ _ _ (by rw [htk]; omega)
  have hA4 : BufAt w4 b { g1 with len := i + min p.length (g1.all.length - i), all := splice g1.all i (p.take (g1.all.length - i)) } := ⟨hB4, Nat.le_trans hG.off (Nat.le_add_right _ _), by simp only; rw [hsl]; omega⟩
  have hm := meas_next p rest (g1.all.length - i) (by omega)
  have ht := tot_next p rest (g1.all.length - i)
  refine ⟨{ g1 with len := i + min p.length (g1.all.length - i), all := splice g1.all i (p.take (g1.all.length - i)) }, ?_, ?_, ?_, ?_, ?_, ?_, ?_, ?_⟩
  · refine ((hI.go.step hS2.drew).src ⟨hB3, .inl rfl, hF3.mono fun _ _ q => ?_⟩).step ⟨hA4, .inl rfl, hF4.mono fun _ _ q => .inl q⟩
    rcases q with q | q
    · exact .inl (.inr (by rw [q]; exact hr))
    · exact .inr q
  · rcases hG.lr with e | e
    · simp only at e ⊢; rw [e]; exact hI.lr
    · exact e
  · have h1 := hG.txt
    have h2 := hI.txt
    rw [← h2, ← h1, ← flat_next p rest (g1.all.length - i), ← List.append_assoc]
    congr 1
    simp only [Gh.txt]
    rw [← htk, splice_txt _ _ _ _ hG.off (by rw [htk]; omega)]
  · exact hS3.fr hF4 (fun x q k => by have q : x = b := q; omega)
  · intro x hx
    rcases List.mem_append.1 hx with hx | hx
    · exact hI.min x hx
    · simp at hx; omega
  · have := hI.cnt
    omega
  · have := hI.few
    simp only [List.length_append, List.length_singleton]
    omega
  · intro q
    have h1 := hI.cap q
    have h2 := hG.le
    have h3 := hG.cap (by omega)
    simp only
    rw [hsl]
    omega

set_option maxHeartbeats 3200000 in
set_option maxRecDepth 100000 in
theorem readFrom_src (w0 : World) (b : Nat) (g0 : Gh) (sb base : Nat) (ps0 : List (List UInt8)) (ea : Addr) (h : BufAt w0 b g0) (hs : SrcAt w0 sb base ps0 false []) (hb : b < base) (hbw : base ≤ w0.heap.size)
    (he : w0.cell? ⟨0, 0, none⟩ = some (errV ea)) (hee : 0 < base)
    (hsz : g0.txt.length + tot ps0 + 512 ≤ 1099511627776) (hps : tot ps0 + ps0.length ≤ 4294967295) :
    Calls Tryz.prog 87 #[.pointer (some ⟨b, 0, none⟩), .iface 131 (.pointer (some ⟨sb, 0, none⟩))] w0 (RFPost w0 b g0 sb base ps0 false .nilIface) := by
  have c2 := h.c2
  have f2 := h.f 2
  have H := Lib.hid h
  have HS := Lib.hid hs
  clear h hs
  have hna := nil_src ⟨sb, 0, none⟩
  have hme := method_src ⟨sb, 0, none⟩
  go_enter Tryz.func87, Tryz.ntmps87
  go_wp2_with fail
  go_loopg [4] (tot ps0 + ps0.length) (fun k n wr => ∃ (cnt : Nat) (g : Gh) (ps : List (List UInt8)) (ak : List Nat), n = .int .i64 (cnt : Int) ∧ tot ps + ps.length ≤ k ∧ RF w0 b g0 sb base ps0 false wr cnt g ps ak)
  case atStart =>
    have S0 := BufStep.lr0 H.out 0
    refine ⟨0, _, ps0, [], rfl, Nat.le_refl _, BufGo.of_step S0, rfl, rfl, HS.out.fr S0.fr (fun x q k => H.out.foot_u8 hb q k), (fun n hn => by cases hn), Nat.zero_add _, by simp, fun q => ⟨rfl, q⟩⟩
  case round =>
    obtain ⟨cnt, g, ps, ak, rfl, hk, hI⟩ := hrel
    have htl : g.txt.length + 512 ≤ 1099511627776 := by
      have := congrArg List.length hI.txt
      simp only [List.length_append] at this
      unfold tot at hsz
      omega
    go_wp2_with fail
    refine (grow_any 512 _ b g hI.go.at' htl).mono ?_
    rintro e w1 ⟨i, g1, rfl, S1, G1⟩
    have A1 := S1.at'
    have c0 := A1.c0
    have f0 := A1.f 0
    have hz1 := A1.sz
    have hi : i + 512 ≤ g1.all.length := by have := G1.len; have := A1.lc; omega
    have A2 : BufAt (w1.setCell ⟨b, 0, none⟩ (.slice (rowA g1.row) i g1.all.length)) b { g1 with len := i } := ⟨A1.toBufRaw.put0 i, G1.off, by simp only; omega⟩
    have S2 : BufStep wr b g (w1.setCell ⟨b, 0, none⟩ (.slice (rowA g1.row) i g1.all.length)) { g1 with len := i } := S1.trans (BufStep.of_just A2 rfl ((Fr.refl _ w1).setCell (fun _ => just_self b) _))
    obtain ⟨row, all, len, off, lr⟩ := g1
    simp only at *
    cases row with
    | none => have := A1.nil rfl; simp only at this; subst this; simp at hi
    | some r =>
    simp only [rowA_some] at *
    generalize hw2 : w1.setCell ⟨b, 0, none⟩ (.slice (some ⟨r, 0, none⟩) i all.length) = w2 at *
    have d0 := A2.c0
    have e0 := A2.f 0
    have hsl := fun w' => slice_lh (some r) i all.length i all.length (by omega) (Nat.le_refl _) w'
    rw [cutA_some r i all.length (by omega)] at hsl
    simp only [rowA_some] at hsl d0
    have hA := Lib.hid A1
    have hA2 := Lib.hid A2
    have hS2 := Lib.hid S2
    have HG := Lib.hid G1
    have hgat := hI.go.at'
    have hE0 : wr.cell? ⟨0, 0, none⟩ = some (errV ea) := (hI.go.fr.cell (World.block_lt_of_cell? _ _ he) (fun q => q.elim (fun q => H.out.ne_err he q) (fun q => by have := q.1; simp at this; omega))).trans he
    have hE2 : w2.cell? ⟨0, 0, none⟩ = some (errV ea) := (S2.fr.cell (World.block_lt_of_cell? _ _ hE0) (hgat.ne_err hE0)).trans hE0
    have hsrc2 := hI.src.fr (S2.fr.drew) (fun x q k => hgat.foot_u8 hb q k)
    have hbase2 : base ≤ w2.drew.heap.size := Nat.le_trans hbw (Nat.le_trans hI.go.fr.size S2.fr.size)
    have hfew := hI.few
    have HSR := Lib.hid hsrc2
    have HB2 := Lib.hid hbase2
    have HE2 := Lib.hid hE2
    have HI := Lib.hid hI
    have hak : ak.length ≤ 4294967296 := by omega
    have hlg : all.length - i ≤ 9223372036854775807 := by omega
    have herr := err_same ea
    have hcnt : cnt ≤ 4294967295 := by have := hI.cnt; omega
    clear A1 A2 S2 S1 G1 hgat hsrc2 hbase2 hI hE0 hE2 he
    cases ps with
    | nil =>
      go_wp2_with fail
      go_region_held3 (fun w' => w'.cell? ⟨b, 0, none⟩ = some (.slice (some ⟨r, 0, none⟩) i all.length)) (go_keep) ((go_at_call 136; refine (source_end sb base ak _ _ _ ea _ HSR.out HE2.out hak HB2.out hlg hee).mono ?_; rintro e w3 ⟨rfl, hs3, hf3⟩; have B3 := hA2.out.drew.fr hf3 (fun x q => hA2.out.drew.src_apart hb q); have d3 := B3.c0; have e3 := B3.f 0; have hE3 := (hf3.cell (World.block_lt_of_cell? _ _ HE2.out) (fun q => by have := q.1; simp at this; omega)).trans HE2.out; simp only [rowA_some] at d3; have hS3 := Lib.hid hs3; have hF3 := Lib.hid hf3; have hB3 := Lib.hid B3; clear B3 hs3 hf3))
      have B4 := hB3.out.toBufRaw.put0 i
      have hF4 : Fr (Just b) w3 (w3.setCell ⟨b, 0, none⟩ (.slice (some ⟨r, 0, none⟩) i all.length)) := (Fr.refl _ w3).setCell (fun _ => just_self b) _
      have hE4 := (hF4.cell (World.block_lt_of_cell? _ _ hE3) (fun q => hB3.out.ne_err hE3 (.inl q))).trans hE3
      simp only [rowA_some] at B4
      generalize hw4 : w3.setCell ⟨b, 0, none⟩ (.slice (some ⟨r, 0, none⟩) i all.length) = w4 at *
      have HB4 := Lib.hid B4
      have HF4 := Lib.hid hF4
      clear B4 hF4
      go_wp2_with fail
      go_ret2
      exact rf_end HI.out HG.out hA.out.lc hS2.out hS3.out hF3.out hB3.out HB4.out HF4.out hb
    | cons p rest =>
      have hrw := Lib.hid (hA2.out.drew.row r rfl)
      have hpl : p.length ≤ 1099511627776 := by rw [tot_cons, List.length_cons] at hfew; omega
      have hrl : rest.length ≤ 4294967296 := by rw [List.length_cons] at hfew; omega
      obtain ⟨n, hn⟩ : ∃ n, n = all.length - i := ⟨_, rfl⟩
      obtain ⟨m, hm⟩ : ∃ m, m = min p.length n := ⟨_, rfl⟩
      have hmi : m ≤ n := by omega
      have hin : i + n ≤ all.length := by omega
      have hml : m ≤ 1099511627776 := by omega
      have hn1 : all.length - i = n := hn.symm
      have hm1 : min p.length n = m := hm.symm
      have HN := Lib.hid hn
      have HM := Lib.hid hm
      rw [hn1] at hsl
      have hen := err_nil ea
      have hgn := guard_nil (.tmp 59) (.tmp 60) ea
      clear hn hm herr
      go_wp2_with fail
      go_region_held3 (fun w' => w'.cell? ⟨b, 0, none⟩ = some (.slice (some ⟨r, 0, none⟩) i all.length)) (go_keep) ((go_at_call 136; refine (source_some sb base p rest false ak r i n _ all _ HSR.out hrw.out hin hak HB2.out (by omega) hpl hrl).mono ?_; rintro e w3 ⟨rfl, hs3, hr3, hf3⟩; have R3 := (hA2.out.drew).toBufRaw.putAllS rfl hf3 (fun q => q.elim (fun q => (hrw.out.ne_blk hA2.out.drew.st (by decide)) q.symm) (fun q => by have := q.1; omega)) hr3 (length_splice _ _ _ (by rw [List.length_take]; omega)); have d3 := R3.c0; have e3 := R3.f 0; have hE3 := (hf3.cell (World.block_lt_of_cell? _ _ HE2.out) (fun q => q.elim (fun q => hA2.out.drew.ne_err HE2.out (.inr (congrArg some q.symm))) (fun q => by have := q.1; simp at this; omega))).trans HE2.out; simp only [rowA_some] at d3; rw [length_splice _ _ _ (by rw [List.length_take]; omega)] at d3; have hS3 := Lib.hid hs3; have hF3 := Lib.hid hf3; have hR3 := Lib.hid R3; clear R3 hs3 hf3 hr3))
      have hA3 : BufAt w3 b { row := some r, all := splice all i (p.take n), len := i, off := off, lr := lr } := ⟨hR3.out, HG.out.off, by simp only; rw [length_splice _ _ _ (by rw [List.length_take]; omega)]; omega⟩
      have B4 := hR3.out.put0 (i + m)
      have hF4 : Fr (Just b) w3 (w3.setCell ⟨b, 0, none⟩ (.slice (some ⟨r, 0, none⟩) (i + m) all.length)) := (Fr.refl _ w3).setCell (fun _ => just_self b) _
      have hE4 := (hF4.cell (World.block_lt_of_cell? _ _ hE3) (fun q => hA3.ne_err hE3 (.inl q))).trans hE3
      simp only [rowA_some] at B4
      rw [length_splice _ _ _ (by rw [List.length_take]; omega)] at B4
      generalize hw4 : w3.setCell ⟨b, 0, none⟩ (.slice (some ⟨r, 0, none⟩) (i + m) all.length) = w4 at *
      have HR : Hid (∃ g', RF w0 b g0 sb base ps0 false w4 (cnt + m) g' (psNext p rest n) (ak ++ [n])) := by
        have := HN.out
        subst this
        have := HM.out
        subst this
        exact rf_step HI.out HG.out hA.out.lc rfl hS2.out hS3.out hF3.out hA3 B4 hF4 hb
      have hmeas := meas_next p rest n (by omega)
      clear hA3 B4 hF4 hE3
      go_wp2_with fail
      obtain ⟨g', hRF⟩ := HR.out
      go_roundg (tot (psNext p rest n) + (psNext p rest n).length)
      case measure => omega
      case rel => exact ⟨cnt + m, g', _, _, by go_num, Nat.le_refl _, hRF⟩
end Go.Proofs.YtbodbajgpgaoeaaGreatDoor
