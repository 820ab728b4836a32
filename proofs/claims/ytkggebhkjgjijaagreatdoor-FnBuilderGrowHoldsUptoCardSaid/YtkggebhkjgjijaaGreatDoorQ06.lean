/- Begin, App. -/
import Derived.Test.YtkggebhkjgjijaaGreatDoorQ05
import Derived.Test.YtkggebhkjgjijaaGreatDoorQ01
import Derived.Deep.AppendLies
namespace Go.Proofs.YtkggebhkjgjijaaGreatDoor
open Go Go.RowKit

theorem Fresh.weaken {w0 w w' : World} {b : Nat} {g : Gh} (h : Fresh w w' b g) (hf : Fr (fun _ => False) w0 w) : Fresh w0 w' b g :=
  ⟨h.at', Nat.le_trans hf.size h.blk, fun r hr => Nat.le_trans hf.size (h.row r hr), hf.trans h.fr⟩
theorem Fresh.step {w w1 w2 : World} {b : Nat} {g g' : Gh} (h : Fresh w w1 b g) (k : BufStep w1 b g w2 g') : Fresh w w2 b g' := by
  refine ⟨k.at', h.blk, fun r hr => ?_, h.fr.trans' k.fr ?_⟩
  · rcases k.row with e | ⟨r', e, hr'⟩
    · exact h.row r (e ▸ hr)
    · rw [e] at hr
      injection hr with hr
      subst hr
      exact Nat.le_trans h.fr.size hr'
  · intro i hi q
    rcases q with q | q
    · have := h.blk; omega
    · have := h.row i q; omega
theorem Fresh.zero (w0 w : World) (hf : Fr (fun _ => False) w0 w) : Fresh w0 (w.alloc (.cells #[.slice none 0 0, .int .i64 0, .int .i8 0] 84)) w.heap.size ⟨none, [], 0, 0, 0⟩ :=
  ⟨⟨⟨heap_alloc_new w _, (fun _ q => by cases q), (fun _ => rfl), Nat.zero_le _⟩, Nat.zero_le _, Nat.zero_le _⟩, hf.size, (fun _ q => by cases q), hf.alloc _⟩

def startV (text : List UInt8) (way : Int) (space : Nat) : Value := .agg #[.string ⟨text.toArray⟩, .int .i64 way, .int .u16 (space : Int)]
def BeginPost (w : World) (l : List UInt8) (e : Ending) (w' : World) : Prop := ∃ b g, e = .returned (.pointer (some ⟨b, 0, none⟩)) ∧ Fresh w w' b g ∧ g.txt = l ∧ g.lr = 0

set_option maxRecDepth 100000 in
theorem begin_string (text : List UInt8) (way : Int) (space : Nat) (w : World) (hw1 : (way == 1) = false) (hw2 : (way == 2) = false) (hl : text.length ≤ 1099511627776) :
    Calls Tryz.prog 21 #[startV text way space] w (BeginPost w text) := by
  unfold startV
  go_enter Tryz.func21, Tryz.ntmps21
  go_wp2_with fail
  with_reducible refine (newBufferString text _ (by omega)).mono ?_
  rintro e w' ⟨b, g, rfl, F, ht, hr⟩
  have HF := Lib.hid (F.weaken ((Fr.refl _ w).alloc _))
  have HT := Lib.hid ht
  have HR := Lib.hid hr
  clear F ht hr
  go_wp2_with fail
  go_ret
  exact ⟨_, _, rfl, HF.out, HT.out, HR.out⟩

set_option maxRecDepth 100000 in
theorem begin_write (text : List UInt8) (space : Nat) (w : World) (hl : text.length ≤ 1099511627776) :
    Calls Tryz.prog 21 #[startV text 2 space] w (BeginPost w text) := by
  unfold startV
  go_enter Tryz.func21, Tryz.ntmps21
  go_wp2_with fail
  have hz := Fresh.zero w _ ((Fr.refl _ w).alloc (.cells #[.string ⟨text.toArray⟩, .int .i64 2, .int .u16 (space : Int)] 55))
  simp only [World.size_alloc] at hz
  with_reducible refine (bufWS text _ _ _ hz.at' (Src.str _ _) (by simpa [Gh.txt] using hl) (fun _ _ _ => Src.str _ _)).mono ?_
  rintro e w' ⟨g, rfl, S, W⟩
  have HF := Lib.hid (hz.step S)
  have HT := Lib.hid W.txt
  have HR := Lib.hid W.lr
  clear S W hz
  go_wp2_with fail
  go_ret
  exact ⟨_, _, rfl, HF.out, by simpa [Gh.txt] using HT.out, HR.out⟩

set_option maxHeartbeats 800000 in
set_option maxRecDepth 100000 in
theorem begin_slice (text : List UInt8) (space : Nat) (w : World) (hl : text.length ≤ 1099511627776) (hs : space ≤ 65535) :
    Calls Tryz.prog 21 #[startV text 1 space] w (BeginPost w text) := by
  unfold startV
  have hmk := fun w' => mk_bytes 0 (text.length + space) (Nat.zero_le _) (by omega) w'
  simp only [Int.cast_ofNat_Int, Int.natCast_add] at hmk
  have hwr : IntKind.i64.wrap ((text.length : Int) + (space : Int)) = (text.length : Int) + (space : Int) := IntWalk.i64_in _ (by omega)
  have hcv : IntKind.i64.wrap (space : Int) = (space : Int) := IntWalk.i64_in _ (by omega)
  obtain ⟨i0, hi, hz0, hz1, hz2⟩ := info_parts info_u8
  have hW := Row.zrow (w.alloc (.cells #[.string ⟨text.toArray⟩, .int .i64 1, .int .u16 (space : Int)] 55)) 5 (text.length + space)
  have hF0 : Fr (fun _ => False) w (((w.alloc (.cells #[.string ⟨text.toArray⟩, .int .i64 1, .int .u16 (space : Int)] 55)).alloc (zrow 5 (text.length + space))).drew) := (((Fr.refl _ w).alloc _).alloc _).drew
  simp only [World.size_alloc] at hW
  obtain ⟨fz, hW1, hW2⟩ := hW.drew
  obtain ⟨w2, happ, hcell, hfr2⟩ := run_append_fit (P := Tryz.prog) (dT := 48) (xT := 9) (ty := 48) (o := 0) (n := 0) (c := text.length + space) (D := some ⟨w.heap.size + 1, 0, none⟩) Tryz.underlying48 Tryz.underlying9 (fun _ => by simp) hi hz1 hW1 (Src.str _ text) (by omega) (fun _ => rfl) (by simp) (fun j h1 h2 => by simp at hW2; omega)
  have hrow2 : Row 5 w2 (w.heap.size + 1) (splice (List.replicate (text.length + space) 0) 0 text) := ⟨fz, by simpa using hcell, by rw [length_splice _ _ _ (by simp)]; exact hW2⟩
  have hfr3 : Fr (fun _ => False) w w2 := hF0.trans' hfr2 (fun i hi q => by unfold Just at q; omega)
  obtain ⟨all, hall⟩ : ∃ all, all = splice (List.replicate (text.length + space) (0 : UInt8)) 0 text := ⟨_, rfl⟩
  rw [← hall] at hrow2
  have hlen : all.length = text.length + space := by rw [hall, length_splice _ _ _ (by simp)]; simp
  have hS : (w2.cell? ⟨w.heap.size, 0, none⟩ = some (.string ⟨text.toArray⟩) ∧ w2.cell? ⟨w.heap.size, 2, none⟩ = some (.int .u16 (space : Int))) := by
    have e0 := hfr2.cell (p := ⟨w.heap.size, 0, none⟩) (by simp; omega) (fun q => by unfold Just at q; simp at q)
    have e2 := hfr2.cell (p := ⟨w.heap.size, 2, none⟩) (by simp; omega) (fun q => by unfold Just at q; simp at q)
    rw [e0, e2]
    constructor <;> simp
  obtain ⟨hS1, hS2⟩ := hS
  have hsz2 : w.heap.size < w2.heap.size := World.block_lt_of_cell? _ _ hS1
  have HR := Lib.hid hrow2
  have HF := Lib.hid hfr3
  have HA := Lib.hid hall
  have HL := Lib.hid hlen
  rw [Nat.zero_add] at happ
  clear hW hF0 hW1 hW2 hcell hfr2 hrow2 hfr3 hall hlen
  go_enter Tryz.func21, Tryz.ntmps21
  go_wp2_with fail
  go_region_held3 (fun w' => w'.cell? ⟨w.heap.size, 0, none⟩ = some (.string ⟨text.toArray⟩) ∧ w'.cell? ⟨w.heap.size, 2, none⟩ = some (.int .u16 (space : Int))) (go_keep) (first | (refine step_of_wp rfl (wp_append_of_run (.tmp 15) (.tmp 17) _ _ rfl rfl rfl happ ?_)) | (go_at_call 35; refine (newBuffer _ _ _ all _ w HR.out HL.out (by omega) (by rw [HL.out]; omega) (by rw [HL.out]; omega) HF.out).mono ?_; rintro e w3 ⟨b, rfl, F3, G3⟩; have k1 := (G3.cell (p := ⟨w.heap.size, 0, none⟩) hsz2 (fun q => q)).trans hS1; have k2 := (G3.cell (p := ⟨w.heap.size, 2, none⟩) hsz2 (fun q => q)).trans hS2; have HF3 := Lib.hid F3; clear F3 G3))
  go_wp2_with fail
  go_ret
  refine ⟨_, _, rfl, HF3.out, ?_, rfl⟩
  simp only [Gh.txt, List.drop_zero]
  rw [HA.out]
  exact splice_take_head _ _ rfl
end Go.Proofs.YtkggebhkjgjijaaGreatDoor

namespace Go.Proofs.YtkggebhkjgjijaaGreatDoor
open Go Go.RowKit

/-- What is known of a slice type T of elements E, so many cells and bytes each. -/
structure ElemOk (P : Program) (T E : TypeId) (size bytes : Nat) : Prop where
  ht : P.underlying T = some (.slice E)
  ex : ∃ i z, P.info? E = some i ∧ i.zero = some z ∧ i.size = size ∧ i.bytes = bytes ∧ z.cells.size = size
  pos : 0 < size
  few : bytes ≤ 4096

/-- The value v holds a slice of the call's own, its elements' cells xs. -/
abbrev Own (E : TypeId) (size : Nat) (w : World) (base : Nat) (v : Value) (n : Nat) (xs : List Value) : Prop := w.ownsRow base E size v n xs

section
variable {P : Program} {w : World} {ops : Array Oper} {rest : List Oper} {o : Oper} {a : Act} {K : Act → World → Prop} {Q : Exit → Act → World → Prop} {T E : TypeId} {size bytes : Nat}

theorem wp_app (ok : ElemOk P T E size bytes) (s x : Operand) (ho : o.op = .call { callee := .builtin .append, args := #[s, x], argTypes := #[T, T] })
    (base : Nat) (v : Value) (n : Nat) (xs : List Value) (hs : a.eval s = v) (hown : Own E size w base v n xs) (H : Nat) (cs : List Value) (E' : TypeId) (hx : a.eval x = .slice (some ⟨H, 0, none⟩) 1 1)
    (hb : w.heap[H]? = some (.cells cs.toArray E' (0, 0))) (hcs : cs.length = size) (h1 : ∀ u ∈ cs, u.oneCell' = true) (hn : n ≤ 8589934592) (hbase : base ≤ w.heap.size)
    (h : ∀ g cap w', Own E size w' base (.slice (some ⟨g, 0, none⟩) (n + 1) cap) (n + 1) (xs ++ cs) → Fr (fun x => v.ownBlock = some x) w w' → (v.ownBlock = some g ∨ w.heap.size ≤ g) → g < w'.heap.size → K (a.put o.dst (.slice (some ⟨g, 0, none⟩) (n + 1) cap)) w') :
    o.wp P a w K Q := by
  obtain ⟨i, z, hi, hz, h2, h3, h4⟩ := ok.ex
  have hfew := ok.few
  have hbytes : (n + 1) * bytes ≤ 140737488355328 := by
    have : (n + 1) * bytes ≤ 8589934593 * 4096 := Nat.mul_le_mul (by omega) hfew
    omega
  refine wp_append_lies w s x T ho base E i z size bytes ok.ht hi hz h2 h3 h4 ok.pos v n xs hs hown ⟨H, 0, none⟩ 1 1 cs hx (by omega) (World.news_of_block (cs := cs.toArray) hb) h1 (by omega) (by unfold maxLen; omega) hbytes hbase w.heap.size rfl ?_
  intro g cap w' k1 k2 k3 k4
  exact h g cap w' k1 (Fr.of_grown k2 fun _ q => q) (k3.imp id (fun q => by omega)) k4

theorem wpList_app (hgd : o.guard = none) (ok : ElemOk P T E size bytes) (s x : Operand) (ho : o.op = .call { callee := .builtin .append, args := #[s, x], argTypes := #[T, T] })
    (base : Nat) (v : Value) (n : Nat) (xs : List Value) (hs : a.eval s = v) (hown : Own E size w base v n xs) (H : Nat) (cs : List Value) (E' : TypeId) (hx : a.eval x = .slice (some ⟨H, 0, none⟩) 1 1)
    (hb : w.heap[H]? = some (.cells cs.toArray E' (0, 0))) (hcs : cs.length = size) (h1 : ∀ u ∈ cs, u.oneCell' = true) (hn : n ≤ 8589934592) (hbase : base ≤ w.heap.size)
    (h : ∀ g cap w', Own E size w' base (.slice (some ⟨g, 0, none⟩) (n + 1) cap) (n + 1) (xs ++ cs) → Fr (fun x => v.ownBlock = some x) w w' → (v.ownBlock = some g ∨ w.heap.size ≤ g) → g < w'.heap.size → wpList P ops Q rest (a.put o.dst (.slice (some ⟨g, 0, none⟩) (n + 1) cap)) w') :
    wpList P ops Q (o :: rest) a w :=
  wpList_plain hgd fun _ hK => wp_app ok s x ho base v n xs hs hown H cs E' hx hb hcs h1 hn hbase fun g cap w' k1 k2 k3 k4 => hK _ _ (h g cap w' k1 k2 k3 k4)

theorem step_app {E0 : Prop} (hgd : o.guard = none) (ok : ElemOk P T E size bytes) (s x : Operand) (ho : o.op = .call { callee := .builtin .append, args := #[s, x], argTypes := #[T, T] })
    (base : Nat) (v : Value) (n : Nat) (xs : List Value) (hs : a.eval s = v) (hown : Own E size w base v n xs) (H : Nat) (cs : List Value) (E' : TypeId) (hx : a.eval x = .slice (some ⟨H, 0, none⟩) 1 1)
    (hb : w.heap[H]? = some (.cells cs.toArray E' (0, 0))) (hcs : cs.length = size) (h1 : ∀ u ∈ cs, u.oneCell' = true) (hn : n ≤ 8589934592) (hbase : base ≤ w.heap.size)
    (h : ∀ g cap w', Own E size w' base (.slice (some ⟨g, 0, none⟩) (n + 1) cap) (n + 1) (xs ++ cs) → Fr (fun x => v.ownBlock = some x) w w' → (v.ownBlock = some g ∨ w.heap.size ≤ g) → g < w'.heap.size → K (a.put o.dst (.slice (some ⟨g, 0, none⟩) (n + 1) cap)) w') :
    if Region.wanted o (yielded ops a.tmps) = true then Oper.wp P o a w K Q else E0 :=
  step_of_wp hgd (wp_app ok s x ho base v n xs hs hown H cs E' hx hb hcs h1 hn hbase h)
end

section
variable {E : TypeId} {size : Nat} {w w' : World} {base : Nat} {v : Value} {n : Nat} {xs : List Value}
theorem Own.nil (E : TypeId) (size : Nat) (w : World) (base : Nat) : Own E size w base (.slice none 0 0) 0 [] := World.ownsRow_nil _ _ _ _
theorem Own.len (h : Own E size w base v n xs) : xs.length = n * size := h.1
theorem Own.of_block (h : Own E size w base v n xs) (hb : ∀ g, v.ownBlock = some g → w'.heap[g]? = w.heap[g]?) : Own E size w' base v n xs := by
  refine ⟨h.1, ?_⟩
  rcases h.2 with h | ⟨g, cap, cur, rfl, h1, h2, h3⟩
  · exact .inl h
  · exact .inr ⟨g, cap, cur, rfl, h1, (hb g rfl).trans h2, h3⟩
theorem Own.blk_lt (h : Own E size w base v n xs) {g : Nat} (hg : v.ownBlock = some g) : g < w.heap.size := by
  rcases h.2 with ⟨rfl, _⟩ | ⟨g', cap, cur, rfl, _, h2, _⟩
  · cases hg
  · injection hg with hg
    subst hg
    exact lt_of_blk h2
theorem Own.blk_ge (h : Own E size w base v n xs) {g : Nat} (hg : v.ownBlock = some g) : base ≤ g := by
  rcases h.2 with ⟨rfl, _⟩ | ⟨g', cap, cur, rfl, h1, h2, _⟩
  · cases hg
  · injection hg with hg
    subst hg
    exact h1
theorem Own.fr {S : Nat → Prop} (h : Own E size w base v n xs) (hf : Fr S w w') (hn : ∀ g, v.ownBlock = some g → ¬ S g) : Own E size w' base v n xs :=
  h.of_block fun g hg => hf.block g (h.blk_lt hg) (hn g hg)
theorem Own.value (h : Own E size w base v n xs) : ∃ A cap, v = .slice A n cap := by
  rcases h.2 with ⟨rfl, rfl⟩ | ⟨g', cap, cur, rfl, _⟩
  · exact ⟨_, _, rfl⟩
  · exact ⟨_, _, rfl⟩
/-- The block's element type: blocks of another type are apart. -/
theorem Own.ne_blk {b : Nat} {T : TypeId} {cs : Array Value} {fz : Nat × Nat} (h : Own E size w base v n xs) (hb : w.heap[b]? = some (.cells cs T fz)) (hne : T ≠ E) {g : Nat} (hg : v.ownBlock = some g) : g ≠ b := by
  rintro rfl
  rcases h.2 with ⟨rfl, _⟩ | ⟨g', cap, cur, rfl, _, h2, _⟩
  · cases hg
  · injection hg with hg
    subst hg
    rw [hb] at h2
    injection h2 with h2
    injection h2 with _ h2
    exact hne h2
end
end Go.Proofs.YtkggebhkjgjijaaGreatDoor
