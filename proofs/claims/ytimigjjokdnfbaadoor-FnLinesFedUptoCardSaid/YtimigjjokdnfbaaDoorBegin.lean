/- impl.begin: a buffer that begins with a text. -/
import Derived.Test.YtimigjjokdnfbaaDoorBufR
namespace Go.Proofs.YtimigjjokdnfbaaDoor
open Go Go.RowKit

theorem Fresh.weaken {w0 w w' : World} {b : Nat} {g : Gh} (h : Fresh w w' b g) (hf : Fr (fun _ => False) w0 w) : Fresh w0 w' b g :=
  ⟨h.at', Nat.le_trans hf.size h.blk, fun r hr => Nat.le_trans hf.size (h.row r hr), hf.trans h.fr⟩
theorem Fresh.step {w w1 w2 : World} {b : Nat} {g g' : Gh} (h : Fresh w w1 b g) (k : BufStep w1 b g w2 g') : Fresh w w2 b g' := by
  refine ⟨k.at', h.blk, fun r hr => ?_, h.fr.trans' k.fr ?_⟩
  · rcases k.row with e | ⟨r', e, hr'⟩
    · exact h.row r (e ▸ hr)
    · rw [e] at hr
      injection hr with hr
      subst hr
      exact Nat.le_trans h.fr.size hr'
  · intro i hi q
    rcases q with q | q
    · have := h.blk; omega
    · have := h.row i q; omega
theorem Fresh.zero (w0 w : World) (hf : Fr (fun _ => False) w0 w) : Fresh w0 (w.alloc (.cells #[.slice none 0 0, .int .i64 0, .int .i8 0] 61)) w.heap.size ⟨none, [], 0, 0, 0⟩ :=
  ⟨⟨⟨heap_alloc_new w _, (fun _ q => by cases q), (fun _ => rfl), Nat.zero_le _⟩, Nat.zero_le _, Nat.zero_le _⟩, hf.size, (fun _ q => by cases q), hf.alloc _⟩

def startV (text : List UInt8) (way : Int) (space : Nat) : Value := .agg #[.string ⟨text.toArray⟩, .int .i64 way, .int .u16 (space : Int)]
def BeginPost (w : World) (l : List UInt8) (e : Ending) (w' : World) : Prop := ∃ b g, e = .returned (.pointer (some ⟨b, 0, none⟩)) ∧ Fresh w w' b g ∧ g.txt = l ∧ g.lr = 0

set_option maxRecDepth 100000 in
theorem begin_string (text : List UInt8) (way : Int) (space : Nat) (w : World) (hw1 : (way == 1) = false) (hw2 : (way == 2) = false) (hl : text.length ≤ 1099511627776) :
    Calls Tryd.prog 13 #[startV text way space] w (BeginPost w text) := by
  unfold startV
  go_enter Tryd.func13, Tryd.ntmps13
  go_wp2_with fail
  with_reducible refine (newBufferString text _ (by omega)).mono ?_
  rintro e w' ⟨b, g, rfl, F, ht, hr⟩
  have HF := Lib.hid (F.weaken ((Fr.refl _ w).alloc _))
  have HT := Lib.hid ht
  have HR := Lib.hid hr
  clear F ht hr
  go_wp2_with fail
  go_ret
  exact ⟨_, _, rfl, HF.out, HT.out, HR.out⟩

set_option maxRecDepth 100000 in
theorem begin_write (text : List UInt8) (space : Nat) (w : World) (hl : text.length ≤ 1099511627776) :
    Calls Tryd.prog 13 #[startV text 2 space] w (BeginPost w text) := by
  unfold startV
  go_enter Tryd.func13, Tryd.ntmps13
  go_wp2_with fail
  have hz := Fresh.zero w _ ((Fr.refl _ w).alloc (.cells #[.string ⟨text.toArray⟩, .int .i64 2, .int .u16 (space : Int)] 32))
  simp only [World.size_alloc] at hz
  with_reducible refine (bufWS text _ _ _ hz.at' (Src.str _ _) (by simpa [Gh.txt] using hl) (fun _ _ _ => Src.str _ _)).mono ?_
  rintro e w' ⟨g, rfl, S, W⟩
  have HF := Lib.hid (hz.step S)
  have HT := Lib.hid W.txt
  have HR := Lib.hid W.lr
  clear S W hz
  go_wp2_with fail
  go_ret
  exact ⟨_, _, rfl, HF.out, by simpa [Gh.txt] using HT.out, HR.out⟩

set_option maxHeartbeats 800000 in
set_option maxRecDepth 100000 in
theorem begin_slice (text : List UInt8) (space : Nat) (w : World) (hl : text.length ≤ 1099511627776) (hs : space ≤ 65535) :
    Calls Tryd.prog 13 #[startV text 1 space] w (BeginPost w text) := by
  unfold startV
  have hmk := fun w' => mk_bytes 0 (text.length + space) (Nat.zero_le _) (by omega) w'
  simp only [Int.cast_ofNat_Int, Int.natCast_add] at hmk
  have hwr : IntKind.i64.wrap ((text.length : Int) + (space : Int)) = (text.length : Int) + (space : Int) := IntWalk.i64_in _ (by omega)
  have hcv : IntKind.i64.wrap (space : Int) = (space : Int) := IntWalk.i64_in _ (by omega)
  obtain ⟨i0, hi, hz0, hz1, hz2⟩ := info_parts info_u8
  have hW := Row.zrow (w.alloc (.cells #[.string ⟨text.toArray⟩, .int .i64 1, .int .u16 (space : Int)] 32)) 5 (text.length + space)
  have hF0 : Fr (fun _ => False) w (((w.alloc (.cells #[.string ⟨text.toArray⟩, .int .i64 1, .int .u16 (space : Int)] 32)).alloc (zrow 5 (text.length + space))).drew) := (((Fr.refl _ w).alloc _).alloc _).drew
  simp only [World.size_alloc] at hW
  obtain ⟨fz, hW1, hW2⟩ := hW.drew
  obtain ⟨w2, happ, hcell, hfr2⟩ := run_append_fit (P := Tryd.prog) (dT := 52) (xT := 9) (ty := 52) (o := 0) (n := 0) (c := text.length + space) (D := some ⟨w.heap.size + 1, 0, none⟩) Tryd.underlying52 Tryd.underlying9 (fun _ => by simp) hi hz1 hW1 (Src.str _ text) (by omega) (fun _ => rfl) (by simp) (fun j h1 h2 => by simp at hW2; omega)
  have hrow2 : Row 5 w2 (w.heap.size + 1) (splice (List.replicate (text.length + space) 0) 0 text) := ⟨fz, by simpa using hcell, by rw [length_splice _ _ _ (by simp)]; exact hW2⟩
  have hfr3 : Fr (fun _ => False) w w2 := hF0.trans' hfr2 (fun i hi q => by unfold Just at q; omega)
  obtain ⟨all, hall⟩ : ∃ all, all = splice (List.replicate (text.length + space) (0 : UInt8)) 0 text := ⟨_, rfl⟩
  rw [← hall] at hrow2
  have hlen : all.length = text.length + space := by rw [hall, length_splice _ _ _ (by simp)]; simp
  have hS : (w2.cell? ⟨w.heap.size, 0, none⟩ = some (.string ⟨text.toArray⟩) ∧ w2.cell? ⟨w.heap.size, 2, none⟩ = some (.int .u16 (space : Int))) := by
    have e0 := hfr2.cell (p := ⟨w.heap.size, 0, none⟩) (by simp; omega) (fun q => by unfold Just at q; simp at q)
    have e2 := hfr2.cell (p := ⟨w.heap.size, 2, none⟩) (by simp; omega) (fun q => by unfold Just at q; simp at q)
    rw [e0, e2]
    constructor <;> simp
  obtain ⟨hS1, hS2⟩ := hS
  have hsz2 : w.heap.size < w2.heap.size := World.block_lt_of_cell? _ _ hS1
  have HR := Lib.hid hrow2
  have HF := Lib.hid hfr3
  have HA := Lib.hid hall
  have HL := Lib.hid hlen
  rw [Nat.zero_add] at happ
  clear hW hF0 hW1 hW2 hcell hfr2 hrow2 hfr3 hall hlen
  go_enter Tryd.func13, Tryd.ntmps13
  go_wp2_with fail
  go_region_held3 (fun w' => w'.cell? ⟨w.heap.size, 0, none⟩ = some (.string ⟨text.toArray⟩) ∧ w'.cell? ⟨w.heap.size, 2, none⟩ = some (.int .u16 (space : Int))) (go_keep) (first | (refine step_of_wp rfl (wp_append_of_run (.tmp 15) (.tmp 17) _ _ rfl rfl rfl happ ?_)) | (go_at_call 20; refine (newBuffer _ _ _ all _ w HR.out HL.out (by omega) (by rw [HL.out]; omega) (by rw [HL.out]; omega) HF.out).mono ?_; rintro e w3 ⟨b, rfl, F3, G3⟩; have k1 := (G3.cell (p := ⟨w.heap.size, 0, none⟩) hsz2 (fun q => q)).trans hS1; have k2 := (G3.cell (p := ⟨w.heap.size, 2, none⟩) hsz2 (fun q => q)).trans hS2; have HF3 := Lib.hid F3; clear F3 G3))
  go_wp2_with fail
  go_ret
  refine ⟨_, _, rfl, HF3.out, ?_, rfl⟩
  simp only [Gh.txt, List.drop_zero]
  rw [HA.out]
  exact splice_take_head _ _ rfl
end Go.Proofs.YtimigjjokdnfbaaDoor
