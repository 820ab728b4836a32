/- Flow, Call. -/
import Derived.Test.YtkggebhkjgjijaaGreatDoorQ17
import Derived.Test.YtkggebhkjgjijaaGreatDoorQ18
import Derived.Test.YtkggebhkjgjijaaGreatDoorQ19
import Derived.Test.YtkggebhkjgjijaaGreatDoorQ20
namespace Go.Proofs.YtkggebhkjgjijaaGreatDoor
open Go Go.RowKit

theorem drain_any (w : World) (b : Nat) (g : Gh) (sb room : Nat) (h : BufAt w b g) (hst : w.heap[sb]? = some (.cells #[.int .i64 (room : Int), .slice none 0 0] 113 (0, 0))) (hroom : room ≤ 65535) (hn : g.txt.length ≤ room) :
    Calls Tryz.prog 60 #[.pointer (some ⟨b, 0, none⟩), .iface 111 (.pointer (some ⟨sb, 0, none⟩))] w (DrainPost w b g sb) := by
  by_cases ht : g.txt = []
  · exact drain_empty w b g sb room h hst ht
  · exact drain_all w b g sb room g.txt.length h hst rfl (List.length_pos_iff.2 ht) hroom hn

/-- A new reader of pieces. -/
theorem SrcAt.new {w : World} {base : Nat} {v : Value} {ps : List (List UInt8)} (fl : Bool) (h : Own 9 1 w base v ps.length (strs ps)) (hb : base ≤ w.heap.size) :
    SrcAt (w.alloc (.cells #[v, .bool fl, .slice none 0 0] 118)) w.heap.size base ps fl [] := by
  have hf : Fr (fun _ => False) w (w.alloc (.cells #[v, .bool fl, .slice none 0 0] 118)) := (Fr.refl _ w).alloc _
  rcases h.2 with ⟨rfl, h0⟩ | ⟨g, cap, cur, rfl, h1, h2, h3, h4, h5, h6⟩
  · refine ⟨none, 0, _, hb, ?_, fun q => absurd (List.eq_nil_of_length_eq_zero h0) q, by omega, Own.nil _ _ _ _⟩
    rw [h0]
    exact heap_alloc_new w _
  · refine ⟨_, cap, _, hb, heap_alloc_new w _, fun _ => ⟨g, 0, cur, rfl, h1, hf.blk h2 (fun q => q), fun j p hp => ?_⟩, h3, Own.nil _ _ _ _⟩
    have hj : j < ps.length := (List.getElem?_eq_some_iff.1 hp).1
    have e : (strs ps)[j]? = some (strV p) := by simp [strs, hp]
    rw [← h6, List.getElem?_take_of_lt (by omega)] at e
    simpa using e
theorem piecesF_len (s : List UInt8) (ks : List Nat) : (piecesF s ks).length ≤ ks.length + 1 := by
  unfold piecesF
  rw [List.length_append, cutAll_len]
  split <;> simp
theorem BufGo.step' {S : Nat → Prop} {w0 w w' : World} {b : Nat} {g g' : Gh} (h : BufGo S w b g w' g') (h0 : Fr (fun _ => False) w0 w) (hS : ∀ x, x < w0.heap.size → ¬ S x) : BufStep w0 b g w' g' := by
  refine ⟨h.at', ?_, (h0.mono fun _ _ q => q.elim).trans' h.fr fun x hx q => q.elim id fun q => absurd q (hS x hx)⟩
  rcases h.row with e | ⟨r, e, hr⟩
  · exact .inl e
  · exact .inr ⟨r, e, Nat.le_trans h0.size hr⟩

section
variable (a bb : Int) (size : Nat) (n : Int) (sign : UInt8) (char : Int) (text : List UInt8) (cuts : List Nat) (ad : Option Addr) (cap : Nat)
set_option maxHeartbeats 1600000 in
set_option maxRecDepth 100000 in
theorem flow_26 (yp : Value) (b : Nat) (g : Gh) (w : World) (h : BufAt w b g) (hsize : size ≤ 65535) (hle : g.txt.length ≤ size) :
    Calls Tryz.prog 28 #[yp, .pointer (some ⟨b, 0, none⟩), .agg #[.int .i64 26, .int .i64 a, .int .i64 bb, .int .u16 (size : Int), .int .i64 n, .int .u8 (sign.toNat : Int), .int .i32 char, .string ⟨text.toArray⟩, .slice ad cuts.length cap]] w (WDPost w b g ⟨g.txt.length, g.txt, 0, 0⟩ (fun g' => g' = g.rs)) := by
  have H := Lib.hid h
  have HB := Lib.hid (h.fr (((Fr.refl (fun _ => False) w).alloc _).alloc _) (fun _ _ q => q) : BufAt ((w.alloc (.cells #[.int .i64 26, .int .i64 a, .int .i64 bb, .int .u16 (size : Int), .int .i64 n, .int .u8 (sign.toNat : Int), .int .i32 char, .string ⟨text.toArray⟩, .slice ad cuts.length cap] 27)).alloc (.cells #[.int .i64 0, .string ⟨#[]⟩, .int .i32 0, .int .i64 0] 45)) b g)
  clear h
  have hcv : IntKind.i64.wrap (size : Int) = (size : Int) := IntWalk.i64_in _ (by omega)
  have hB1 : BufAt (((w.alloc (.cells #[.int .i64 26, .int .i64 a, .int .i64 bb, .int .u16 (size : Int), .int .i64 n, .int .u8 (sign.toNat : Int), .int .i32 char, .string ⟨text.toArray⟩, .slice ad cuts.length cap] 27)).alloc (.cells #[.int .i64 0, .string ⟨#[]⟩, .int .i32 0, .int .i64 0] 45)).alloc (.cells #[.int .i64 (size : Int), .slice none 0 0] 113)) b g := H.out.fr ((((Fr.refl (fun _ => False) w).alloc _).alloc _).alloc _) (fun _ _ q => q)
  have hT1 : ToldAt (((w.alloc (.cells #[.int .i64 26, .int .i64 a, .int .i64 bb, .int .u16 (size : Int), .int .i64 n, .int .u8 (sign.toNat : Int), .int .i32 char, .string ⟨text.toArray⟩, .slice ad cuts.length cap] 27)).alloc (.cells #[.int .i64 0, .string ⟨#[]⟩, .int .i32 0, .int .i64 0] 45)).alloc (.cells #[.int .i64 (size : Int), .slice none 0 0] 113)) (w.heap.size + 1) := (ToldAt.new2 w _).fr ((Fr.refl (fun _ => False) _).alloc _) (fun q => q)
  have hst1 : (((w.alloc (.cells #[.int .i64 26, .int .i64 a, .int .i64 bb, .int .u16 (size : Int), .int .i64 n, .int .u8 (sign.toNat : Int), .int .i32 char, .string ⟨text.toArray⟩, .slice ad cuts.length cap] 27)).alloc (.cells #[.int .i64 0, .string ⟨#[]⟩, .int .i32 0, .int .i64 0] 45)).alloc (.cells #[.int .i64 (size : Int), .slice none 0 0] 113)).heap[w.heap.size + 1 + 1]? = some (.cells #[.int .i64 (size : Int), .slice none 0 0] 113 (0, 0)) := by have := heap_alloc_new ((w.alloc (.cells #[.int .i64 26, .int .i64 a, .int .i64 bb, .int .u16 (size : Int), .int .i64 n, .int .u8 (sign.toNat : Int), .int .i32 char, .string ⟨text.toArray⟩, .slice ad cuts.length cap] 27)).alloc (.cells #[.int .i64 0, .string ⟨#[]⟩, .int .i32 0, .int .i64 0] 45)) (.cells #[.int .i64 (size : Int), .slice none 0 0] 113); simpa using this
  have hlt := H.out.lt
  have HB1 := Lib.hid hB1
  have HT1 := Lib.hid hT1
  have HST := Lib.hid hst1
  clear hB1 hT1 hst1
  go_enter Tryz.func28, Tryz.ntmps28
  go_wp2_with fail
  refine (drain_any _ b g (w.heap.size + 1 + 1) size HB1.out HST.out hsize hle).mono ?_
  rintro e w1 ⟨A, k2, c2, rfl, A1, hc1, hs1, F1⟩
  have S1 : BufStep w b g w1 g.rs := ⟨A1, .inl rfl, (((((Fr.refl (fun _ => False) w).alloc _).alloc _).alloc _) : Fr _ w (((w.alloc (.cells #[.int .i64 26, .int .i64 a, .int .i64 bb, .int .u16 (size : Int), .int .i64 n, .int .u8 (sign.toNat : Int), .int .i32 char, .string ⟨text.toArray⟩, .slice ad cuts.length cap] 27)).alloc (.cells #[.int .i64 0, .string ⟨#[]⟩, .int .i32 0, .int .i64 0] 45)).alloc (.cells #[.int .i64 (size : Int), .slice none 0 0] 113))).mono (fun _ _ q => q.elim) |>.trans' F1 (fun x hx q => q.elim (fun q => .inl q) (fun q => by omega))⟩
  have hT : ToldAt w1 (w.heap.size + 1) := HT1.out.fr F1 (fun q => by rcases q with q | q <;> omega)
  have t0 := hT.c0; have t1 := hT.c1; have t2 := hT.c2; have t3 := hT.c3; have z0 := hT.f 0; have z1 := hT.f 1; have z2 := hT.f 2; have z3 := hT.f 3
  have HT := Lib.hid hT
  clear hT
  have HS := Lib.hid S1
  have HSRC := Lib.hid hs1
  have HC1 := Lib.hid hc1
  clear S1 F1 A1 hs1
  have hcs : ∀ w', Src w' (.slice A k2 c2) g.txt → (convert 48 9 (.slice A k2 c2)).run Tryz.prog w' = .ok (.string ⟨g.txt.toArray⟩) w' := fun w' h => conv_str h
  go_wp2_with fail
  go_region_held3 (fun w' => w'.cell? ⟨w.heap.size + 1 + 1, 1, none⟩ = some (.slice A k2 c2) ∧ Src w' (.slice A k2 c2) g.txt) (first | exact ⟨HC1.out, HSRC.out.of_heap rfl⟩ | exact ⟨((just4 _ _ _ _ _ _).cell (World.block_lt_of_cell? _ _ HC1.out) (fun q => by have q : w.heap.size + 1 + 1 = w.heap.size + 1 := q; omega)).trans HC1.out, HSRC.out.told HT.out rfl _ _ _ _⟩) ((go_at_call 40; refine (said_nil _).mono ?_; rintro e w2 ⟨rfl, rfl⟩))
  all_goals
    go_wp2_with fail
    refine bodyPost_ret (v := Td.val ⟨g.txt.length, g.txt, 0, 0⟩) (by simp [results, Tryz.results28, go_sem, t0, t1, t2, t3, Td.val, Td.cells]) rfl ?_
    exact ⟨_, rfl, HS.out.skip (Fr.refl _ w) (by omega) HT.out (by first | exact just4 _ _ _ _ _ _ | exact (((Fr.refl (Just _) _).drew).trans (just4 _ _ _ _ _ _))), rfl⟩
set_option maxHeartbeats 1600000 in
set_option maxRecDepth 100000 in
theorem flow_27 (yp : Value) (b : Nat) (g : Gh) (w : World) (h : BufAt w b g) (ea : Addr) (he : w.cell? ⟨0, 0, none⟩ = some (errV ea)) (hU : U16s w ad cuts) (hsz : g.txt.length + text.length + 512 ≤ 1099511627776) (htl : text.length ≤ 2147483647) (hcl : cuts.length ≤ 1073741824) :
    Calls Tryz.prog 28 #[yp, .pointer (some ⟨b, 0, none⟩), .agg #[.int .i64 27, .int .i64 a, .int .i64 bb, .int .u16 (size : Int), .int .i64 0, .int .u8 (sign.toNat : Int), .int .i32 char, .string ⟨text.toArray⟩, .slice ad cuts.length cap]] w (WDPost w b g ⟨text.length, [], 0, 0⟩ (fun g' => g'.txt = g.txt ++ text)) := by
  have H := Lib.hid h
  have HB := Lib.hid (h.fr (((Fr.refl (fun _ => False) w).alloc _).alloc _) (fun _ _ q => q) : BufAt ((w.alloc (.cells #[.int .i64 27, .int .i64 a, .int .i64 bb, .int .u16 (size : Int), .int .i64 0, .int .u8 (sign.toNat : Int), .int .i32 char, .string ⟨text.toArray⟩, .slice ad cuts.length cap] 27)).alloc (.cells #[.int .i64 0, .string ⟨#[]⟩, .int .i32 0, .int .i64 0] 45)) b g)
  clear h
  have hU0 : U16s ((w.alloc (.cells #[.int .i64 27, .int .i64 a, .int .i64 bb, .int .u16 (size : Int), .int .i64 0, .int .u8 (sign.toNat : Int), .int .i32 char, .string ⟨text.toArray⟩, .slice ad cuts.length cap] 27)).alloc (.cells #[.int .i64 0, .string ⟨#[]⟩, .int .i32 0, .int .i64 0] 45)) ad cuts := hU.fr (((Fr.refl (fun _ => False) w).alloc _).alloc _) (fun _ _ _ q => q)
  have he0 : ((w.alloc (.cells #[.int .i64 27, .int .i64 a, .int .i64 bb, .int .u16 (size : Int), .int .i64 0, .int .u8 (sign.toNat : Int), .int .i32 char, .string ⟨text.toArray⟩, .slice ad cuts.length cap] 27)).alloc (.cells #[.int .i64 0, .string ⟨#[]⟩, .int .i32 0, .int .i64 0] 45)).cell? ⟨0, 0, none⟩ = some (errV ea) := (((((Fr.refl (fun _ => False) w).alloc _).alloc _) : Fr _ w ((w.alloc (.cells #[.int .i64 27, .int .i64 a, .int .i64 bb, .int .u16 (size : Int), .int .i64 0, .int .u8 (sign.toNat : Int), .int .i32 char, .string ⟨text.toArray⟩, .slice ad cuts.length cap] 27)).alloc (.cells #[.int .i64 0, .string ⟨#[]⟩, .int .i32 0, .int .i64 0] 45))).cell (World.block_lt_of_cell? _ _ he) (fun q => q)).trans he
  have hel : 0 < w.heap.size := World.block_lt_of_cell? _ _ he
  have hlt := H.out.lt
  have HU0 := Lib.hid hU0
  have HE0 := Lib.hid he0
  have HTOT := Lib.hid (show tot (piecesF text cuts) = text.length by unfold tot; rw [piecesF_flat])
  clear he he0 hU hU0
  go_enter Tryz.func28, Tryz.ntmps28
  go_wp2_with fail
  go_region_held3 (fun w' => w'.cell? ⟨w.heap.size, 7, none⟩ = some (.string ⟨text.toArray⟩) ∧ w'.cell? ⟨w.heap.size, 8, none⟩ = some (.slice ad cuts.length cap) ∧ w'.cell? ⟨w.heap.size, 4, none⟩ = some (.int .i64 0)) (go_keep) ((first | (go_at_call 62; refine (pieces_any text cuts ad cap _ (HU0.out.fr ((Fr.refl (fun _ => False) _).drew) (fun _ _ _ q => q)) (by omega) (by omega)).mono ?_; rintro e w1 ⟨v, rfl, hown, F1⟩; obtain ⟨A3, cap3, rfl⟩ := hown.value; have q7 : w1.cell? ⟨w.heap.size, 7, none⟩ = some (.string ⟨text.toArray⟩) := (F1.cell (by simp; omega) (fun q => q)).trans (by simp); have q8 : w1.cell? ⟨w.heap.size, 8, none⟩ = some (.slice ad cuts.length cap) := (F1.cell (by simp; omega) (fun q => q)).trans (by simp); have q4 : w1.cell? ⟨w.heap.size, 4, none⟩ = some (.int .i64 0) := (F1.cell (by simp; omega) (fun q => q)).trans (by simp); have hn7 := World.new_ne w1 _ q7; have HOWN := Lib.hid hown; have HF1 := Lib.hid F1; clear hown F1) | (go_at_call 61; have hFa : Fr (fun _ => False) ((w.alloc (.cells #[.int .i64 27, .int .i64 a, .int .i64 bb, .int .u16 (size : Int), .int .i64 0, .int .u8 (sign.toNat : Int), .int .i32 char, .string ⟨text.toArray⟩, .slice ad cuts.length cap] 27)).alloc (.cells #[.int .i64 0, .string ⟨#[]⟩, .int .i32 0, .int .i64 0] 45)) (w1.alloc (.cells #[.slice A3 (piecesF text cuts).length cap3, .bool false, .slice none 0 0] 118)) := ((Fr.refl (fun _ => False) ((w.alloc (.cells #[.int .i64 27, .int .i64 a, .int .i64 bb, .int .u16 (size : Int), .int .i64 0, .int .u8 (sign.toNat : Int), .int .i32 char, .string ⟨text.toArray⟩, .slice ad cuts.length cap] 27)).alloc (.cells #[.int .i64 0, .string ⟨#[]⟩, .int .i32 0, .int .i64 0] 45))).drew.trans HF1.out).alloc _; have hsz1 : w.heap.size + 1 + 1 ≤ w1.heap.size := (by have := HF1.out.size; simpa using this); refine (readFrom_src _ b g w1.heap.size (w.heap.size + 1 + 1) (piecesF text cuts) ea (HB.out.fr hFa (fun _ _ q => q)) (by have := SrcAt.new false HOWN.out HF1.out.size; simpa using this) (by omega) (by first | omega | (simp; done) | (simp; omega)) ((hFa.cell (World.block_lt_of_cell? _ _ HE0.out) (fun q => q)).trans HE0.out) (by omega) (by rw [HTOT.out]; exact hsz) (by rw [HTOT.out]; have := piecesF_len text cuts; omega)).mono ?_; rintro e w5 ⟨g5, ak, rfl, G5, hlr, htx, hs5, hx1, hx2, hx3⟩; rw [HTOT.out]; have hno : ∀ x, w.heap.size ≤ x → x < w.heap.size + 1 + 1 → ¬ (g.foot b x ∨ srcS (w1.alloc (.cells #[.slice A3 (piecesF text cuts).length cap3, .bool false, .slice none 0 0] 118)) (w.heap.size + 1 + 1) x) := (fun x h1 h2 q => q.elim (fun q => by have := H.out.foot_lt q; omega) (fun q => by have := q.1; omega)); have p7 : w5.cell? ⟨w.heap.size, 7, none⟩ = some (.string ⟨text.toArray⟩) := (G5.fr.cell (by first | omega | (simp; done) | (simp; omega)) (hno w.heap.size (Nat.le_refl _) (by omega))).trans ((((Fr.refl (fun _ => False) w1).alloc _).cell (World.block_lt_of_cell? _ _ q7) (fun q => q)).trans q7); have p8 : w5.cell? ⟨w.heap.size, 8, none⟩ = some (.slice ad cuts.length cap) := (G5.fr.cell (by first | omega | (simp; done) | (simp; omega)) (hno w.heap.size (Nat.le_refl _) (by omega))).trans ((((Fr.refl (fun _ => False) w1).alloc _).cell (World.block_lt_of_cell? _ _ q8) (fun q => q)).trans q8); have p4 : w5.cell? ⟨w.heap.size, 4, none⟩ = some (.int .i64 0) := (G5.fr.cell (by first | omega | (simp; done) | (simp; omega)) (hno w.heap.size (Nat.le_refl _) (by omega))).trans ((((Fr.refl (fun _ => False) w1).alloc _).cell (World.block_lt_of_cell? _ _ q4) (fun q => q)).trans q4); have hT : ToldAt w5 (w.heap.size + 1) := ((ToldAt.new2 w _).fr hFa (fun q => q)).fr G5.fr (hno (w.heap.size + 1) (by omega) (by omega)); have HS := Lib.hid (G5.step' (((((Fr.refl (fun _ => False) w).alloc _).alloc _) : Fr _ w ((w.alloc (.cells #[.int .i64 27, .int .i64 a, .int .i64 bb, .int .u16 (size : Int), .int .i64 0, .int .u8 (sign.toNat : Int), .int .i32 char, .string ⟨text.toArray⟩, .slice ad cuts.length cap] 27)).alloc (.cells #[.int .i64 0, .string ⟨#[]⟩, .int .i32 0, .int .i64 0] 45))).trans hFa) (fun x hx q => by have := q.1; omega)); have HTX := Lib.hid (show g5.txt = g.txt ++ text by rw [htx, piecesF_flat]); clear hlr htx hs5 hx1 hx2 hx3 G5 hno hFa)))
  have t0 := hT.c0; have t1 := hT.c1; have t2 := hT.c2; have t3 := hT.c3; have z0 := hT.f 0; have z1 := hT.f 1; have z2 := hT.f 2; have z3 := hT.f 3
  have HT := Lib.hid hT
  clear hT
  go_wp2_with fail
  refine (said_nil _).mono ?_
  rintro e w2 ⟨rfl, rfl⟩
  go_wp2_with fail
  refine bodyPost_ret (v := Td.val ⟨text.length, [], 0, 0⟩) (by simp [results, Tryz.results28, go_sem, t0, t1, t2, t3, Td.val, Td.cells]) rfl ?_
  exact ⟨_, rfl, HS.out.skip (Fr.refl _ w) (by omega) HT.out (just4 _ _ _ _ _ _), HTX.out⟩
end
end Go.Proofs.YtkggebhkjgjijaaGreatDoor

namespace Go.Proofs.YtkggebhkjgjijaaGreatDoor
open Go Go.RowKit

theorem among_any (i n : Int) (w : World) : Calls Tryz.prog 24 #[.int .i64 i, .int .i64 n] w fun e w' => e = .returned (.bool (decide (0 ≤ i ∧ i < n))) ∧ w' = w := by
  by_cases h : 0 ≤ i
  · go_enter Tryz.func24, Tryz.ntmps24
    go_wp2_with fail
    go_ret
    exact ⟨by simp [h], rfl⟩
  · go_enter Tryz.func24, Tryz.ntmps24
    go_wp2_with fail
    go_ret
    exact ⟨by simp; omega, rfl⟩
theorem among_yes (i n : Nat) (h : i < n) (w : World) : Calls Tryz.prog 24 #[.int .i64 (i : Int), .int .i64 (n : Int)] w fun e w' => e = .returned (.bool true) ∧ w' = w :=
  (among_any i n w).mono fun _ _ ⟨h1, h2⟩ => ⟨by rw [h1]; simp; omega, h2⟩
/-- The yard behind a call of one buffer. -/
def CBPost (w : World) (base yb : Nat) (bs : List (Nat × Gh)) (ds : List (Nat × BG)) (i b : Nat) (t : Td) (R : Gh → Prop) (e : Ending) (w' : World) : Prop :=
  ∃ g', e = .returned t.val ∧ YardStep w base yb w' (bs.set i (b, g')) ds ∧ R g'
theorem YardStep.skip {w0 w w' w'' : World} {base yb x : Nat} {bs : List (Nat × Gh)} {ds : List (Nat × BG)} (S : YardStep w base yb w' bs ds) (h0 : Fr (fun _ => False) w0 w) (hx : w0.heap.size ≤ x) (hT : ToldAt w' x) (h1 : Fr (Just x) w' w'') : YardStep w0 base yb w'' bs ds := by
  refine ⟨S.at'.fr h1 (fun z hz q => .inr ⟨45, ?_, by decide, by decide, by decide, by decide, by decide, by decide⟩) (fun z hz q => ?_), ?_⟩
  · obtain rfl : z = x := q
    exact ⟨_, _, hT.st⟩
  · obtain rfl : z = x := q
    rcases hz with hz | hz
    · exact hz.ne (by decide) ⟨_, _, hT.st⟩
    · exact hz.ne (by decide) ⟨_, _, hT.st⟩
  · refine (Fr.yd' h0 S.fr).trans' h1 fun z hz q => ?_
    obtain rfl : z = x := q
    omega
theorem YardStep.told {w w' : World} {base yb x : Nat} {bs : List (Nat × Gh)} {ds : List (Nat × BG)} (S : YardStep w base yb w' bs ds) (h : ToldAt w x) : ToldAt w' x :=
  h.fr S.fr fun q => q.not_typed ⟨_, _, h.st⟩ (by decide) (by decide) (by decide)

section
variable (bb : Int) (size : Nat) (n : Int) (sign : UInt8) (char : Int) (text : List UInt8) (cuts : List Nat) (ad : Option Addr) (cap : Nat)
set_option maxHeartbeats 1600000 in
set_option maxRecDepth 100000 in
theorem call_w (op : Int) (hop : op = 1 ∨ op = 2 ∨ op = 3 ∨ op = 4 ∨ op = 5) (w : World) (base yb i b : Nat) (g : Gh) (bs : List (Nat × Gh)) (ds : List (Nat × BG)) (tn : Int) (tt : List UInt8) (tc ts : Int) (R : Gh → Prop) (hY : YardAt w base yb bs ds) (hi : bs[i]? = some (b, g))
    (hc : ∀ w1, Fr (fun _ => False) w w1 → Calls Tryz.prog 26 #[.pointer (some ⟨b, 0, none⟩), .agg #[.int .i64 op, .int .i64 (i : Int), .int .i64 bb, .int .u16 (size : Int), .int .i64 n, .int .u8 (sign.toNat : Int), .int .i32 char, .string ⟨text.toArray⟩, .slice ad cuts.length cap]] w1 (WDPost w1 b g ⟨tn, tt, tc, ts⟩ R)) :
    Calls Tryz.prog 14 #[.pointer (some ⟨yb, 0, none⟩), .agg #[.int .i64 op, .int .i64 (i : Int), .int .i64 bb, .int .u16 (size : Int), .int .i64 n, .int .u8 (sign.toNat : Int), .int .i32 char, .string ⟨text.toArray⟩, .slice ad cuts.length cap]] w (CBPost w base yb bs ds i b ⟨tn, tt, tc, ts⟩ R) := by
  obtain ⟨A, cp, A', cp', lab, hC⟩ := hY
  obtain ⟨rb, rfl, hrt, hrc⟩ := hC.bp i _ hi
  have hil : i < bs.length := (List.getElem?_eq_some_iff.1 hi).1
  have y0 : w.cell? ⟨yb, 0, none⟩ = some (.slice (some ⟨rb, 0, none⟩) bs.length cp) := by rw [cell_of_row w yb 0 _ _ _ hC.st]; rfl
  have hi0 : (0 : Int) ≤ (i : Int) := by omega
  have hi1 : (i : Int) < (bs.length : Int) := by omega
  simp only at hrc
  have hY : YardAt w base yb bs ds := ⟨_, _, _, _, _, hC⟩
  obtain ⟨w0, hw0⟩ : ∃ w0, w0 = ((w.alloc (.cells #[.int .i64 op, .int .i64 (i : Int), .int .i64 bb, .int .u16 (size : Int), .int .i64 n, .int .u8 (sign.toNat : Int), .int .i32 char, .string ⟨text.toArray⟩, .slice ad cuts.length cap] 27)).alloc (.cells #[.int .i64 0, .string ⟨#[]⟩, .int .i32 0, .int .i64 0] 45)) := ⟨_, rfl⟩
  have hF0 : Fr (fun _ => False) w w0 := by rw [hw0]; exact (((Fr.refl (fun _ => False) w).alloc _).alloc _)
  have e0 : w0.cell? ⟨w.heap.size, 0, none⟩ = some (.int .i64 op) := by rw [hw0]; simp
  have e1 : w0.cell? ⟨w.heap.size, 1, none⟩ = some (.int .i64 (i : Int)) := by rw [hw0]; simp
  have e2 : w0.cell? ⟨w.heap.size, 2, none⟩ = some (.int .i64 bb) := by rw [hw0]; simp
  have e3 : w0.cell? ⟨w.heap.size, 3, none⟩ = some (.int .u16 (size : Int)) := by rw [hw0]; simp
  have e4 : w0.cell? ⟨w.heap.size, 4, none⟩ = some (.int .i64 n) := by rw [hw0]; simp
  have e5 : w0.cell? ⟨w.heap.size, 5, none⟩ = some (.int .u8 (sign.toNat : Int)) := by rw [hw0]; simp
  have e6 : w0.cell? ⟨w.heap.size, 6, none⟩ = some (.int .i32 char) := by rw [hw0]; simp
  have e7 : w0.cell? ⟨w.heap.size, 7, none⟩ = some (.string ⟨text.toArray⟩) := by rw [hw0]; simp
  have e8 : w0.cell? ⟨w.heap.size, 8, none⟩ = some (.slice ad cuts.length cap) := by rw [hw0]; simp
  have y1 : w0.cell? ⟨yb, 0, none⟩ = some (.slice (some ⟨rb, 0, none⟩) bs.length cp) := (hF0.cell (World.block_lt_of_cell? _ _ y0) (fun q => q)).trans y0
  have r1 : w0.cell? ⟨rb, i, none⟩ = some (.pointer (some ⟨b, 0, none⟩)) := (hF0.cell (World.block_lt_of_cell? _ _ hrc) (fun q => q)).trans hrc
  have HT0 := Lib.hid (show ToldAt w0 (w.heap.size + 1) by rw [hw0]; exact ToldAt.new2 w _)
  have HY := Lib.hid (hY.fr0 hF0)
  have HF0 := Lib.hid hF0
  have HI := Lib.hid hi
  have HC := Lib.hid hc
  have HW0 := Lib.hid hw0
  clear hC hc hi hrt hY hF0 y0 hrc hw0
  rcases hop with rfl | rfl | rfl | rfl | rfl
  all_goals
    go_enter Tryz.func14, Tryz.ntmps14
    go_wp2_with fail
    rw [← HW0.out]
    go_quiet ((go_at_call 24; exact Calls.quiet_of_same (among_yes i bs.length hil _)))
    go_wp2_with fail
    go_quiet (fail)
    go_wp2_with fail
    refine (HC.out _ (HF0.out.drewN _)).mono ?_
    rintro e w1 ⟨g', rfl, S1, hR⟩
    have S2 := (HY.out.fr0 ((Fr.refl (fun _ => False) w0).drewN _)).one HI.out S1
    have hT : ToldAt w1 (w.heap.size + 1) := S2.told (HT0.out.fr ((Fr.refl (fun _ => False) w0).drewN _) (fun q => q))
    have t0 := hT.c0; have t1 := hT.c1; have t2 := hT.c2; have t3 := hT.c3; have z0 := hT.f 0; have z1 := hT.f 1; have z2 := hT.f 2; have z3 := hT.f 3
    have HT := Lib.hid hT
    have HS := Lib.hid S2
    have HR := Lib.hid hR
    clear hT S1 S2 hR
    simp only [Td.val, Td.cells]
    go_wp2_with fail
    refine bodyPost_ret (v := Td.val ⟨tn, tt, tc, ts⟩) (by simp [results, Tryz.results14, go_sem, t0, t1, t2, t3, Td.val, Td.cells]) rfl ?_
    exact ⟨g', rfl, HS.out.skip (HF0.out.drewN _) (by omega) HT.out (just4 _ _ _ _ _ _), HR.out⟩
set_option maxHeartbeats 1600000 in
set_option maxRecDepth 100000 in
theorem call_r (op : Int) (hop : op = 6 ∨ op = 7 ∨ op = 8 ∨ op = 9 ∨ op = 10 ∨ op = 11 ∨ op = 12 ∨ op = 13 ∨ op = 14) (w : World) (base yb i b : Nat) (g : Gh) (bs : List (Nat × Gh)) (ds : List (Nat × BG)) (tn : Int) (tt : List UInt8) (tc ts : Int) (R : Gh → Prop) (hY : YardAt w base yb bs ds) (hi : bs[i]? = some (b, g))
    (hc : ∀ w1, Fr (fun _ => False) w w1 → Calls Tryz.prog 27 #[.pointer (some ⟨b, 0, none⟩), .agg #[.int .i64 op, .int .i64 (i : Int), .int .i64 bb, .int .u16 (size : Int), .int .i64 n, .int .u8 (sign.toNat : Int), .int .i32 char, .string ⟨text.toArray⟩, .slice ad cuts.length cap]] w1 (WDPost w1 b g ⟨tn, tt, tc, ts⟩ R)) :
    Calls Tryz.prog 14 #[.pointer (some ⟨yb, 0, none⟩), .agg #[.int .i64 op, .int .i64 (i : Int), .int .i64 bb, .int .u16 (size : Int), .int .i64 n, .int .u8 (sign.toNat : Int), .int .i32 char, .string ⟨text.toArray⟩, .slice ad cuts.length cap]] w (CBPost w base yb bs ds i b ⟨tn, tt, tc, ts⟩ R) := by
  obtain ⟨A, cp, A', cp', lab, hC⟩ := hY
  obtain ⟨rb, rfl, hrt, hrc⟩ := hC.bp i _ hi
  have hil : i < bs.length := (List.getElem?_eq_some_iff.1 hi).1
  have y0 : w.cell? ⟨yb, 0, none⟩ = some (.slice (some ⟨rb, 0, none⟩) bs.length cp) := by rw [cell_of_row w yb 0 _ _ _ hC.st]; rfl
  have hi0 : (0 : Int) ≤ (i : Int) := by omega
  have hi1 : (i : Int) < (bs.length : Int) := by omega
  simp only at hrc
  have hY : YardAt w base yb bs ds := ⟨_, _, _, _, _, hC⟩
  obtain ⟨w0, hw0⟩ : ∃ w0, w0 = ((w.alloc (.cells #[.int .i64 op, .int .i64 (i : Int), .int .i64 bb, .int .u16 (size : Int), .int .i64 n, .int .u8 (sign.toNat : Int), .int .i32 char, .string ⟨text.toArray⟩, .slice ad cuts.length cap] 27)).alloc (.cells #[.int .i64 0, .string ⟨#[]⟩, .int .i32 0, .int .i64 0] 45)) := ⟨_, rfl⟩
  have hF0 : Fr (fun _ => False) w w0 := by rw [hw0]; exact (((Fr.refl (fun _ => False) w).alloc _).alloc _)
  have e0 : w0.cell? ⟨w.heap.size, 0, none⟩ = some (.int .i64 op) := by rw [hw0]; simp
  have e1 : w0.cell? ⟨w.heap.size, 1, none⟩ = some (.int .i64 (i : Int)) := by rw [hw0]; simp
  have e2 : w0.cell? ⟨w.heap.size, 2, none⟩ = some (.int .i64 bb) := by rw [hw0]; simp
  have e3 : w0.cell? ⟨w.heap.size, 3, none⟩ = some (.int .u16 (size : Int)) := by rw [hw0]; simp
  have e4 : w0.cell? ⟨w.heap.size, 4, none⟩ = some (.int .i64 n) := by rw [hw0]; simp
  have e5 : w0.cell? ⟨w.heap.size, 5, none⟩ = some (.int .u8 (sign.toNat : Int)) := by rw [hw0]; simp
  have e6 : w0.cell? ⟨w.heap.size, 6, none⟩ = some (.int .i32 char) := by rw [hw0]; simp
  have e7 : w0.cell? ⟨w.heap.size, 7, none⟩ = some (.string ⟨text.toArray⟩) := by rw [hw0]; simp
  have e8 : w0.cell? ⟨w.heap.size, 8, none⟩ = some (.slice ad cuts.length cap) := by rw [hw0]; simp
  have y1 : w0.cell? ⟨yb, 0, none⟩ = some (.slice (some ⟨rb, 0, none⟩) bs.length cp) := (hF0.cell (World.block_lt_of_cell? _ _ y0) (fun q => q)).trans y0
  have r1 : w0.cell? ⟨rb, i, none⟩ = some (.pointer (some ⟨b, 0, none⟩)) := (hF0.cell (World.block_lt_of_cell? _ _ hrc) (fun q => q)).trans hrc
  have HT0 := Lib.hid (show ToldAt w0 (w.heap.size + 1) by rw [hw0]; exact ToldAt.new2 w _)
  have HY := Lib.hid (hY.fr0 hF0)
  have HF0 := Lib.hid hF0
  have HI := Lib.hid hi
  have HC := Lib.hid hc
  have HW0 := Lib.hid hw0
  clear hC hc hi hrt hY hF0 y0 hrc hw0
  rcases hop with rfl | rfl | rfl | rfl | rfl | rfl | rfl | rfl | rfl
  all_goals
    go_enter Tryz.func14, Tryz.ntmps14
    go_wp2_with fail
    rw [← HW0.out]
    go_quiet ((go_at_call 24; exact Calls.quiet_of_same (among_yes i bs.length hil _)))
    go_wp2_with fail
    go_quiet (fail)
    go_wp2_with fail
    refine (HC.out _ (HF0.out.drewN _)).mono ?_
    rintro e w1 ⟨g', rfl, S1, hR⟩
    have S2 := (HY.out.fr0 ((Fr.refl (fun _ => False) w0).drewN _)).one HI.out S1
    have hT : ToldAt w1 (w.heap.size + 1) := S2.told (HT0.out.fr ((Fr.refl (fun _ => False) w0).drewN _) (fun q => q))
    have t0 := hT.c0; have t1 := hT.c1; have t2 := hT.c2; have t3 := hT.c3; have z0 := hT.f 0; have z1 := hT.f 1; have z2 := hT.f 2; have z3 := hT.f 3
    have HT := Lib.hid hT
    have HS := Lib.hid S2
    have HR := Lib.hid hR
    clear hT S1 S2 hR
    simp only [Td.val, Td.cells]
    go_wp2_with fail
    refine bodyPost_ret (v := Td.val ⟨tn, tt, tc, ts⟩) (by simp [results, Tryz.results14, go_sem, t0, t1, t2, t3, Td.val, Td.cells]) rfl ?_
    exact ⟨g', rfl, HS.out.skip (HF0.out.drewN _) (by omega) HT.out (just4 _ _ _ _ _ _), HR.out⟩
set_option maxHeartbeats 1600000 in
set_option maxRecDepth 100000 in
theorem call_l (op : Int) (hop : op = 15 ∨ op = 16 ∨ op = 17 ∨ op = 18 ∨ op = 19 ∨ op = 20 ∨ op = 21 ∨ op = 22) (w : World) (base yb i b : Nat) (g : Gh) (bs : List (Nat × Gh)) (ds : List (Nat × BG)) (tn : Int) (tt : List UInt8) (tc ts : Int) (R : Gh → Prop) (hY : YardAt w base yb bs ds) (hi : bs[i]? = some (b, g))
    (hc : ∀ w1, Fr (fun _ => False) w w1 → Calls Tryz.prog 29 #[.pointer (some ⟨b, 0, none⟩), .agg #[.int .i64 op, .int .i64 (i : Int), .int .i64 bb, .int .u16 (size : Int), .int .i64 n, .int .u8 (sign.toNat : Int), .int .i32 char, .string ⟨text.toArray⟩, .slice ad cuts.length cap]] w1 (WDPost w1 b g ⟨tn, tt, tc, ts⟩ R)) :
    Calls Tryz.prog 14 #[.pointer (some ⟨yb, 0, none⟩), .agg #[.int .i64 op, .int .i64 (i : Int), .int .i64 bb, .int .u16 (size : Int), .int .i64 n, .int .u8 (sign.toNat : Int), .int .i32 char, .string ⟨text.toArray⟩, .slice ad cuts.length cap]] w (CBPost w base yb bs ds i b ⟨tn, tt, tc, ts⟩ R) := by
  obtain ⟨A, cp, A', cp', lab, hC⟩ := hY
  obtain ⟨rb, rfl, hrt, hrc⟩ := hC.bp i _ hi
  have hil : i < bs.length := (List.getElem?_eq_some_iff.1 hi).1
  have y0 : w.cell? ⟨yb, 0, none⟩ = some (.slice (some ⟨rb, 0, none⟩) bs.length cp) := by rw [cell_of_row w yb 0 _ _ _ hC.st]; rfl
  have hi0 : (0 : Int) ≤ (i : Int) := by omega
  have hi1 : (i : Int) < (bs.length : Int) := by omega
  simp only at hrc
  have hY : YardAt w base yb bs ds := ⟨_, _, _, _, _, hC⟩
  obtain ⟨w0, hw0⟩ : ∃ w0, w0 = ((w.alloc (.cells #[.int .i64 op, .int .i64 (i : Int), .int .i64 bb, .int .u16 (size : Int), .int .i64 n, .int .u8 (sign.toNat : Int), .int .i32 char, .string ⟨text.toArray⟩, .slice ad cuts.length cap] 27)).alloc (.cells #[.int .i64 0, .string ⟨#[]⟩, .int .i32 0, .int .i64 0] 45)) := ⟨_, rfl⟩
  have hF0 : Fr (fun _ => False) w w0 := by rw [hw0]; exact (((Fr.refl (fun _ => False) w).alloc _).alloc _)
  have e0 : w0.cell? ⟨w.heap.size, 0, none⟩ = some (.int .i64 op) := by rw [hw0]; simp
  have e1 : w0.cell? ⟨w.heap.size, 1, none⟩ = some (.int .i64 (i : Int)) := by rw [hw0]; simp
  have e2 : w0.cell? ⟨w.heap.size, 2, none⟩ = some (.int .i64 bb) := by rw [hw0]; simp
  have e3 : w0.cell? ⟨w.heap.size, 3, none⟩ = some (.int .u16 (size : Int)) := by rw [hw0]; simp
  have e4 : w0.cell? ⟨w.heap.size, 4, none⟩ = some (.int .i64 n) := by rw [hw0]; simp
  have e5 : w0.cell? ⟨w.heap.size, 5, none⟩ = some (.int .u8 (sign.toNat : Int)) := by rw [hw0]; simp
  have e6 : w0.cell? ⟨w.heap.size, 6, none⟩ = some (.int .i32 char) := by rw [hw0]; simp
  have e7 : w0.cell? ⟨w.heap.size, 7, none⟩ = some (.string ⟨text.toArray⟩) := by rw [hw0]; simp
  have e8 : w0.cell? ⟨w.heap.size, 8, none⟩ = some (.slice ad cuts.length cap) := by rw [hw0]; simp
  have y1 : w0.cell? ⟨yb, 0, none⟩ = some (.slice (some ⟨rb, 0, none⟩) bs.length cp) := (hF0.cell (World.block_lt_of_cell? _ _ y0) (fun q => q)).trans y0
  have r1 : w0.cell? ⟨rb, i, none⟩ = some (.pointer (some ⟨b, 0, none⟩)) := (hF0.cell (World.block_lt_of_cell? _ _ hrc) (fun q => q)).trans hrc
  have HT0 := Lib.hid (show ToldAt w0 (w.heap.size + 1) by rw [hw0]; exact ToldAt.new2 w _)
  have HY := Lib.hid (hY.fr0 hF0)
  have HF0 := Lib.hid hF0
  have HI := Lib.hid hi
  have HC := Lib.hid hc
  have HW0 := Lib.hid hw0
  clear hC hc hi hrt hY hF0 y0 hrc hw0
  rcases hop with rfl | rfl | rfl | rfl | rfl | rfl | rfl | rfl
  all_goals
    go_enter Tryz.func14, Tryz.ntmps14
    go_wp2_with fail
    rw [← HW0.out]
    go_quiet ((go_at_call 24; exact Calls.quiet_of_same (among_yes i bs.length hil _)))
    go_wp2_with fail
    go_quiet (fail)
    go_wp2_with fail
    refine (HC.out _ (HF0.out.drewN _)).mono ?_
    rintro e w1 ⟨g', rfl, S1, hR⟩
    have S2 := (HY.out.fr0 ((Fr.refl (fun _ => False) w0).drewN _)).one HI.out S1
    have hT : ToldAt w1 (w.heap.size + 1) := S2.told (HT0.out.fr ((Fr.refl (fun _ => False) w0).drewN _) (fun q => q))
    have t0 := hT.c0; have t1 := hT.c1; have t2 := hT.c2; have t3 := hT.c3; have z0 := hT.f 0; have z1 := hT.f 1; have z2 := hT.f 2; have z3 := hT.f 3
    have HT := Lib.hid hT
    have HS := Lib.hid S2
    have HR := Lib.hid hR
    clear hT S1 S2 hR
    simp only [Td.val, Td.cells]
    go_wp2_with fail
    refine bodyPost_ret (v := Td.val ⟨tn, tt, tc, ts⟩) (by simp [results, Tryz.results14, go_sem, t0, t1, t2, t3, Td.val, Td.cells]) rfl ?_
    exact ⟨g', rfl, HS.out.skip (HF0.out.drewN _) (by omega) HT.out (just4 _ _ _ _ _ _), HR.out⟩
end
end Go.Proofs.YtkggebhkjgjijaaGreatDoor
