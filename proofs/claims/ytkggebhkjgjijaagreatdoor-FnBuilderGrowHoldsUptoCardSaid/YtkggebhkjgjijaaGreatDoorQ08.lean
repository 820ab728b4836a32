/- ReadFrom. -/
import Derived.Test.YtkggebhkjgjijaaGreatDoorQ07
import Derived.LaidEql
import Derived.Deep.LoopGhost
namespace Go.Proofs.YtkggebhkjgjijaaGreatDoor
open Go Go.RowKit

theorem err_comp : (Tryz.prog.info? 145).map (·.comparable) = some true := by kernel_rfl
theorem err_size : (Tryz.prog.info? 147).map (·.size) = some 1 := by kernel_rfl
theorem err_same (a : Addr) (w : World) : (binOp .eql 86 (errV a) (errV a)).run Tryz.prog w = .ok (.bool true) w := by
  obtain ⟨i, hi, hcmp⟩ := Option.map_eq_some_iff.1 err_comp
  obtain ⟨j, hj, hjs⟩ := Option.map_eq_some_iff.1 err_size
  exact run_eql_iface_ptr_same (P := Tryz.prog) w a Tryz.underlying86 Tryz.underlying145 hi hcmp hj
theorem err_nil (a : Addr) (w : World) : (binOp .eql 86 .nilIface (errV a)).run Tryz.prog w = .ok (.bool false) w :=
  run_eql_iface_nil_left (P := Tryz.prog) w _ _ Tryz.underlying86
theorem guard_nil (x y : Operand) (b : Addr) (w : World) : (eqGuard .eql 86 x y .nilIface (errV b)).run Tryz.prog w = .ok () w := by kernel_rfl
/-- The reader's method. -/
theorem nil_src (a : Addr) (w : World) : (nilAhead 291 114 (.pointer (some a)) "Read").run Tryz.prog w = .ok (some false) w := by kernel_rfl
theorem method_src (a : Addr) (w : World) : (method 291 114 (.pointer (some a)) "Read").run Tryz.prog w = .ok (110, .pointer (some a)) w := by kernel_rfl

/-- A buffer goes on from g to g'; blocks of S may be written besides. -/
structure BufGo (S : Nat → Prop) (w : World) (b : Nat) (g : Gh) (w' : World) (g' : Gh) : Prop where
  at' : BufAt w' b g'
  row : g'.row = g.row ∨ ∃ r, g'.row = some r ∧ w.heap.size ≤ r
  fr : Fr (fun x => g.foot b x ∨ S x) w w'
theorem BufGo.of_step {S : Nat → Prop} {w w' : World} {b : Nat} {g g' : Gh} (h : BufStep w b g w' g') : BufGo S w b g w' g' := ⟨h.at', h.row, h.fr.mono fun _ _ q => .inl q⟩
theorem BufGo.trans {S S' : Nat → Prop} {w w1 w2 : World} {b : Nat} {g g1 g2 : Gh} (h : BufGo S w b g w1 g1) (k : BufGo S' w1 b g1 w2 g2) (hS : ∀ x, x < w.heap.size → S' x → g.foot b x ∨ S x) : BufGo S w b g w2 g2 := by
  refine ⟨k.at', ?_, h.fr.trans' k.fr ?_⟩
  · rcases k.row with e | ⟨r, e, hr⟩
    · rcases h.row with e' | ⟨r, e', hr⟩
      · exact .inl (e.trans e')
      · exact .inr ⟨r, e.trans e', hr⟩
    · exact .inr ⟨r, e, Nat.le_trans h.fr.size hr⟩
  · intro i hi q
    rcases q with q | q
    · rcases q with q | q
      · exact .inl (.inl q)
      · rcases h.row with e' | ⟨r, e', hr⟩
        · exact .inl (.inr (e' ▸ q))
        · rw [e'] at q
          injection q with q
          omega
    · exact hS i hi q

/-- A variable that holds an error lies outside of a buffer. -/
theorem BufAt.ne_err {w : World} {b x : Nat} {g : Gh} {a : Addr} (h : BufAt w b g) (hx : w.cell? ⟨x, 0, none⟩ = some (errV a)) : ¬ g.foot b x := by
  rintro (rfl | hr)
  · rw [h.c0] at hx
    injection hx with hx
    cases hx
  · obtain ⟨fz, h1, _⟩ := h.row x hr
    rw [cell_of_row w x 0 _ _ _ h1] at hx
    cases hl : g.all with
    | nil => rw [hl] at hx; simp [bcs] at hx
    | cons y l =>
      rw [hl] at hx
      simp only [bcs, List.map_cons, List.getElem?_toArray, List.getElem?_cons_zero, Option.some.injEq] at hx
      cases hx
theorem SrcAt.fr {S : Nat → Prop} {w w' : World} {sb base : Nat} {ps : List (List UInt8)} {fl : Bool} {ak : List Nat} (h : SrcAt w sb base ps fl ak) (hf : Fr S w w') (hn : ∀ x, S x → base ≤ x → Typed w x 5) : SrcAt w' sb base ps fl ak := by
  obtain ⟨A, c, v, h⟩ := h
  exact ⟨A, c, v, h.fr hf hn⟩
theorem BufAt.foot_u8 {w : World} {b x base : Nat} {g : Gh} (h : BufAt w b g) (hb : b < base) (hx : g.foot b x) (hbx : base ≤ x) : Typed w x 5 := by
  rcases hx with rfl | hr
  · omega
  · obtain ⟨fz, h1, _⟩ := h.row x hr
    exact ⟨_, _, h1⟩
theorem BufAt.src_apart {w : World} {b base x : Nat} {g : Gh} (h : BufAt w b g) (hb : b < base) (hx : g.foot b x) : ¬ srcS w base x := fun q => q.2 (h.foot_u8 hb hx q.1)

/-- How many bytes pieces have together. -/
def tot (ps : List (List UInt8)) : Nat := ps.flatten.length
theorem tot_nil : tot [] = 0 := rfl
theorem tot_cons (p : List UInt8) (ps : List (List UInt8)) : tot (p :: ps) = p.length + tot ps := by simp [tot]
theorem tot_next (p : List UInt8) (rest : List (List UInt8)) (n : Nat) : tot (psNext p rest n) + min p.length n = tot (p :: rest) := by
  unfold psNext
  split
  · rw [tot_cons]; omega
  · rw [tot_cons, tot_cons]; simp; omega
theorem flat_next (p : List UInt8) (rest : List (List UInt8)) (n : Nat) : p.take n ++ (psNext p rest n).flatten = (p :: rest).flatten := by
  unfold psNext
  split
  · rw [List.take_of_length_le (by omega)]; rfl
  · simp only [List.flatten_cons]; rw [← List.append_assoc, List.take_append_drop]
theorem meas_next (p : List UInt8) (rest : List (List UInt8)) (n : Nat) (hn : 0 < n) : tot (psNext p rest n) + (psNext p rest n).length < tot (p :: rest) + (p :: rest).length := by
  have := tot_next p rest n
  unfold psNext at *
  split
  · rename_i h; rw [if_pos h] at this; simp only [List.length_cons]; omega
  · rename_i h; rw [if_neg h] at this; simp only [List.length_cons] at *; omega
/-- How far ReadFrom has come. -/
structure RF (w0 : World) (b : Nat) (g0 : Gh) (sb base : Nat) (ps0 : List (List UInt8)) (fl : Bool) (wr : World) (cnt : Nat) (g : Gh) (ps : List (List UInt8)) (ak : List Nat) : Prop where
  go : BufGo (srcS w0 base) w0 b g0 wr g
  lr : g.lr = 0
  txt : g.txt ++ ps.flatten = g0.txt ++ ps0.flatten
  src : SrcAt wr sb base ps fl ak
  min : ∀ n ∈ ak, 512 ≤ n
  cnt : cnt + tot ps = tot ps0
  few : ak.length + (tot ps + ps.length) ≤ tot ps0 + ps0.length
  cap : g0.len + tot ps0 + 512 ≤ g0.all.length → g.all.length = g0.all.length ∧ g.len + tot ps + 512 ≤ g.all.length

def RFPost (w0 : World) (b : Nat) (g0 : Gh) (sb base : Nat) (ps0 : List (List UInt8)) (fl : Bool) (ev : Value) (e : Ending) (w' : World) : Prop :=
  ∃ g ak, e = .returned (.tuple #[.int .i64 (tot ps0 : Int), ev]) ∧ BufGo (srcS w0 base) w0 b g0 w' g ∧ g.lr = 0 ∧ g.txt = g0.txt ++ ps0.flatten ∧ SrcAt w' sb base [] fl ak ∧ (∀ n ∈ ak, 512 ≤ n) ∧ ak ≠ [] ∧
    (g0.len + tot ps0 + 512 ≤ g0.all.length → g.all.length = g0.all.length)

theorem srcS_back {F : Nat → Prop} {w0 w : World} {base : Nat} (hf : Fr (fun x => F x ∨ srcS w0 base x) w0 w) (x : Nat) (hx : x < w0.heap.size) (h : srcS w base x) : F x ∨ srcS w0 base x := by
  by_cases hF : F x
  · exact .inl hF
  · refine .inr ⟨h.1, fun ht => ?_⟩
    have hn : ¬ (F x ∨ srcS w0 base x) := fun q => q.elim hF (fun q => q.2 ht)
    obtain ⟨cs, fz, k⟩ := ht
    exact h.2 ⟨cs, fz, (hf.block x hx hn).trans k⟩
theorem BufStep.drew {w w' : World} {b : Nat} {g g' : Gh} (h : BufStep w b g w' g') : BufStep w b g w'.drew g' := ⟨h.at'.drew, h.row, h.fr.drew⟩
theorem BufGo.step {S : Nat → Prop} {w w1 w2 : World} {b : Nat} {g g1 g2 : Gh} (h : BufGo S w b g w1 g1) (k : BufStep w1 b g1 w2 g2) : BufGo S w b g w2 g2 :=
  h.trans (S' := fun _ => False) (BufGo.of_step k) (fun _ _ q => q.elim)
theorem BufGo.src {base : Nat} {w w1 w2 : World} {b : Nat} {g g1 g2 : Gh} (h : BufGo (srcS w base) w b g w1 g1) (k : BufGo (srcS w1 base) w1 b g1 w2 g2) : BufGo (srcS w base) w b g w2 g2 :=
  h.trans k (fun x hx q => srcS_back h.fr x hx q)

theorem BufRaw.putAllS {S : Nat → Prop} {w w' : World} {b r : Nat} {g : Gh} {l : List UInt8} (h : BufRaw w b g) (hr : g.row = some r) (hf : Fr S w w') (hb : ¬ S b) (hrow : Row 5 w' r l) (hl : l.length = g.all.length) : BufRaw w' b { g with all := l } := by
  refine ⟨?_, fun r' hr' => ?_, fun q => ?_, by rw [hl]; exact h.sz⟩
  · simp only [hl]
    exact hf.blk h.st hb
  · simp only [hr, Option.some.injEq] at hr'
    subst hr'
    exact hrow
  · simp only [hr] at q
    cases q

/-- The last round: the reader says io.EOF. -/
theorem rf_end {w0 : World} {b : Nat} {g0 : Gh} {sb base : Nat} {ps0 : List (List UInt8)} {fl : Bool} {wr w2 w3 w4 : World} {cnt : Nat} {g g1 : Gh} {ak : List Nat} {i : Nat} {ev : Value}
    (hI : RF w0 b g0 sb base ps0 fl wr cnt g [] ak) (hG : Grown g 512 i g1) (hl : g1.len ≤ g1.all.length) (hS2 : BufStep wr b g w2 { g1 with len := i }) (hS3 : SrcAt w3 sb base [] fl (ak ++ [g1.all.length - i])) (hF3 : Fr (srcS w2.drew base) w2.drew w3) (hB3 : BufAt w3 b { g1 with len := i })
    (hB4 : BufRaw w4 b { g1 with len := i }) (hF4 : Fr (Just b) w3 w4) (hb : b < base) : RFPost w0 b g0 sb base ps0 fl ev (.returned (.tuple #[.int .i64 (cnt : Int), ev])) w4 := by
  have hcnt' : cnt = tot ps0 := by have := hI.cnt; rw [tot_nil] at this; omega
  have hlen := hG.len
  have hA4 : BufAt w4 b { g1 with len := i } := ⟨hB4, hG.off, by simp only; omega⟩
  refine ⟨{ g1 with len := i }, ak ++ [g1.all.length - i], by rw [hcnt'], ?_, ?_, ?_, ?_, ?_, by simp, ?_⟩
  · exact ((hI.go.step hS2.drew).src ⟨hB3, .inl rfl, hF3.mono fun _ _ q => .inr q⟩).step (BufStep.of_just hA4 rfl hF4)
  · rcases hG.lr with e | e
    · simp only at e ⊢; rw [e]; exact hI.lr
    · exact e
  · have h1 := hG.txt
    have h2 := hI.txt
    simp only [List.flatten_nil, List.append_nil] at h2
    rw [← h2, ← h1]
    rfl
  · exact hS3.fr hF4 (fun x q k => by have q : x = b := q; omega)
  · intro x hx
    rcases List.mem_append.1 hx with hx | hx
    · exact hI.min x hx
    · simp at hx; omega
  · intro q
    have h1 := hI.cap q
    rw [tot_nil] at h1
    have h3 := hG.cap (by omega)
    simp only
    omega
/-- A round that reads of a piece. -/
theorem rf_step {w0 : World} {b : Nat} {g0 : Gh} {sb base : Nat} {ps0 rest : List (List UInt8)} {p : List UInt8} {fl : Bool} {wr w2 w3 w4 : World} {cnt : Nat} {g g1 : Gh} {ak : List Nat} {i r : Nat}
    (hI : RF w0 b g0 sb base ps0 fl wr cnt g (p :: rest) ak) (hG : Grown g 512 i g1) (hl : g1.len ≤ g1.all.length) (hr : g1.row = some r) (hS2 : BufStep wr b g w2 { g1 with len := i })
    (hS3 : SrcAt w3 sb base (psNext p rest (g1.all.length - i)) fl (ak ++ [g1.all.length - i])) (hF3 : Fr (fun x => x = r ∨ srcS w2.drew base x) w2.drew w3) (hB3 : BufAt w3 b { g1 with len := i, all := splice g1.all i (p.take (g1.all.length - i)) })
    (hB4 : BufRaw w4 b { g1 with len := i + min p.length (g1.all.length - i), all := splice g1.all i (p.take (g1.all.length - i)) }) (hF4 : Fr (Just b) w3 w4) (hb : b < base) :
    ∃ g', RF w0 b g0 sb base ps0 fl w4 (cnt + min p.length (g1.all.length - i)) g' (psNext p rest (g1.all.length - i)) (ak ++ [g1.all.length - i]) := by
  have hlen := hG.len
  have htk : (p.take (g1.all.length - i)).length = min p.length (g1.all.length - i) := by rw [List.length_take, Nat.min_comm]
  have hsl : (splice g1.all i (p.take (g1.all.length - i))).length = g1.all.length := length_splice _ _ _ (by rw [htk]; omega)
  have hA4 : BufAt w4 b { g1 with len := i + min p.length (g1.all.length - i), all := splice g1.all i (p.take (g1.all.length - i)) } := ⟨hB4, Nat.le_trans hG.off (Nat.le_add_right _ _), by simp only; rw [hsl]; omega⟩
  have hm := meas_next p rest (g1.all.length - i) (by omega)
  have ht := tot_next p rest (g1.all.length - i)
  refine ⟨{ g1 with len := i + min p.length (g1.all.length - i), all := splice g1.all i (p.take (g1.all.length - i)) }, ?_, ?_, ?_, ?_, ?_, ?_, ?_, ?_⟩
  · refine ((hI.go.step hS2.drew).src ⟨hB3, .inl rfl, hF3.mono fun _ _ q => ?_⟩).step ⟨hA4, .inl rfl, hF4.mono fun _ _ q => .inl q⟩
    rcases q with q | q
    · exact .inl (.inr (by rw [q]; exact hr))
    · exact .inr q
  · rcases hG.lr with e | e
    · simp only at e ⊢; rw [e]; exact hI.lr
    · exact e
  · have h1 := hG.txt
    have h2 := hI.txt
    rw [← h2, ← h1, ← flat_next p rest (g1.all.length - i), ← List.append_assoc]
    congr 1
    simp only [Gh.txt]
    rw [← htk, splice_txt _ _ _ _ hG.off (by rw [htk]; omega)]
  · exact hS3.fr hF4 (fun x q k => by have q : x = b := q; omega)
  · intro x hx
    rcases List.mem_append.1 hx with hx | hx
    · exact hI.min x hx
    · simp at hx; omega
  · have := hI.cnt
    omega
  · have := hI.few
    simp only [List.length_append, List.length_singleton]
    omega
  · intro q
    have h1 := hI.cap q
    have h2 := hG.le
    have h3 := hG.cap (by omega)
    simp only
    rw [hsl]
    omega

set_option maxHeartbeats 3200000 in
set_option maxRecDepth 100000 in
theorem readFrom_src (w0 : World) (b : Nat) (g0 : Gh) (sb base : Nat) (ps0 : List (List UInt8)) (ea : Addr) (h : BufAt w0 b g0) (hs : SrcAt w0 sb base ps0 false []) (hb : b < base) (hbw : base ≤ w0.heap.size)
    (he : w0.cell? ⟨0, 0, none⟩ = some (errV ea)) (hee : 0 < base)
    (hsz : g0.txt.length + tot ps0 + 512 ≤ 1099511627776) (hps : tot ps0 + ps0.length ≤ 4294967295) :
    Calls Tryz.prog 61 #[.pointer (some ⟨b, 0, none⟩), .iface 114 (.pointer (some ⟨sb, 0, none⟩))] w0 (RFPost w0 b g0 sb base ps0 false .nilIface) := by
  have c2 := h.c2
  have f2 := h.f 2
  have H := Lib.hid h
  have HS := Lib.hid hs
  clear h hs
  have hna := nil_src ⟨sb, 0, none⟩
  have hme := method_src ⟨sb, 0, none⟩
  go_enter Tryz.func61, Tryz.ntmps61
  go_wp2_with fail
  go_loopg [4] (tot ps0 + ps0.length) (fun k n wr => ∃ (cnt : Nat) (g : Gh) (ps : List (List UInt8)) (ak : List Nat), n = .int .i64 (cnt : Int) ∧ tot ps + ps.length ≤ k ∧ RF w0 b g0 sb base ps0 false wr cnt g ps ak)
  case atStart =>
    have S0 := BufStep.lr0 H.out 0
    refine ⟨0, _, ps0, [], rfl, Nat.le_refl _, BufGo.of_step S0, rfl, rfl, HS.out.fr S0.fr (fun x q k => H.out.foot_u8 hb q k), (fun n hn => by cases hn), Nat.zero_add _, by simp, fun q => ⟨rfl, q⟩⟩
  case round =>
    obtain ⟨cnt, g, ps, ak, rfl, hk, hI⟩ := hrel
    have htl : g.txt.length + 512 ≤ 1099511627776 := by
      have := congrArg List.length hI.txt
      simp only [List.length_append] at this
      unfold tot at hsz
      omega
    go_wp2_with fail
    refine (grow_any 512 _ b g hI.go.at' htl).mono ?_
    rintro e w1 ⟨i, g1, rfl, S1, G1⟩
    have A1 := S1.at'
    have c0 := A1.c0
    have f0 := A1.f 0
    have hz1 := A1.sz
    have hi : i + 512 ≤ g1.all.length := by have := G1.len; have := A1.lc; omega
    have A2 : BufAt (w1.setCell ⟨b, 0, none⟩ (.slice (rowA g1.row) i g1.all.length)) b { g1 with len := i } := ⟨A1.toBufRaw.put0 i, G1.off, by simp only; omega⟩
    have S2 : BufStep wr b g (w1.setCell ⟨b, 0, none⟩ (.slice (rowA g1.row) i g1.all.length)) { g1 with len := i } := S1.trans (BufStep.of_just A2 rfl ((Fr.refl _ w1).setCell (fun _ => just_self b) _))
    obtain ⟨row, all, len, off, lr⟩ := g1
    simp only at *
    cases row with
    | none => have := A1.nil rfl; simp only at this; subst this; simp at hi
    | some r =>
    simp only [rowA_some] at *
    generalize hw2 : w1.setCell ⟨b, 0, none⟩ (.slice (some ⟨r, 0, none⟩) i all.length) = w2 at *
    have d0 := A2.c0
    have e0 := A2.f 0
    have hsl := fun w' => slice_lh (some r) i all.length i all.length (by omega) (Nat.le_refl _) w'
    rw [cutA_some r i all.length (by omega)] at hsl
    simp only [rowA_some] at hsl d0
    have hA := Lib.hid A1
    have hA2 := Lib.hid A2
    have hS2 := Lib.hid S2
    have HG := Lib.hid G1
    have hgat := hI.go.at'
    have hE0 : wr.cell? ⟨0, 0, none⟩ = some (errV ea) := (hI.go.fr.cell (World.block_lt_of_cell? _ _ he) (fun q => q.elim (fun q => H.out.ne_err he q) (fun q => by have := q.1; simp at this; omega))).trans he
    have hE2 : w2.cell? ⟨0, 0, none⟩ = some (errV ea) := (S2.fr.cell (World.block_lt_of_cell? _ _ hE0) (hgat.ne_err hE0)).trans hE0
    have hsrc2 := hI.src.fr (S2.fr.drew) (fun x q k => hgat.foot_u8 hb q k)
    have hbase2 : base ≤ w2.drew.heap.size := Nat.le_trans hbw (Nat.le_trans hI.go.fr.size S2.fr.size)
    have hfew := hI.few
    have HSR := Lib.hid hsrc2
    have HB2 := Lib.hid hbase2
    have HE2 := Lib.hid hE2
    have HI := Lib.hid hI
    have hak : ak.length ≤ 4294967296 := by omega
    have hlg : all.length - i ≤ 9223372036854775807 := by omega
    have herr := err_same ea
    have hcnt : cnt ≤ 4294967295 := by have := hI.cnt; omega
    clear A1 A2 S2 S1 G1 hgat hsrc2 hbase2 hI hE0 hE2 he
    cases ps with
    | nil =>
      go_wp2_with fail
      go_region_held3 (fun w' => w'.cell? ⟨b, 0, none⟩ = some (.slice (some ⟨r, 0, none⟩) i all.length)) (go_keep) ((go_at_call 110; refine (source_end sb base ak _ _ _ ea _ HSR.out HE2.out hak HB2.out hlg hee).mono ?_; rintro e w3 ⟨rfl, hs3, hf3⟩; have B3 := hA2.out.drew.fr hf3 (fun x q => hA2.out.drew.src_apart hb q); have d3 := B3.c0; have e3 := B3.f 0; have hE3 := (hf3.cell (World.block_lt_of_cell? _ _ HE2.out) (fun q => by have := q.1; simp at this; omega)).trans HE2.out; simp only [rowA_some] at d3; have hS3 := Lib.hid hs3; have hF3 := Lib.hid hf3; have hB3 := Lib.hid B3; clear B3 hs3 hf3))
      have B4 := hB3.out.toBufRaw.put0 i
      have hF4 : Fr (Just b) w3 (w3.setCell ⟨b, 0, none⟩ (.slice (some ⟨r, 0, none⟩) i all.length)) := (Fr.refl _ w3).setCell (fun _ => just_self b) _
      have hE4 := (hF4.cell (World.block_lt_of_cell? _ _ hE3) (fun q => hB3.out.ne_err hE3 (.inl q))).trans hE3
      simp only [rowA_some] at B4
      generalize hw4 : w3.setCell ⟨b, 0, none⟩ (.slice (some ⟨r, 0, none⟩) i all.length) = w4 at *
      have HB4 := Lib.hid B4
      have HF4 := Lib.hid hF4
      clear B4 hF4
      go_wp2_with fail
      go_ret2
      exact rf_end HI.out HG.out hA.out.lc hS2.out hS3.out hF3.out hB3.out HB4.out HF4.out hb
    | cons p rest =>
      have hrw := Lib.hid (hA2.out.drew.row r rfl)
      have hpl : p.length ≤ 1099511627776 := by rw [tot_cons, List.length_cons] at hfew; omega
      have hrl : rest.length ≤ 4294967296 := by rw [List.length_cons] at hfew; omega
      obtain ⟨n, hn⟩ : ∃ n, n = all.length - i := ⟨_, rfl⟩
      obtain ⟨m, hm⟩ : ∃ m, m = min p.length n := ⟨_, rfl⟩
      have hmi : m ≤ n := by omega
      have hin : i + n ≤ all.length := by omega
      have hml : m ≤ 1099511627776 := by omega
      have hn1 : all.length - i = n := hn.symm
      have hm1 : min p.length n = m := hm.symm
      have HN := Lib.hid hn
      have HM := Lib.hid hm
      rw [hn1] at hsl
      have hen := err_nil ea
      have hgn := guard_nil (.tmp 59) (.tmp 60) ea
      clear hn hm herr
      go_wp2_with fail
      go_region_held3 (fun w' => w'.cell? ⟨b, 0, none⟩ = some (.slice (some ⟨r, 0, none⟩) i all.length)) (go_keep) ((go_at_call 110; refine (source_some sb base p rest false ak r i n _ all _ HSR.out hrw.out hin hak HB2.out (by omega) hpl hrl).mono ?_; rintro e w3 ⟨rfl, hs3, hr3, hf3⟩; have R3 := (hA2.out.drew).toBufRaw.putAllS rfl hf3 (fun q => q.elim (fun q => (hrw.out.ne_blk hA2.out.drew.st (by decide)) q.symm) (fun q => by have := q.1; omega)) hr3 (length_splice _ _ _ (by rw [List.length_take]; omega)); have d3 := R3.c0; have e3 := R3.f 0; have hE3 := (hf3.cell (World.block_lt_of_cell? _ _ HE2.out) (fun q => q.elim (fun q => hA2.out.drew.ne_err HE2.out (.inr (congrArg some q.symm))) (fun q => by have := q.1; simp at this; omega))).trans HE2.out; simp only [rowA_some] at d3; rw [length_splice _ _ _ (by rw [List.length_take]; omega)] at d3; have hS3 := Lib.hid hs3; have hF3 := Lib.hid hf3; have hR3 := Lib.hid R3; clear R3 hs3 hf3 hr3))
      have hA3 : BufAt w3 b { row := some r, all := splice all i (p.take n), len := i, off := off, lr := lr } := ⟨hR3.out, HG.out.off, by simp only; rw [length_splice _ _ _ (by rw [List.length_take]; omega)]; omega⟩
      have B4 := hR3.out.put0 (i + m)
      have hF4 : Fr (Just b) w3 (w3.setCell ⟨b, 0, none⟩ (.slice (some ⟨r, 0, none⟩) (i + m) all.length)) := (Fr.refl _ w3).setCell (fun _ => just_self b) _
      have hE4 := (hF4.cell (World.block_lt_of_cell? _ _ hE3) (fun q => hA3.ne_err hE3 (.inl q))).trans hE3
      simp only [rowA_some] at B4
      rw [length_splice _ _ _ (by rw [List.length_take]; omega)] at B4
      generalize hw4 : w3.setCell ⟨b, 0, none⟩ (.slice (some ⟨r, 0, none⟩) (i + m) all.length) = w4 at *
      have HR : Hid (∃ g', RF w0 b g0 sb base ps0 false w4 (cnt + m) g' (psNext p rest n) (ak ++ [n])) := by
        have := HN.out
        subst this
        have := HM.out
        subst this
        exact rf_step HI.out HG.out hA.out.lc rfl hS2.out hS3.out hF3.out hA3 B4 hF4 hb
      have hmeas := meas_next p rest n (by omega)
      clear hA3 B4 hF4 hE3
      go_wp2_with fail
      obtain ⟨g', hRF⟩ := HR.out
      go_roundg (tot (psNext p rest n) + (psNext p rest n).length)
      case measure => omega
      case rel => exact ⟨cnt + m, g', _, _, by go_num, Nat.le_refl _, hRF⟩
end Go.Proofs.YtkggebhkjgjijaaGreatDoor
