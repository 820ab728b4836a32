/- bytes.IndexByte, (*bytes.Buffer).readSlice, ReadBytes, ReadString. -/
import Derived.Test.YtimigjjokdnfbaaDoorRune
import Derived.Lib.BytesEntry
namespace Go.Proofs.YtimigjjokdnfbaaDoor
open Go Go.RowKit

theorem bytesOf_nat (l : List UInt8) : Lib.bytesOf (l.map fun x => (x.toNat : Int)) = l := by
  simp only [Lib.bytesOf, List.map_map]
  conv => rhs; rw [← List.map_id l]
  apply List.map_congr_left
  intro x _
  simp
set_option maxRecDepth 100000 in
/-- bytes.IndexByte of a slice that reads as l. -/
theorem indexByte_src {w : World} {row : Option Nat} {o n c : Nat} {l : List UInt8} (x : UInt8) (h : Src w (.slice (row.map fun r => ⟨r, o, none⟩) n c) l) :
    Calls Tryd.prog 70 #[.slice (row.map fun r => ⟨r, o, none⟩) n c, .int .u8 (x.toNat : Int)] w fun e w' => e = .returned (.int .i64 (Lib.indexByte l x)) ∧ w' = w := by
  have hrun : (Extern.BytealgIndexByte.indexByte #[.slice (row.map fun r => ⟨r, o, none⟩) n c, .int .u8 (x.toNat : Int)]).run Tryd.prog w = .ok (.int .i64 (Lib.indexByte l x)) w := by
    rcases h with h | ⟨A', c', h, k⟩
    · cases h
    · injection h with h1 h2 h3
      subst h1 h2 h3
      cases row with
      | none =>
        have : l = [] := by
          rcases Nat.eq_zero_or_pos l.length with q | q
          · exact List.eq_nil_of_length_eq_zero q
          · obtain ⟨ad, e, _⟩ := k q; cases e
        subst this
        exact Lib.run_indexByteNil (P := Tryd.prog) w 0 c _
      | some r =>
        have := Lib.run_indexByteSlice (P := Tryd.prog) w r o l.length c (l.map fun x => (x.toNat : Int)) (by simp) (fun i hi => by
          obtain ⟨ad, e, hc⟩ := k (by omega)
          simp only [Option.map_some, Option.some.injEq] at e
          subst e
          have := hc i _ (List.getElem?_eq_getElem hi)
          rw [addr_add] at this
          rw [this]
          simp [hi]) (x.toNat : Int)
        rw [bytesOf_nat] at this
        simp only [Option.map_some]
        rw [this]
        simp
  generalize row.map (fun r => (⟨r, o, none⟩ : Addr)) = A at *
  go_enter Tryd.func70, Tryd.ntmps70
  go_wp2_with fail
  rw [run_callFunc_extern Tryd.func73 (by kernel_rfl) (by kernel_rfl) (by kernel_rfl) (e := Extern.BytealgIndexByte.indexByte) (by kernel_rfl), hrun]
  simp only [Result.andThen]
  rw [Oper.upon_value]
  go_wp2_with fail
  go_ret
  exact ⟨rfl, rfl⟩

theorem upTo_some (c : UInt8) : ∀ (l : List UInt8) (k : Nat), upTo c l = some k → Lib.indexByte l c = (k : Int) - 1 ∧ 1 ≤ k ∧ k ≤ l.length
  | [], k, h => by cases h
  | x :: l, k, h => by
    unfold upTo at h
    unfold Lib.indexByte
    by_cases hx : x = c
    · subst hx
      simp only [if_true, Option.some.injEq] at h
      subst h
      simp
    · simp only [hx, if_false, Option.map_eq_some_iff] at h
      obtain ⟨j, hj, rfl⟩ := h
      obtain ⟨h1, h2, h3⟩ := upTo_some c l j hj
      have : (x == c) = false := by simp [hx]
      rw [this, h1]
      simp only [Bool.false_eq_true, if_false, List.length_cons]
      have : (((j : Int) - 1) == -1) = false := by simp; omega
      rw [this]
      simp only [Bool.false_eq_true, if_false]
      omega
theorem upTo_none (c : UInt8) : ∀ (l : List UInt8), upTo c l = none → Lib.indexByte l c = -1
  | [], _ => rfl
  | x :: l, h => by
    unfold upTo at h
    unfold Lib.indexByte
    by_cases hx : x = c
    · simp [hx] at h
    · simp only [hx, if_false, Option.map_eq_none_iff] at h
      have : (x == c) = false := by simp [hx]
      rw [this, upTo_none c l h]
      rfl

/-- Behind a read up to a byte. -/
def Gh.rl (g : Gh) (k : Nat) : Gh := { g with off := g.off + k, lr := -1 }
theorem Gh.rl_txt (g : Gh) (k : Nat) : (g.rl k).txt = g.txt.drop k := by simp [Gh.rl, Gh.txt, List.drop_drop]
theorem BufAt.rl {w : World} {b : Nat} {g : Gh} (h : BufAt w b g) (k : Nat) (hk : g.off + k ≤ g.len) : BufAt ((w.setCell ⟨b, 1, none⟩ (.int .i64 ((g.off + k : Nat) : Int))).setCell ⟨b, 2, none⟩ (.int .i8 (-1))) b (g.rl k) := (h.off' (g.off + k) hk).lr0 (-1)
theorem cutA_map (row : Option Nat) (o c : Nat) : ∃ o', cutA row o c = row.map fun r => (⟨r, o', none⟩ : Addr) := by
  unfold cutA
  split
  · exact ⟨0, rfl⟩
  · exact ⟨o, rfl⟩

set_option maxHeartbeats 1600000 in
set_option maxRecDepth 100000 in
theorem readSlice_some (w : World) (b : Nat) (g : Gh) (x : UInt8) (k : Nat) (h : BufAt w b g) (hk : upTo x g.txt = some k) :
    Calls Tryd.prog 61 #[.pointer (some ⟨b, 0, none⟩), .int .u8 (x.toNat : Int)] w fun e w' => e = .returned (.tuple #[.slice (cutA g.row g.off g.all.length) k (g.all.length - g.off), .nilIface]) ∧ BufAt w' b (g.rl k) ∧ Fr (Just b) w w' := by
  obtain ⟨hi, hk1, hk2⟩ := upTo_some x g.txt k hk
  have hz := h.sz
  have hl := h.lc
  have ho := h.ol
  have c0 := h.c0
  have c1 := h.c1
  have f1 := h.f 1
  have c2 := h.c2
  have f2 := h.f 2
  have htl := g.txt_length hl
  have hsl := fun w' => slice_from g.row g.len g.all.length g.off ho w'
  have hsl2 := fun w' => slice_lh g.row g.len g.all.length g.off (g.off + k) (by omega) (by omega) w'
  rw [Nat.add_sub_cancel_left, Int.natCast_add] at hsl2
  have hq : ∀ n, Calls Tryd.prog 70 #[.slice (cutA g.row g.off g.all.length) (g.len - g.off) (g.all.length - g.off), .int .u8 (x.toNat : Int)] (w.drewN n) fun e w' => e = .returned (.int .i64 ((k : Int) - 1)) ∧ w' = w.drewN n := by
    intro n
    have hs := Src.unread (h.drewN n)
    obtain ⟨o', e⟩ := cutA_map g.row g.off g.all.length
    rw [e] at hs ⊢
    rw [← hi]
    exact indexByte_src x hs
  have hadd : (g.off : Int) + ((k : Int) - 1) + 1 = (g.off : Int) + (k : Int) := by omega
  have hkn : ((k : Int) - 1 < 0) = False := by simp; omega
  have HB := Lib.hid (fun n => (h.drewN n).rl k (by omega))
  have HF := Lib.hid (fun n => (Fr.refl (Just b) w).drewN n)
  have HQ := Lib.hid hq
  clear h hi hq hk
  go_enter Tryd.func61, Tryd.ntmps61
  go_wp2_with fail
  go_quiet ((go_at_call 70; exact Calls.quiet_of_same (HQ.out _)))
  go_wp2_with fail
  go_quiet (fail)
  go_wp2_with fail
  go_ret2
  exact ⟨rfl, HB.out _, ((HF.out _).setCell (fun _ => just_self b) _).setCell (fun _ => just_self b) _⟩
set_option maxHeartbeats 1600000 in
set_option maxRecDepth 100000 in
theorem readSlice_none (w : World) (b : Nat) (g : Gh) (x : UInt8) (k : Nat) (ea : Addr) (h : BufAt w b g) (hk : upTo x g.txt = none) (hkl : g.off + k = g.len) (he : w.cell? ⟨0, 0, none⟩ = some (.iface 119 (.pointer (some ea)))) :
    Calls Tryd.prog 61 #[.pointer (some ⟨b, 0, none⟩), .int .u8 (x.toNat : Int)] w fun e w' => e = .returned (.tuple #[.slice (cutA g.row g.off g.all.length) k (g.all.length - g.off), .iface 119 (.pointer (some ea))]) ∧ BufAt w' b (g.rl k) ∧ Fr (Just b) w w' := by
  have hi := upTo_none x g.txt hk
  have hz := h.sz
  have hl := h.lc
  have ho := h.ol
  have c0 := h.c0
  have c1 := h.c1
  have f1 := h.f 1
  have c2 := h.c2
  have f2 := h.f 2
  have hsl := fun w' => slice_from g.row g.len g.all.length g.off ho w'
  have hsl2 := fun w' => slice_lh g.row g.len g.all.length g.off g.len (by omega) (by omega) w'
  rw [show g.len - g.off = k by omega] at hsl2
  have hq : ∀ n, Calls Tryd.prog 70 #[.slice (cutA g.row g.off g.all.length) (g.len - g.off) (g.all.length - g.off), .int .u8 (x.toNat : Int)] (w.drewN n) fun e w' => e = .returned (.int .i64 (-1)) ∧ w' = w.drewN n := by
    intro n
    have hs := Src.unread (h.drewN n)
    obtain ⟨o', e⟩ := cutA_map g.row g.off g.all.length
    rw [e] at hs ⊢
    rw [← hi]
    exact indexByte_src x hs
  have hb := fun n => (h.drewN n).rl k (by omega)
  rw [hkl] at hb
  have HB := Lib.hid hb
  have HF := Lib.hid (fun n => (Fr.refl (Just b) w).drewN n)
  have HQ := Lib.hid hq
  clear hb h hi hq hk
  go_enter Tryd.func61, Tryd.ntmps61
  go_wp2_with fail
  go_quiet ((go_at_call 70; exact Calls.quiet_of_same (HQ.out _)))
  go_wp2_with fail
  go_quiet (fail)
  go_wp2_with fail
  go_ret2
  exact ⟨rfl, HB.out _, ((HF.out _).setCell (fun _ => just_self b) _).setCell (fun _ => just_self b) _⟩

def LineOut (k : Option Nat) (ea : Addr) : Value := match k with | some _ => .nilIface | none => .iface 119 (.pointer (some ea))
/-- How many bytes a read up to a byte takes. -/
def takeN (x : UInt8) (l : List UInt8) : Nat := (upTo x l).getD l.length
theorem readSlice_any (w : World) (b : Nat) (g : Gh) (x : UInt8) (ea : Addr) (h : BufAt w b g) (he : w.cell? ⟨0, 0, none⟩ = some (.iface 119 (.pointer (some ea)))) :
    Calls Tryd.prog 61 #[.pointer (some ⟨b, 0, none⟩), .int .u8 (x.toNat : Int)] w fun e w' => e = .returned (.tuple #[.slice (cutA g.row g.off g.all.length) (takeN x g.txt) (g.all.length - g.off), LineOut (upTo x g.txt) ea]) ∧ BufAt w' b (g.rl (takeN x g.txt)) ∧ Fr (Just b) w w' := by
  cases hk : upTo x g.txt with
  | some k =>
    have e : takeN x g.txt = k := by simp [takeN, hk]
    rw [e]
    exact readSlice_some w b g x k h hk
  | none =>
    have e : takeN x g.txt = g.txt.length := by simp [takeN, hk]
    rw [e]
    exact readSlice_none w b g x _ ea h hk (by have := g.txt_length h.lc; have := h.ol; omega) he
theorem takeN_le (x : UInt8) (l : List UInt8) : takeN x l ≤ l.length := by
  unfold takeN
  cases hk : upTo x l with
  | some k => exact (upTo_some x l k hk).2.2
  | none => exact Nat.le_refl _

set_option maxHeartbeats 1600000 in
set_option maxRecDepth 100000 in
theorem buf_readString (w : World) (b : Nat) (g : Gh) (x : UInt8) (ea : Addr) (h : BufAt w b g) (he : w.cell? ⟨0, 0, none⟩ = some (.iface 119 (.pointer (some ea)))) :
    Calls Tryd.prog 40 #[.pointer (some ⟨b, 0, none⟩), .int .u8 (x.toNat : Int)] w fun e w' => e = .returned (.tuple #[.string ⟨(g.txt.take (takeN x g.txt)).toArray⟩, LineOut (upTo x g.txt) ea]) ∧ BufAt w' b (g.rl (takeN x g.txt)) ∧ Fr (Just b) w w' := by
  have hr := readSlice_any w b g x ea h he
  have hle := takeN_le x g.txt
  have htl := g.txt_length h.lc
  have hol := h.ol
  generalize LineOut (upTo x g.txt) ea = ev at *
  generalize takeN x g.txt = k at *
  have HR := Lib.hid hr
  clear hr he
  go_enter Tryd.func40, Tryd.ntmps40
  go_wp2_with fail
  refine HR.out.mono ?_
  rintro e w1 ⟨rfl, H1, F1⟩
  have hs : Src w1 (.slice (cutA g.row g.off g.all.length) k (g.all.length - g.off)) (g.txt.take k) := by
    rw [← Gh.txt_take g k (by omega)]
    have hl := h.lc
    exact Src.part H1 g.off k _ (by simp only [Gh.rl]; omega)
  have hcv := conv_str hs
  have HA1 := Lib.hid H1
  have HF1 := Lib.hid F1
  clear h H1 F1 hs
  go_wp2_with fail
  go_ret2
  exact ⟨rfl, HA1.out, HF1.out⟩

/-- append(nil, p..). -/
theorem app_nil_src {w : World} {A : Option Addr} {n c : Nat} {l : List UInt8} (h : Src w (.slice A n c) l) (hl : l.length ≤ 140737488355328) :
    ∃ (v : Value) (w' : World), (Builtin.append_ #[52, 52] 52 #[.slice none 0 0, .slice A n c]).run Tryd.prog w = .ok v w' ∧ Src w' v l ∧ (∃ A2 n2 c2, v = .slice A2 n2 c2) ∧ Fr (fun _ => False) w w' := by
  obtain ⟨i0, hi, hz0, hz1, hz2⟩ := info_parts info_u8
  rcases Nat.eq_zero_or_pos l.length with h0 | h0
  · obtain rfl : l = [] := List.eq_nil_of_length_eq_zero h0
    have hlen := run_lenOf_src (P := Tryd.prog) h
    have hf := run_firstCells_src (P := Tryd.prog) h 0 (Nat.le_refl _)
    refine ⟨.slice none 0 0, w, ?_, .inr ⟨_, _, rfl, fun q => absurd q (by simp)⟩, ⟨_, _, _, rfl⟩, Fr.refl _ _⟩
    simp [Builtin.append_, run_underlying Tryd.underlying52, sizeOf, typeInfo, hi, hz1, hlen, hf, bcs]
  · obtain ⟨cap2, w', hrun, hblk, hge, hle, hfr, hsz⟩ := run_append_grow (P := Tryd.prog) (dT := 52) (xT := 52) (ty := 52) (n := 0) (c := 0) (old := []) (D := none) Tryd.underlying52 Tryd.underlying52 (fun k q => by cases q) hi hz1 hz2 hz0 (.inr ⟨none, 0, rfl, fun q => absurd q (by simp)⟩) rfl h (by omega) (by omega)
    refine ⟨_, w', hrun, ?_, ⟨_, _, _, rfl⟩, hfr⟩
    have hrow : Row 5 w' w.heap.size ([] ++ l ++ List.replicate (cap2 - (0 + l.length)) 0) := ⟨_, hblk, .inl (Nat.le_refl _)⟩
    have := Src.of_row (o := 0) (n := l.length) (c := cap2) (A := some ⟨w.heap.size, 0, none⟩) hrow (fun _ => rfl) (by simp)
    simpa using this

def BytesPost (w : World) (b : Nat) (g : Gh) (x : UInt8) (ea : Addr) (e : Ending) (w' : World) : Prop :=
  ∃ A n c, e = .returned (.tuple #[.slice A n c, LineOut (upTo x g.txt) ea]) ∧ Src w' (.slice A n c) (g.txt.take (takeN x g.txt)) ∧ BufAt w' b (g.rl (takeN x g.txt)) ∧ Fr (Just b) w w'
set_option maxHeartbeats 1600000 in
set_option maxRecDepth 100000 in
theorem buf_readBytes (w : World) (b : Nat) (g : Gh) (x : UInt8) (ea : Addr) (h : BufAt w b g) (hlen : g.txt.length ≤ 140737488355328) (he : w.cell? ⟨0, 0, none⟩ = some (.iface 119 (.pointer (some ea)))) :
    Calls Tryd.prog 39 #[.pointer (some ⟨b, 0, none⟩), .int .u8 (x.toNat : Int)] w (BytesPost w b g x ea) := by
  have hr := readSlice_any w b g x ea h he
  have hle := takeN_le x g.txt
  have htl := g.txt_length h.lc
  have hol := h.ol
  unfold BytesPost
  generalize LineOut (upTo x g.txt) ea = ev at *
  generalize takeN x g.txt = k at *
  have HR := Lib.hid hr
  clear hr he
  go_enter Tryd.func39, Tryd.ntmps39
  go_wp2_with fail
  refine HR.out.mono ?_
  rintro e w1 ⟨rfl, H1, F1⟩
  have hs : Src w1 (.slice (cutA g.row g.off g.all.length) k (g.all.length - g.off)) (g.txt.take k) := by
    rw [← Gh.txt_take g k (by omega)]
    have hl := h.lc
    exact Src.part H1 g.off k _ (by simp only [Gh.rl]; omega)
  obtain ⟨v, w2, hrun, hs2, ⟨A2, n2, c2, rfl⟩, hfr⟩ := app_nil_src hs (by simp; omega)
  have HA1 := Lib.hid (H1.fr hfr (fun _ _ q => q))
  have HF1 := Lib.hid (F1.trans' hfr (fun _ _ q => q.elim))
  have HS := Lib.hid hs2
  clear h H1 F1 hs hs2 hfr
  go_wp2_with (at_builtin; refine wpList_plain rfl (fun K hK => wp_append_of_run _ _ _ _ rfl rfl rfl hrun (hK _ _ ?_)))
  go_ret2
  exact ⟨_, _, _, rfl, HS.out, HA1.out, HF1.out⟩
end Go.Proofs.YtimigjjokdnfbaaDoor
