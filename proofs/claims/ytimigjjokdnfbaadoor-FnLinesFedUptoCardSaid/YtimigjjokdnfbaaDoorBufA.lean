/- bytes.Buffer: its state in memory, and what its small methods do (Len, Cap, Available, empty, Reset, tryGrowByReslice). -/
import Derived.Test.YtimigjjokdnfbaaDoorProg
import Derived.Test.YtimigjjokdnfbaaDoorMemB
import Derived.Deep.QuietTactic
import Derived.BigQuiet
import Derived.RegionTactic
import Derived.OwnWalk
namespace Go.Proofs.YtimigjjokdnfbaaDoor
open Go Go.RowKit

/-- What a buffer is made of: the block of its bytes (none: nil), all bytes up to the capacity, the slice's length, the place of the next read, what the last read was. -/
structure Gh where
  row : Option Nat
  all : List UInt8
  len : Nat
  off : Nat
  lr : Int

def rowA (row : Option Nat) : Option Addr := row.map fun r => ⟨r, 0, none⟩
@[simp] theorem rowA_some (r : Nat) : rowA (some r) = some ⟨r, 0, none⟩ := rfl
@[simp] theorem rowA_none : rowA none = none := rfl

/-- Where a slice of the row lies that begins at o. -/
def cutA (row : Option Nat) (o cap : Nat) : Option Addr := if cap = o then rowA row else row.map fun r => ⟨r, o, none⟩
theorem cutA_some (r o cap : Nat) (h : ¬ cap = o) : cutA (some r) o cap = some ⟨r, o, none⟩ := by simp [cutA, h]
theorem info_u8 : (Tryd.prog.info? 5).map (fun i => (i.zero, i.size, i.bytes)) = some (some (.int .u8 0), 1, 1) := by kernel_rfl
theorem addr_add1 (r o : Nat) : (⟨r, 0, none⟩ : Addr).add o = ⟨r, o, none⟩ := by rw [addr_add, Nat.zero_add]
/-- A slice of the row from o on. -/
theorem slice_from (row : Option Nat) (n c o : Nat) (ho : o ≤ n) (w : World) : (Instr.slice 52 (.slice (rowA row) n c) (some (.int .i64 (o : Int))) none none).run Tryd.prog w = .ok (.slice (cutA row o c) (n - o) (c - o)) w := by
  obtain ⟨i0, hi, hz0, hz1, hz2⟩ := info_parts info_u8
  have h1 : (0 : Int) ≤ (o : Int) := by omega
  have h2 : (o : Int) ≤ (n : Int) := by omega
  cases row <;> simp [Instr.slice, run_underlying Tryd.underlying52, Instr.sliceBounds, run_sliceBound, sizeOf, typeInfo, hi, hz1, cutA, h2, addr_add1]
theorem slice_lh (row : Option Nat) (n c lo h : Nat) (hl : lo ≤ h) (hh : h ≤ c) (w : World) : (Instr.slice 52 (.slice (rowA row) n c) (some (.int .i64 (lo : Int))) (some (.int .i64 (h : Int))) none).run Tryd.prog w = .ok (.slice (cutA row lo c) (h - lo) (c - lo)) w := by
  obtain ⟨i0, hi, hz0, hz1, hz2⟩ := info_parts info_u8
  have h1 : (lo : Int) ≤ (h : Int) := by omega
  have h2 : (h : Int) ≤ (c : Int) := by omega
  cases row <;> simp [Instr.slice, run_underlying Tryd.underlying52, Instr.sliceBounds, run_sliceBound, sizeOf, typeInfo, hi, hz1, cutA, h1, h2, addr_add1]

/-- Block b is a bytes.Buffer with this state, whatever its numbers. -/
structure BufRaw (w : World) (b : Nat) (g : Gh) : Prop where
  st : w.heap[b]? = some (.cells #[.slice (rowA g.row) g.len g.all.length, .int .i64 (g.off : Int), .int .i8 g.lr] 61 (0, 0))
  row : ∀ r, g.row = some r → Row 5 w r g.all
  nil : g.row = none → g.all = []
  sz : g.all.length ≤ 9223372036854775807

/-- Block b is a bytes.Buffer with this state. -/
structure BufAt (w : World) (b : Nat) (g : Gh) : Prop extends BufRaw w b g where
  ol : g.off ≤ g.len
  lc : g.len ≤ g.all.length

/-- What is unread. -/
def Gh.txt (g : Gh) : List UInt8 := (g.all.take g.len).drop g.off
/-- The blocks that a buffer lies in. -/
def Gh.foot (b : Nat) (g : Gh) : Nat → Prop := fun x => x = b ∨ g.row = some x

section
variable {w w' : World} {b : Nat} {g : Gh}
theorem BufRaw.lt (h : BufRaw w b g) : b < w.heap.size := lt_of_blk h.st
theorem BufRaw.c0 (h : BufRaw w b g) : w.cell? ⟨b, 0, none⟩ = some (.slice (rowA g.row) g.len g.all.length) := by rw [cell_of_row w b 0 _ _ _ h.st]; rfl
theorem BufRaw.c1 (h : BufRaw w b g) : w.cell? ⟨b, 1, none⟩ = some (.int .i64 (g.off : Int)) := by rw [cell_of_row w b 1 _ _ _ h.st]; rfl
theorem BufRaw.c2 (h : BufRaw w b g) : w.cell? ⟨b, 2, none⟩ = some (.int .i8 g.lr) := by rw [cell_of_row w b 2 _ _ _ h.st]; rfl
theorem BufRaw.f (h : BufRaw w b g) (i : Nat) : w.frozen? ⟨b, i, none⟩ = false := by simp [World.frozen?, h.st]
theorem BufRaw.rne (h : BufRaw w b g) {r : Nat} (hr : g.row = some r) : r ≠ b := (h.row r hr).ne_blk h.st (by decide)
theorem BufRaw.rlt (h : BufRaw w b g) {r : Nat} (hr : g.row = some r) : r < w.heap.size := (h.row r hr).lt
theorem BufRaw.fr {S : Nat → Prop} (h : BufRaw w b g) (hf : Fr S w w') (hn : ∀ x, g.foot b x → ¬ S x) : BufRaw w' b g :=
  ⟨hf.blk h.st (hn b (.inl rfl)), fun r hr => (h.row r hr).fr hf (hn r (.inr hr)), h.nil, h.sz⟩
theorem BufRaw.of_heap (h : BufRaw w b g) (hh : w'.heap = w.heap) : BufRaw w' b g :=
  ⟨by rw [hh]; exact h.st, fun r hr => (h.row r hr).of_block (by rw [hh]), h.nil, h.sz⟩
theorem BufRaw.alloc (h : BufRaw w b g) (o : Obj) : BufRaw (w.alloc o) b g := h.fr ((Fr.refl (fun _ => False) w).alloc o) (fun _ _ q => q)
theorem BufAt.fr {S : Nat → Prop} (h : BufAt w b g) (hf : Fr S w w') (hn : ∀ x, g.foot b x → ¬ S x) : BufAt w' b g := ⟨h.toBufRaw.fr hf hn, h.ol, h.lc⟩
theorem BufAt.drewN (h : BufAt w b g) (n : Nat) : BufAt (w.drewN n) b g := ⟨h.toBufRaw.of_heap rfl, h.ol, h.lc⟩
theorem BufAt.drew (h : BufAt w b g) : BufAt w.drew b g := ⟨h.toBufRaw.of_heap rfl, h.ol, h.lc⟩
theorem BufRaw.foot_lt (h : BufRaw w b g) {x : Nat} (hx : g.foot b x) : x < w.heap.size := by
  rcases hx with rfl | hx
  · exact h.lt
  · exact h.rlt hx
/-- The struct's cells laid anew. -/
theorem BufRaw.put0 (h : BufRaw w b g) (n : Nat) : BufRaw (w.setCell ⟨b, 0, none⟩ (.slice (rowA g.row) n g.all.length)) b { g with len := n } := by
  refine ⟨?_, fun r hr => (h.row r hr).setCell_far (h.rne hr) _, h.nil, h.sz⟩
  have := h.st
  simp [World.setCell, Array.getElem?_modify, this]
theorem BufRaw.put1 (h : BufRaw w b g) (n : Nat) : BufRaw (w.setCell ⟨b, 1, none⟩ (.int .i64 (n : Int))) b { g with off := n } := by
  refine ⟨?_, fun r hr => (h.row r hr).setCell_far (h.rne hr) _, h.nil, h.sz⟩
  have := h.st
  simp [World.setCell, Array.getElem?_modify, this]
theorem BufRaw.put2 (h : BufRaw w b g) (n : Int) : BufRaw (w.setCell ⟨b, 2, none⟩ (.int .i8 n)) b { g with lr := n } := by
  refine ⟨?_, fun r hr => (h.row r hr).setCell_far (h.rne hr) _, h.nil, h.sz⟩
  have := h.st
  simp [World.setCell, Array.getElem?_modify, this]
/-- A new row of bytes in the struct. -/
theorem BufRaw.putRow (h : BufRaw w b g) {r : Nat} {l : List UInt8} (n : Nat) (hr : Row 5 w r l) (hl : l.length ≤ 9223372036854775807) : BufRaw (w.setCell ⟨b, 0, none⟩ (.slice (some ⟨r, 0, none⟩) n l.length)) b { g with row := some r, all := l, len := n } := by
  have hne : r ≠ b := hr.ne_blk h.st (by decide)
  refine ⟨?_, fun r' hr' => ?_, (fun q => by cases q), hl⟩
  · have := h.st
    simp [World.setCell, Array.getElem?_modify, this]
  · simp only [Option.some.injEq] at hr'
    subst hr'
    exact hr.setCell_far hne _
/-- The row's bytes laid anew. -/
theorem BufRaw.putAll (h : BufRaw w b g) {r : Nat} {l : List UInt8} (hr : g.row = some r) (hf : Fr (Just r) w w') (hrow : Row 5 w' r l) (hl : l.length = g.all.length) : BufRaw w' b { g with all := l } := by
  refine ⟨?_, fun r' hr' => ?_, fun q => ?_, by rw [hl]; exact h.sz⟩
  · simp only [hl]
    exact hf.blk h.st (fun q => h.rne hr q.symm)
  · simp only [hr, Option.some.injEq] at hr'
    subst hr'
    exact hrow
  · simp only [hr] at q
    cases q
end

section
variable (w : World) (b : Nat) (g : Gh)
theorem buf_len (h : BufAt w b g) : Calls Tryd.prog 52 #[.pointer (some ⟨b, 0, none⟩)] w fun e w' => e = .returned (.int .i64 ((g.len : Int) - (g.off : Int))) ∧ ∃ k, w' = w.drewN k := by
  have h0 := h.c0; have h1 := h.c1; have ho := h.ol; have hl := h.lc; have hz := h.sz
  clear h
  go_enter Tryd.func52, Tryd.ntmps52
  go_wp2
  go_quiet (fail)
  go_wp2
  go_ret
  exact ⟨rfl, _, rfl⟩

theorem buf_empty (h : BufAt w b g) : Calls Tryd.prog 60 #[.pointer (some ⟨b, 0, none⟩)] w fun e w' => e = .returned (.bool (decide (g.len ≤ g.off))) ∧ ∃ k, w' = w.drewN k := by
  have h0 := h.c0; have h1 := h.c1; have ho := h.ol; have hl := h.lc; have hz := h.sz
  clear h
  go_enter Tryd.func60, Tryd.ntmps60
  go_wp2
  go_quiet (fail)
  go_wp2
  go_ret
  exact ⟨by simp, _, rfl⟩

theorem buf_reset (h : BufAt w b g) : Calls Tryd.prog 50 #[.pointer (some ⟨b, 0, none⟩)] w fun e w' => e = .returned (.tuple #[]) ∧ BufAt w' b { g with len := 0, off := 0, lr := 0 } ∧ Fr (Just b) w w' := by
  have h0 := h.c0; have h1 := h.c1; have h2 := h.c2; have f0 := h.f 0; have f1 := h.f 1; have f2 := h.f 2
  have hz := h.sz
  have H := Lib.hid h
  clear h
  go_enter Tryd.func50, Tryd.ntmps50
  go_wp2
  go_end0
  refine ⟨rfl, ⟨((H.out.toBufRaw.put0 0).put1 0).put2 0, Nat.le_refl _, Nat.zero_le _⟩, ?_⟩
  exact (((Fr.refl _ w).setCell (fun _ => just_self b) _).setCell (fun _ => just_self b) _).setCell (fun _ => just_self b) _

theorem buf_try_yes (n : Nat) (h : BufAt w b g) (hn : n ≤ g.all.length - g.len) :
    Calls Tryd.prog 54 #[.pointer (some ⟨b, 0, none⟩), .int .i64 (n : Int)] w fun e w' => e = .returned (.tuple #[.int .i64 (g.len : Int), .bool true]) ∧ BufAt w' b { g with len := g.len + n } ∧ Fr (Just b) w w' := by
  have h0 := h.c0; have f0 := h.f 0; have ho := h.ol; have hl := h.lc; have hz := h.sz
  have H := Lib.hid h
  clear h
  go_enter Tryd.func54, Tryd.ntmps54
  go_wp2
  go_ret2
  refine ⟨rfl, ⟨?_, ?_, ?_⟩, ?_⟩
  · exact H.out.toBufRaw.put0 _
  · simp; omega
  · simp; omega
  · exact (Fr.refl _ w).setCell (fun _ => just_self b) _

theorem buf_try_no (n : Nat) (h : BufAt w b g) (hn : g.all.length - g.len < n) :
    Calls Tryd.prog 54 #[.pointer (some ⟨b, 0, none⟩), .int .i64 (n : Int)] w fun e w' => e = .returned (.tuple #[.int .i64 0, .bool false]) ∧ w = w' := by
  have h0 := h.c0; have f0 := h.f 0; have ho := h.ol; have hl := h.lc; have hz := h.sz
  clear h
  go_enter Tryd.func54, Tryd.ntmps54
  go_wp2
  go_ret2
  exact ⟨rfl, rfl⟩
end
end Go.Proofs.YtimigjjokdnfbaaDoor
