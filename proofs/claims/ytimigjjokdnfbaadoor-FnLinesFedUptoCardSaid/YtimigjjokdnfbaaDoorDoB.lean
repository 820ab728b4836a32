/- A call of a builder does as the reference says; all calls that the laws play. -/
import Derived.Test.YtimigjjokdnfbaaDoorDo
namespace Go.Proofs.YtimigjjokdnfbaaDoor
open Go Go.RowKit

/-- What a call writes. -/
def textOfF (c : Cl) : List UInt8 := if c.op = 3 ∨ c.op = 30 then [c.sign] else if c.op = 4 ∨ c.op = 31 then enc c.char else c.text
/-- What a call of a builder does to its capacity. -/
structure BCap (c : Cl) (g g' : BG) : Prop where
  w : 28 ≤ c.op → c.op ≤ 31 → g.txt.length + (textOfF c).length ≤ g.cap → g'.cap = g.cap
  r : c.op = 32 → g.txt.length + c.n.toNat ≤ g'.cap
def PBPost (w : World) (base yb : Nat) (bs : List (Nat × Gh)) (ds : List (Nat × BG)) (i d : Nat) (g : BG) (c : Cl) (e : Ending) (w' : World) : Prop :=
  ∃ g', e = .returned (putS g.txt c).2.1.val ∧ YardStep w base yb w' bs (ds.set i (d, g')) ∧ g'.txt = (putS g.txt c).1 ∧ BCap c g g'


theorem pb_28 (w : World) (base yb i d : Nat) (g : BG) (bs : List (Nat × Gh)) (ds : List (Nat × BG)) (c : Cl) (hY : YardAt w base yb bs ds) (hi : ds[i]? = some (d, g)) (ha : c.a = (i : Int)) (_hsz : g.txt.length + c.text.length + 66000 ≤ 1099511627776) (hop : c.op = 28) : Calls Tryd.prog 10 #[.pointer (some ⟨yb, 0, none⟩), c.val] w (PBPost w base yb bs ds i d g c) := by
  have hB := hY.bldAt hi
  have e : putS g.txt c = (g.txt ++ c.text, Td.ofN c.text.length, true) := by simp [putS, hop]
  unfold PBPost
  rw [e]
  unfold Cl.val Cl.cells
  rw [hop, ha]
  refine (call_p c.b c.size c.n c.sign c.char c.text c.cuts c.ad c.cap 28 (by simp) w base yb i d g bs ds _ _ _ _ (fun g' => Built g c.text g') hY hi (fun w1 hf => put_28 (i : Int) c.b c.size c.n c.sign c.char c.text c.cuts c.ad c.cap d g w1 (hB.fr hf (fun _ _ q => q)) (by omega))).mono ?_
  rintro e w' ⟨g', rfl, S, hR⟩
  exact ⟨g', rfl, S, hR.txt, ⟨fun _ _ q => hR.cap (by simpa [textOfF, hop] using q), fun q => by omega⟩⟩
theorem pb_29 (w : World) (base yb i d : Nat) (g : BG) (bs : List (Nat × Gh)) (ds : List (Nat × BG)) (c : Cl) (hY : YardAt w base yb bs ds) (hi : ds[i]? = some (d, g)) (ha : c.a = (i : Int)) (_hsz : g.txt.length + c.text.length + 66000 ≤ 1099511627776) (hop : c.op = 29) : Calls Tryd.prog 10 #[.pointer (some ⟨yb, 0, none⟩), c.val] w (PBPost w base yb bs ds i d g c) := by
  have hB := hY.bldAt hi
  have e : putS g.txt c = (g.txt ++ c.text, Td.ofN c.text.length, true) := by simp [putS, hop]
  unfold PBPost
  rw [e]
  unfold Cl.val Cl.cells
  rw [hop, ha]
  refine (call_p c.b c.size c.n c.sign c.char c.text c.cuts c.ad c.cap 29 (by simp) w base yb i d g bs ds _ _ _ _ (fun g' => Built g c.text g') hY hi (fun w1 hf => put_29 (i : Int) c.b c.size c.n c.sign c.char c.text c.cuts c.ad c.cap d g w1 (hB.fr hf (fun _ _ q => q)) (by omega))).mono ?_
  rintro e w' ⟨g', rfl, S, hR⟩
  exact ⟨g', rfl, S, hR.txt, ⟨fun _ _ q => hR.cap (by simpa [textOfF, hop] using q), fun q => by omega⟩⟩
theorem pb_30 (w : World) (base yb i d : Nat) (g : BG) (bs : List (Nat × Gh)) (ds : List (Nat × BG)) (c : Cl) (hY : YardAt w base yb bs ds) (hi : ds[i]? = some (d, g)) (ha : c.a = (i : Int)) (_hsz : g.txt.length + c.text.length + 66000 ≤ 1099511627776) (hop : c.op = 30) : Calls Tryd.prog 10 #[.pointer (some ⟨yb, 0, none⟩), c.val] w (PBPost w base yb bs ds i d g c) := by
  have hB := hY.bldAt hi
  have e : putS g.txt c = (g.txt ++ [c.sign], Td.zero, true) := by simp [putS, hop]
  unfold PBPost
  rw [e]
  unfold Cl.val Cl.cells
  rw [hop, ha]
  refine (call_p c.b c.size c.n c.sign c.char c.text c.cuts c.ad c.cap 30 (by simp) w base yb i d g bs ds _ _ _ _ (fun g' => Built g [c.sign] g') hY hi (fun w1 hf => put_30 (i : Int) c.b c.size c.n c.sign c.char c.text c.cuts c.ad c.cap d g w1 (hB.fr hf (fun _ _ q => q)) (by omega))).mono ?_
  rintro e w' ⟨g', rfl, S, hR⟩
  exact ⟨g', rfl, S, hR.txt, ⟨fun _ _ q => hR.cap (by simpa [textOfF, hop] using q), fun q => by omega⟩⟩
theorem pb_31 (w : World) (base yb i d : Nat) (g : BG) (bs : List (Nat × Gh)) (ds : List (Nat × BG)) (c : Cl) (hY : YardAt w base yb bs ds) (hi : ds[i]? = some (d, g)) (ha : c.a = (i : Int)) (_hsz : g.txt.length + c.text.length + 66000 ≤ 1099511627776) (hop : c.op = 31) (hgood : ¬ badRune c.char) : Calls Tryd.prog 10 #[.pointer (some ⟨yb, 0, none⟩), c.val] w (PBPost w base yb bs ds i d g c) := by
  have hB := hY.bldAt hi
  have e : putS g.txt c = (g.txt ++ enc c.char, Td.ofN (enc c.char).length, decide (enc c.char ≠ [])) := by simp [putS, hop]
  unfold PBPost
  rw [e]
  unfold Cl.val Cl.cells
  rw [hop, ha]
  refine (call_p c.b c.size c.n c.sign c.char c.text c.cuts c.ad c.cap 31 (by simp) w base yb i d g bs ds _ _ _ _ (fun g' => Built g (enc c.char) g') hY hi (fun w1 hf => put_31 (i : Int) c.b c.size c.n c.sign c.char c.text c.cuts c.ad c.cap d g w1 (hB.fr hf (fun _ _ q => q)) hgood (by omega))).mono ?_
  rintro e w' ⟨g', rfl, S, hR⟩
  exact ⟨g', rfl, S, hR.txt, ⟨fun _ _ q => hR.cap (by simpa [textOfF, hop] using q), fun q => by omega⟩⟩
theorem pb_32 (w : World) (base yb i d : Nat) (g : BG) (bs : List (Nat × Gh)) (ds : List (Nat × BG)) (c : Cl) (hY : YardAt w base yb bs ds) (hi : ds[i]? = some (d, g)) (ha : c.a = (i : Int)) (_hsz : g.txt.length + c.text.length + 66000 ≤ 1099511627776) (hop : c.op = 32) (k : Nat) (hn : c.n = (k : Int)) (hk : k ≤ 65536) : Calls Tryd.prog 10 #[.pointer (some ⟨yb, 0, none⟩), c.val] w (PBPost w base yb bs ds i d g c) := by
  have hB := hY.bldAt hi
  have e : putS g.txt c = (g.txt, Td.zero, decide (c.n ≤ 65536)) := by
    have hk0 : ¬ ((k : Int) < 0) := by omega
    simp [putS, hop, hn, hk0]
  unfold PBPost
  rw [e]
  unfold Cl.val Cl.cells
  rw [hop, ha, hn]
  refine (call_p c.b c.size (k : Int) c.sign c.char c.text c.cuts c.ad c.cap 32 (by simp) w base yb i d g bs ds _ _ _ _ (fun g' => Roomy g k g') hY hi (fun w1 hf => put_32 (i : Int) c.b c.size c.sign c.char c.text c.cuts c.ad c.cap d g w1 (hB.fr hf (fun _ _ q => q)) k (by omega))).mono ?_
  rintro e w' ⟨g', rfl, S, hR⟩
  exact ⟨g', rfl, S, hR.txt, ⟨fun h1 h2 => by omega, fun _ => by rw [hn]; exact hR.room⟩⟩
theorem pb_33 (w : World) (base yb i d : Nat) (g : BG) (bs : List (Nat × Gh)) (ds : List (Nat × BG)) (c : Cl) (hY : YardAt w base yb bs ds) (hi : ds[i]? = some (d, g)) (ha : c.a = (i : Int)) (_hsz : g.txt.length + c.text.length + 66000 ≤ 1099511627776) (hop : c.op = 33) : Calls Tryd.prog 10 #[.pointer (some ⟨yb, 0, none⟩), c.val] w (PBPost w base yb bs ds i d g c) := by
  have hB := hY.bldAt hi
  have e : putS g.txt c = ([], Td.zero, true) := by simp [putS, hop]
  unfold PBPost
  rw [e]
  unfold Cl.val Cl.cells
  rw [hop, ha]
  refine (call_p c.b c.size c.n c.sign c.char c.text c.cuts c.ad c.cap 33 (by simp) w base yb i d g bs ds _ _ _ _ (fun g' => g' = ⟨none, [], 0, false⟩) hY hi (fun w1 hf => put_33 (i : Int) c.b c.size c.n c.sign c.char c.text c.cuts c.ad c.cap d g w1 (hB.fr hf (fun _ _ q => q)) )).mono ?_
  rintro e w' ⟨g', rfl, S, hR⟩
  exact ⟨g', rfl, S, by rw [hR], ⟨fun h1 h2 => by omega, fun q => by omega⟩⟩
theorem pb_34 (w : World) (base yb i d : Nat) (g : BG) (bs : List (Nat × Gh)) (ds : List (Nat × BG)) (c : Cl) (hY : YardAt w base yb bs ds) (hi : ds[i]? = some (d, g)) (ha : c.a = (i : Int)) (_hsz : g.txt.length + c.text.length + 66000 ≤ 1099511627776) (hop : c.op = 34) : Calls Tryd.prog 10 #[.pointer (some ⟨yb, 0, none⟩), c.val] w (PBPost w base yb bs ds i d g c) := by
  have hB := hY.bldAt hi
  have e : putS g.txt c = (g.txt, Td.ofN g.txt.length, true) := by simp [putS, hop]
  unfold PBPost
  rw [e]
  unfold Cl.val Cl.cells
  rw [hop, ha]
  refine (call_p c.b c.size c.n c.sign c.char c.text c.cuts c.ad c.cap 34 (by simp) w base yb i d g bs ds _ _ _ _ (fun g' => g' = g) hY hi (fun w1 hf => put_34 (i : Int) c.b c.size c.n c.sign c.char c.text c.cuts c.ad c.cap d g w1 (hB.fr hf (fun _ _ q => q)) )).mono ?_
  rintro e w' ⟨g', rfl, S, hR⟩
  exact ⟨g', rfl, S, by rw [hR], ⟨fun h1 h2 => by omega, fun q => by omega⟩⟩
theorem pb_35 (w : World) (base yb i d : Nat) (g : BG) (bs : List (Nat × Gh)) (ds : List (Nat × BG)) (c : Cl) (hY : YardAt w base yb bs ds) (hi : ds[i]? = some (d, g)) (ha : c.a = (i : Int)) (_hsz : g.txt.length + c.text.length + 66000 ≤ 1099511627776) (hop : c.op = 35) : Calls Tryd.prog 10 #[.pointer (some ⟨yb, 0, none⟩), c.val] w (PBPost w base yb bs ds i d g c) := by
  have hB := hY.bldAt hi
  have e : putS g.txt c = (g.txt, Td.ofText g.txt, true) := by simp [putS, hop]
  unfold PBPost
  rw [e]
  unfold Cl.val Cl.cells
  rw [hop, ha]
  refine (call_p c.b c.size c.n c.sign c.char c.text c.cuts c.ad c.cap 35 (by simp) w base yb i d g bs ds _ _ _ _ (fun g' => g' = g) hY hi (fun w1 hf => put_35 (i : Int) c.b c.size c.n c.sign c.char c.text c.cuts c.ad c.cap d g w1 (hB.fr hf (fun _ _ q => q)) )).mono ?_
  rintro e w' ⟨g', rfl, S, hR⟩
  exact ⟨g', rfl, S, by rw [hR], ⟨fun h1 h2 => by omega, fun q => by omega⟩⟩
theorem pb_any (w : World) (base yb i d : Nat) (g : BG) (bs : List (Nat × Gh)) (ds : List (Nat × BG)) (c : Cl) (hY : YardAt w base yb bs ds) (hi : ds[i]? = some (d, g)) (ha : c.a = (i : Int)) (hsz : g.txt.length + c.text.length + 66000 ≤ 1099511627776) (h28 : 28 ≤ c.op) (h35 : c.op ≤ 35) (hset : (putS g.txt c).2.2 = true) (hns : (putS g.txt c).2.1.said ≠ 3) :
    Calls Tryd.prog 10 #[.pointer (some ⟨yb, 0, none⟩), c.val] w (PBPost w base yb bs ds i d g c) := by
  have hop : c.op = 28 ∨ c.op = 29 ∨ c.op = 30 ∨ c.op = 31 ∨ c.op = 32 ∨ c.op = 33 ∨ c.op = 34 ∨ c.op = 35 := by omega
  rcases hop with hop | hop | hop | hop | hop | hop | hop | hop
  · exact pb_28 w base yb i d g bs ds c hY hi ha hsz hop
  · exact pb_29 w base yb i d g bs ds c hY hi ha hsz hop
  · exact pb_30 w base yb i d g bs ds c hY hi ha hsz hop
  · refine pb_31 w base yb i d g bs ds c hY hi ha hsz hop (fun hb => ?_)
    simp [putS, hop, enc, hb] at hset
  · have hn : ¬ c.n < 0 := fun q => by simp [putS, hop, q, Td.said'] at hns
    have hk : c.n ≤ 65536 := by simpa [putS, hop, hn] using hset
    obtain ⟨k, hk'⟩ := Int.eq_ofNat_of_zero_le (show 0 ≤ c.n by omega)
    exact pb_32 w base yb i d g bs ds c hY hi ha hsz hop k hk' (by omega)
  · exact pb_33 w base yb i d g bs ds c hY hi ha hsz hop
  · exact pb_34 w base yb i d g bs ds c hY hi ha hsz hop
  · exact pb_35 w base yb i d g bs ds c hY hi ha hsz hop
end Go.Proofs.YtimigjjokdnfbaaDoor
