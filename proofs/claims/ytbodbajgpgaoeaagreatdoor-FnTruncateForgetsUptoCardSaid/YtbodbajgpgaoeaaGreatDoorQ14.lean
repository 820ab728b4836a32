/- DecP, SpecN, SpecF. -/
import Derived.Test.YtbodbajgpgaoeaaGreatDoorQ04
import Derived.Lib.MapLaws
import Derived.Test.YtbodbajgpgaoeaaGreatDoorQ01
import Derived.Laws.BitsLemmas
import Derived.Test.YtbodbajgpgaoeaaGreatDoorQ12
namespace Go.Proofs.YtbodbajgpgaoeaaGreatDoor
open Go

/-- The code point that bytes would encode. -/
def numZ : List UInt8 → Int
  | [a] => (a.toNat : Int)
  | [a, b] => ((a.toNat % 32 * 64 + b.toNat % 64 : Nat) : Int)
  | [a, b, c] => ((a.toNat % 16 * 4096 + b.toNat % 64 * 64 + c.toNat % 64 : Nat) : Int)
  | [a, b, c, d] => ((a.toNat % 8 * 262144 + b.toNat % 64 * 4096 + c.toNat % 64 * 64 + d.toNat % 64 : Nat) : Int)
  | _ => 0
theorem enc_goodP {r : Int} (h : ¬ badRune r) : enc r = Lib.encodeRune r := by unfold enc; rw [if_neg h]
theorem byte_eq {z : Int} {x : UInt8} (h0 : 0 ≤ z) (h1 : z < 256) (h : z.toNat.toUInt8 = x) : z = (x.toNat : Int) := by
  have := congrArg UInt8.toNat h
  simp only [Nat.toUInt8_eq, UInt8.toNat_ofNat'] at this
  omega
theorem enc_one {r : Int} (h0 : 0 ≤ r) (h1 : r ≤ 127) : enc r = [r.toNat.toUInt8] := by
  rw [enc_goodP (by unfold badRune; omega), Lib.encodeRune, Lib.encodeRuneZ_one h0 h1]; rfl
theorem enc_two {r : Int} (h0 : 128 ≤ r) (h1 : r ≤ 2047) : enc r = [(192 + r / 64).toNat.toUInt8, (128 + r % 64).toNat.toUInt8] := by
  rw [enc_goodP (by unfold badRune; omega), Lib.encodeRune, Lib.encodeRuneZ_two h0 h1]; rfl
theorem enc_three {r : Int} (h : (2048 ≤ r ∧ r < 55296) ∨ (57343 < r ∧ r ≤ 65535)) : enc r = [(224 + r / 4096).toNat.toUInt8, (128 + r / 64 % 64).toNat.toUInt8, (128 + r % 64).toNat.toUInt8] := by
  rw [enc_goodP (by unfold badRune; omega), Lib.encodeRune, Lib.encodeRuneZ_three h]; rfl
theorem enc_four {r : Int} (h0 : 65536 ≤ r) (h1 : r ≤ 1114111) : enc r = [(240 + r / 262144).toNat.toUInt8, (128 + r / 4096 % 64).toNat.toUInt8, (128 + r / 64 % 64).toNat.toUInt8, (128 + r % 64).toNat.toUInt8] := by
  rw [enc_goodP (by unfold badRune; omega), Lib.encodeRune, Lib.encodeRuneZ_four h0 h1]; rfl
theorem enc_none {r : Int} (h : badRune r) : enc r = [] := by unfold enc; rw [if_pos h]
theorem ok1 (a : UInt8) : enc (numZ [a]) = [a] ↔ a.toNat < 128 := by
  have ha := a.toNat_lt
  simp only [numZ]
  by_cases h : a.toNat < 128
  · rw [enc_one (by omega) (by omega)]
    simp [h]
  · rw [enc_two (by omega) (by omega)]
    simp [h]
theorem ok2 (a b : UInt8) : enc (numZ [a, b]) = [a, b] ↔ a.toNat / 32 = 6 ∧ b.toNat / 64 = 2 ∧ 128 ≤ a.toNat % 32 * 64 + b.toNat % 64 := by
  have ha := a.toNat_lt
  have hb := b.toNat_lt
  simp only [numZ]
  generalize hr : a.toNat % 32 * 64 + b.toNat % 64 = r
  by_cases h : r < 128
  · rw [enc_one (by omega) (by omega)]
    refine ⟨fun q => by simp at q, fun q => by omega⟩
  · rw [enc_two (by omega) (by omega)]
    constructor
    · intro q
      injection q with q1 q
      injection q with q2 q
      have e1 := byte_eq (by omega) (by omega) q1
      have e2 := byte_eq (by omega) (by omega) q2
      omega
    · rintro ⟨q1, q2, q3⟩
      rw [Lib.toByte _ a (by omega), Lib.toByte _ b (by omega)]
theorem ok3 (a b c : UInt8) : enc (numZ [a, b, c]) = [a, b, c] ↔ a.toNat / 16 = 14 ∧ b.toNat / 64 = 2 ∧ c.toNat / 64 = 2 ∧ 2048 ≤ a.toNat % 16 * 4096 + b.toNat % 64 * 64 + c.toNat % 64 ∧ (a.toNat % 16 * 4096 + b.toNat % 64 * 64 + c.toNat % 64 < 55296 ∨ 57344 ≤ a.toNat % 16 * 4096 + b.toNat % 64 * 64 + c.toNat % 64) := by
  have ha := a.toNat_lt
  have hb := b.toNat_lt
  have hc := c.toNat_lt
  simp only [numZ]
  generalize hr : a.toNat % 16 * 4096 + b.toNat % 64 * 64 + c.toNat % 64 = r
  by_cases h : r < 128
  · rw [enc_one (by omega) (by omega)]
    refine ⟨fun q => by simp at q, fun q => by omega⟩
  · by_cases h2 : r < 2048
    · rw [enc_two (by omega) (by omega)]
      refine ⟨fun q => by simp at q, fun q => by omega⟩
    · by_cases h3 : 55296 ≤ r ∧ r < 57344
      · rw [enc_none (by unfold badRune; omega)]
        refine ⟨fun q => by simp at q, fun q => by omega⟩
      · rw [enc_three (by omega)]
        constructor
        · intro q
          injection q with q1 q
          injection q with q2 q
          injection q with q3 q
          have e1 := byte_eq (by omega) (by omega) q1
          have e2 := byte_eq (by omega) (by omega) q2
          have e3 := byte_eq (by omega) (by omega) q3
          omega
        · rintro ⟨q1, q2, q3, q4, q5⟩
          rw [Lib.toByte _ a (by omega), Lib.toByte _ b (by omega), Lib.toByte _ c (by omega)]
theorem ok4 (a b c d : UInt8) : enc (numZ [a, b, c, d]) = [a, b, c, d] ↔ a.toNat / 8 = 30 ∧ b.toNat / 64 = 2 ∧ c.toNat / 64 = 2 ∧ d.toNat / 64 = 2 ∧ 65536 ≤ a.toNat % 8 * 262144 + b.toNat % 64 * 4096 + c.toNat % 64 * 64 + d.toNat % 64 ∧ a.toNat % 8 * 262144 + b.toNat % 64 * 4096 + c.toNat % 64 * 64 + d.toNat % 64 ≤ 1114111 := by
  have ha := a.toNat_lt
  have hb := b.toNat_lt
  have hc := c.toNat_lt
  have hd := d.toNat_lt
  simp only [numZ]
  generalize hr : a.toNat % 8 * 262144 + b.toNat % 64 * 4096 + c.toNat % 64 * 64 + d.toNat % 64 = r
  by_cases h : r < 128
  · rw [enc_one (by omega) (by omega)]
    refine ⟨fun q => by simp at q, fun q => by omega⟩
  · by_cases h2 : r < 2048
    · rw [enc_two (by omega) (by omega)]
      refine ⟨fun q => by simp at q, fun q => by omega⟩
    · by_cases h3 : 1114111 < r ∨ (55296 ≤ r ∧ r < 57344)
      · rw [enc_none (by unfold badRune; omega)]
        refine ⟨fun q => by simp at q, fun q => by omega⟩
      · by_cases h4 : r < 65536
        · rw [enc_three (by omega)]
          refine ⟨fun q => by simp at q, fun q => by omega⟩
        · rw [enc_four (by omega) (by omega)]
          constructor
          · intro q
            injection q with q1 q
            injection q with q2 q
            injection q with q3 q
            injection q with q4 q
            have e1 := byte_eq (by omega) (by omega) q1
            have e2 := byte_eq (by omega) (by omega) q2
            have e3 := byte_eq (by omega) (by omega) q3
            have e4 := byte_eq (by omega) (by omega) q4
            omega
          · rintro ⟨q1, q2, q3, q4, q5, q6⟩
            rw [Lib.toByte _ a (by omega), Lib.toByte _ b (by omega), Lib.toByte _ c (by omega), Lib.toByte _ d (by omega)]
/-- The first n bytes are the encoding of what they would encode. -/
def okN (s : List UInt8) (n : Nat) : Prop := enc (numZ (s.take n)) = s.take n
instance (s : List UInt8) (n : Nat) : Decidable (okN s n) := by unfold okN; infer_instance
theorem dec_hit {s : List UInt8} {n : Nat} (h1 : 1 ≤ n) (h4 : n ≤ 4) (hl : n ≤ s.length) (ho : okN s n) : dec s = (numZ (s.take n), n) := by
  have hn : n = 1 ∨ n = 2 ∨ n = 3 ∨ n = 4 := by omega
  unfold okN at ho
  rcases hn with rfl | rfl | rfl | rfl
  · rw [Lib.takeA s (by omega)] at ho ⊢
    rw [ok1] at ho
    simp only [dec, Lib.decodeN, numZ]
    rw [if_pos ho]
  · rw [Lib.takeB s (by omega)] at ho ⊢
    rw [ok2] at ho
    obtain ⟨q1, q2, q3⟩ := ho
    simp only [dec, Lib.decodeN, numZ]
    rw [if_neg (by omega), if_pos ⟨q1, by omega, q2⟩, if_pos q3]
  · rw [Lib.takeC s (by omega)] at ho ⊢
    rw [ok3] at ho
    obtain ⟨q1, q2, q3, q4, q5⟩ := ho
    simp only [dec, Lib.decodeN, numZ]
    rw [if_neg (by omega), if_neg (by omega), if_pos ⟨q1, ⟨by omega, q2⟩, by omega, q3⟩, if_pos ⟨q4, by omega⟩]
  · rw [Lib.takeD s (by omega)] at ho ⊢
    rw [ok4] at ho
    obtain ⟨q1, q2, q3, q4, q5, q6⟩ := ho
    simp only [dec, Lib.decodeN, numZ]
    rw [if_neg (by omega), if_neg (by omega), if_neg (by omega), if_pos ⟨q1, ⟨by omega, q2⟩, ⟨by omega, q3⟩, by omega, q4⟩, if_pos ⟨q5, by omega⟩]
theorem dec_miss {s : List UInt8} (hne : s ≠ []) (h : ∀ n, 1 ≤ n → n ≤ 4 → n ≤ s.length → ¬ okN s n) : dec s = (65533, 1) := by
  have hl : 0 < s.length := List.length_pos_iff.2 hne
  have k1 := h 1 (by omega) (by omega) (by omega)
  unfold okN at k1
  rw [Lib.takeA s hl, ok1] at k1
  rcases Lib.decodeN_shape s.length (s.getD 0 0).toNat (s.getD 1 0).toNat (s.getD 2 0).toNat (s.getD 3 0).toNat with ⟨c, e⟩ | ⟨c1, c2, c3, cv, e⟩ | ⟨c1, c2, c3, c4, cv, cs, e⟩ | ⟨c1, c2, c3, c4, c5, cv, cw, e⟩ | e
  · exact absurd c k1
  · have k := h 2 (by omega) (by omega) (by omega)
    unfold okN at k
    rw [Lib.takeB s c2, ok2] at k
    exact absurd ⟨c1, c3, cv⟩ k
  · have k := h 3 (by omega) (by omega) (by omega)
    unfold okN at k
    rw [Lib.takeC s c2, ok3] at k
    exact absurd ⟨c1, c3, c4, cv, cs⟩ k
  · have k := h 4 (by omega) (by omega) (by omega)
    unfold okN at k
    rw [Lib.takeD s c2, ok4] at k
    exact absurd ⟨c1, c3, c4, c5, cv, cw⟩ k
  · simp only [dec]
    rw [e]
    rfl
/-- What was decoded, unless it is the sign of a fault, encodes to its bytes. -/
theorem enc_dec {s : List UInt8} (hne : s ≠ []) (hv : ¬ ((dec s).1 = 65533 ∧ (dec s).2 = 1)) : enc (dec s).1 = s.take (dec s).2 := by
  by_cases h : ∃ n, 1 ≤ n ∧ n ≤ 4 ∧ n ≤ s.length ∧ okN s n
  · obtain ⟨n, h1, h4, hl, ho⟩ := h
    rw [dec_hit h1 h4 hl ho]
    exact ho
  · have := dec_miss hne (fun n h1 h4 hl ho => h ⟨n, h1, h4, hl, ho⟩)
    rw [this] at hv
    exact absurd ⟨rfl, rfl⟩ hv
end Go.Proofs.YtbodbajgpgaoeaaGreatDoor

namespace Go.Proofs.YtbodbajgpgaoeaaGreatDoor
open Go Go.RowKit

theorem u8_and63 {x : Int} (h0 : 0 ≤ x) (h1 : x < 256) : bits .and .u8 x 63 = x % 64 := bits_mask .u8 8 (by decide) wraps_u8 6 (by decide) x h0 (by omega)
theorem i32_and31 {x : Int} (h0 : 0 ≤ x) (h1 : x < 256) : bits .and .i32 x 31 = x % 32 := bits_mask .i32 31 (by decide) wraps_i32 5 (by decide) x h0 (by omega)
theorem i32_and15 {x : Int} (h0 : 0 ≤ x) (h1 : x < 256) : bits .and .i32 x 15 = x % 16 := bits_mask .i32 31 (by decide) wraps_i32 4 (by decide) x h0 (by omega)
theorem i32_and7 {x : Int} (h0 : 0 ≤ x) (h1 : x < 256) : bits .and .i32 x 7 = x % 8 := bits_mask .i32 31 (by decide) wraps_i32 3 (by decide) x h0 (by omega)
theorem wrap32_in (x : Int) (h : 0 ≤ x) (h1 : x < 2147483648) : wrap32 x = x := by unfold wrap32; omega
theorem or_six (x y : Int) (h : 0 ≤ x) (h1 : x < 33554432) (k : 0 ≤ y) (k1 : y < 64) : bits .or .i32 (x * 64) y = x * 64 + y := i32_or6 _ _ (by omega) (by omega) (by omega) k k1
theorem byte_mod (v : UInt8) (m : Int) (h : 0 < m) : 0 ≤ (v.toNat : Int) % m ∧ (v.toNat : Int) % m < m := ⟨Int.emod_nonneg _ (by omega), Int.emod_lt_of_pos _ h⟩
def NumPost (w : World) (t : List UInt8) (e : Ending) (w' : World) : Prop := e = .returned (.int .i32 (numZ t)) ∧ w' = w
set_option maxHeartbeats 800000 in
set_option maxRecDepth 100000 in
theorem number_1 (a : UInt8) (w : World) : Calls Tryz.prog 108 #[.string ⟨[a].toArray⟩] w (NumPost w [a]) := by
  unfold NumPost
  have g0 : ∀ h : 0 < (⟨#[a]⟩ : ByteArray).size, (⟨#[a]⟩ : ByteArray)[0]'h = a := fun _ => rfl
  have r0 : wrap32 (a.toNat : Int) = (a.toNat : Int) := wrap32_in _ (by omega) (by have := a.toNat_lt; omega)
  simp only [numZ]
  go_enter Tryz.func108, Tryz.ntmps108
  go_wp2_with fail
  go_loop [3, 4] (fun v3 v4 => (v4 = .int .i64 1 ∧ v3 = .int .i32 (a.toNat : Int))) (fun _ v4 => 1 - (intOf v4).toNat)
  case atStart => exact ⟨rfl, by rw [r0]⟩
  case round =>
    obtain ⟨rfl, rfl⟩ := hrel
    go_wp2_with fail
    go_ret
    exact ⟨rfl, rfl⟩
set_option maxHeartbeats 800000 in
set_option maxRecDepth 100000 in
theorem number_2 (a b : UInt8) (w : World) : Calls Tryz.prog 108 #[.string ⟨[a, b].toArray⟩] w (NumPost w [a, b]) := by
  unfold NumPost
  have g0 : ∀ h : 0 < (⟨#[a, b]⟩ : ByteArray).size, (⟨#[a, b]⟩ : ByteArray)[0]'h = a := fun _ => rfl
  have g1 : ∀ h : 1 < (⟨#[a, b]⟩ : ByteArray).size, (⟨#[a, b]⟩ : ByteArray)[1]'h = b := fun _ => rfl
  have r0 : wrap32 (a.toNat : Int) = (a.toNat : Int) := wrap32_in _ (by omega) (by have := a.toNat_lt; omega)
  have ra : bits .and .i32 (a.toNat : Int) 31 = (a.toNat : Int) % 32 := i32_and31 (by omega) (by have := a.toNat_lt; omega)
  have m1 : bits .and .u8 (b.toNat : Int) 63 = (b.toNat : Int) % 64 := u8_and63 (by omega) (by have := b.toNat_lt; omega)
  have hfin : numZ [a, b] = (((a.toNat : Int) % 32) * 64 + (b.toNat : Int) % 64) := by simp only [numZ]; omega
  obtain ⟨b1, b1'⟩ := byte_mod a 32 (by decide)
  obtain ⟨p1, p1'⟩ := byte_mod b 64 (by decide)
  generalize (b.toNat : Int) % 64 = y1 at *
  generalize (a.toNat : Int) % 32 = r1 at *
  have c1 : wrap32 y1 = y1 := wrap32_in _ (by omega) (by omega)
  have s1 : wrap32 (r1 * 64) = r1 * 64 := wrap32_in _ (by omega) (by omega)
  have o1 := or_six r1 y1 (by omega) (by omega) (by omega) (by omega)
  have b2 : 0 ≤ r1 * 64 + y1 := by omega
  have b2' : r1 * 64 + y1 < 2048 := by omega
  generalize r1 * 64 + y1 = r2 at *
  rw [hfin]
  clear hfin b1 b2 b1' b2' p1 p1'
  go_enter Tryz.func108, Tryz.ntmps108
  go_wp2_with fail
  go_loop [3, 4] (fun v3 v4 => (v4 = .int .i64 1 ∧ v3 = .int .i32 r1) ∨ (v4 = .int .i64 2 ∧ v3 = .int .i32 r2)) (fun _ v4 => 2 - (intOf v4).toNat)
  case atStart => exact .inl ⟨rfl, rfl⟩
  case round =>
    rcases hrel with ⟨rfl, rfl⟩ | ⟨rfl, rfl⟩
    · go_wp2_with fail
      go_round
      case rel => exact .inr (⟨rfl, rfl⟩)
      case measure => simp [intOf]
    · go_wp2_with fail
      go_ret
      exact ⟨rfl, rfl⟩
set_option maxHeartbeats 800000 in
set_option maxRecDepth 100000 in
theorem number_3 (a b c : UInt8) (w : World) : Calls Tryz.prog 108 #[.string ⟨[a, b, c].toArray⟩] w (NumPost w [a, b, c]) := by
  unfold NumPost
  have g0 : ∀ h : 0 < (⟨#[a, b, c]⟩ : ByteArray).size, (⟨#[a, b, c]⟩ : ByteArray)[0]'h = a := fun _ => rfl
  have g1 : ∀ h : 1 < (⟨#[a, b, c]⟩ : ByteArray).size, (⟨#[a, b, c]⟩ : ByteArray)[1]'h = b := fun _ => rfl
  have g2 : ∀ h : 2 < (⟨#[a, b, c]⟩ : ByteArray).size, (⟨#[a, b, c]⟩ : ByteArray)[2]'h = c := fun _ => rfl
  have r0 : wrap32 (a.toNat : Int) = (a.toNat : Int) := wrap32_in _ (by omega) (by have := a.toNat_lt; omega)
  have ra : bits .and .i32 (a.toNat : Int) 15 = (a.toNat : Int) % 16 := i32_and15 (by omega) (by have := a.toNat_lt; omega)
  have m1 : bits .and .u8 (b.toNat : Int) 63 = (b.toNat : Int) % 64 := u8_and63 (by omega) (by have := b.toNat_lt; omega)
  have m2 : bits .and .u8 (c.toNat : Int) 63 = (c.toNat : Int) % 64 := u8_and63 (by omega) (by have := c.toNat_lt; omega)
  have hfin : numZ [a, b, c] = ((((a.toNat : Int) % 16) * 64 + (b.toNat : Int) % 64) * 64 + (c.toNat : Int) % 64) := by simp only [numZ]; omega
  obtain ⟨b1, b1'⟩ := byte_mod a 16 (by decide)
  obtain ⟨p1, p1'⟩ := byte_mod b 64 (by decide)
  generalize (b.toNat : Int) % 64 = y1 at *
  obtain ⟨p2, p2'⟩ := byte_mod c 64 (by decide)
  generalize (c.toNat : Int) % 64 = y2 at *
  generalize (a.toNat : Int) % 16 = r1 at *
  have c1 : wrap32 y1 = y1 := wrap32_in _ (by omega) (by omega)
  have s1 : wrap32 (r1 * 64) = r1 * 64 := wrap32_in _ (by omega) (by omega)
  have o1 := or_six r1 y1 (by omega) (by omega) (by omega) (by omega)
  have b2 : 0 ≤ r1 * 64 + y1 := by omega
  have b2' : r1 * 64 + y1 < 1024 := by omega
  generalize r1 * 64 + y1 = r2 at *
  have c2 : wrap32 y2 = y2 := wrap32_in _ (by omega) (by omega)
  have s2 : wrap32 (r2 * 64) = r2 * 64 := wrap32_in _ (by omega) (by omega)
  have o2 := or_six r2 y2 (by omega) (by omega) (by omega) (by omega)
  have b3 : 0 ≤ r2 * 64 + y2 := by omega
  have b3' : r2 * 64 + y2 < 65536 := by omega
  generalize r2 * 64 + y2 = r3 at *
  rw [hfin]
  clear hfin b1 b2 b3 b1' b2' b3' p1 p1' p2 p2'
  go_enter Tryz.func108, Tryz.ntmps108
  go_wp2_with fail
  go_loop [3, 4] (fun v3 v4 => (v4 = .int .i64 1 ∧ v3 = .int .i32 r1) ∨ (v4 = .int .i64 2 ∧ v3 = .int .i32 r2) ∨ (v4 = .int .i64 3 ∧ v3 = .int .i32 r3)) (fun _ v4 => 3 - (intOf v4).toNat)
  case atStart => exact .inl ⟨rfl, rfl⟩
  case round =>
    rcases hrel with ⟨rfl, rfl⟩ | ⟨rfl, rfl⟩ | ⟨rfl, rfl⟩
    · go_wp2_with fail
      go_round
      case rel => exact .inr (.inl ⟨rfl, rfl⟩)
      case measure => simp [intOf]
    · go_wp2_with fail
      go_round
      case rel => exact .inr (.inr (⟨rfl, rfl⟩))
      case measure => simp [intOf]
    · go_wp2_with fail
      go_ret
      exact ⟨rfl, rfl⟩
set_option maxHeartbeats 800000 in
set_option maxRecDepth 100000 in
theorem number_4 (a b c d : UInt8) (w : World) : Calls Tryz.prog 108 #[.string ⟨[a, b, c, d].toArray⟩] w (NumPost w [a, b, c, d]) := by
  unfold NumPost
  have g0 : ∀ h : 0 < (⟨#[a, b, c, d]⟩ : ByteArray).size, (⟨#[a, b, c, d]⟩ : ByteArray)[0]'h = a := fun _ => rfl
  have g1 : ∀ h : 1 < (⟨#[a, b, c, d]⟩ : ByteArray).size, (⟨#[a, b, c, d]⟩ : ByteArray)[1]'h = b := fun _ => rfl
  have g2 : ∀ h : 2 < (⟨#[a, b, c, d]⟩ : ByteArray).size, (⟨#[a, b, c, d]⟩ : ByteArray)[2]'h = c := fun _ => rfl
  have g3 : ∀ h : 3 < (⟨#[a, b, c, d]⟩ : ByteArray).size, (⟨#[a, b, c, d]⟩ : ByteArray)[3]'h = d := fun _ => rfl
  have r0 : wrap32 (a.toNat : Int) = (a.toNat : Int) := wrap32_in _ (by omega) (by have := a.toNat_lt; omega)
  have ra : bits .and .i32 (a.toNat : Int) 7 = (a.toNat : Int) % 8 := i32_and7 (by omega) (by have := a.toNat_lt; omega)
  have m1 : bits .and .u8 (b.toNat : Int) 63 = (b.toNat : Int) % 64 := u8_and63 (by omega) (by have := b.toNat_lt; omega)
  have m2 : bits .and .u8 (c.toNat : Int) 63 = (c.toNat : Int) % 64 := u8_and63 (by omega) (by have := c.toNat_lt; omega)
  have m3 : bits .and .u8 (d.toNat : Int) 63 = (d.toNat : Int) % 64 := u8_and63 (by omega) (by have := d.toNat_lt; omega)
  have hfin : numZ [a, b, c, d] = (((((a.toNat : Int) % 8) * 64 + (b.toNat : Int) % 64) * 64 + (c.toNat : Int) % 64) * 64 + (d.toNat : Int) % 64) := by simp only [numZ]; omega
  obtain ⟨b1, b1'⟩ := byte_mod a 8 (by decide)
  obtain ⟨p1, p1'⟩ := byte_mod b 64 (by decide)
  generalize (b.toNat : Int) % 64 = y1 at *
  obtain ⟨p2, p2'⟩ := byte_mod c 64 (by decide)
  generalize (c.toNat : Int) % 64 = y2 at *
  obtain ⟨p3, p3'⟩ := byte_mod d 64 (by decide)
  generalize (d.toNat : Int) % 64 = y3 at *
  generalize (a.toNat : Int) % 8 = r1 at *
  have c1 : wrap32 y1 = y1 := wrap32_in _ (by omega) (by omega)
  have s1 : wrap32 (r1 * 64) = r1 * 64 := wrap32_in _ (by omega) (by omega)
  have o1 := or_six r1 y1 (by omega) (by omega) (by omega) (by omega)
  have b2 : 0 ≤ r1 * 64 + y1 := by omega
  have b2' : r1 * 64 + y1 < 512 := by omega
  generalize r1 * 64 + y1 = r2 at *
  have c2 : wrap32 y2 = y2 := wrap32_in _ (by omega) (by omega)
  have s2 : wrap32 (r2 * 64) = r2 * 64 := wrap32_in _ (by omega) (by omega)
  have o2 := or_six r2 y2 (by omega) (by omega) (by omega) (by omega)
  have b3 : 0 ≤ r2 * 64 + y2 := by omega
  have b3' : r2 * 64 + y2 < 32768 := by omega
  generalize r2 * 64 + y2 = r3 at *
  have c3 : wrap32 y3 = y3 := wrap32_in _ (by omega) (by omega)
  have s3 : wrap32 (r3 * 64) = r3 * 64 := wrap32_in _ (by omega) (by omega)
  have o3 := or_six r3 y3 (by omega) (by omega) (by omega) (by omega)
  have b4 : 0 ≤ r3 * 64 + y3 := by omega
  have b4' : r3 * 64 + y3 < 2097152 := by omega
  generalize r3 * 64 + y3 = r4 at *
  rw [hfin]
  clear hfin b1 b2 b3 b4 b1' b2' b3' b4' p1 p1' p2 p2' p3 p3'
  go_enter Tryz.func108, Tryz.ntmps108
  go_wp2_with fail
  go_loop [3, 4] (fun v3 v4 => (v4 = .int .i64 1 ∧ v3 = .int .i32 r1) ∨ (v4 = .int .i64 2 ∧ v3 = .int .i32 r2) ∨ (v4 = .int .i64 3 ∧ v3 = .int .i32 r3) ∨ (v4 = .int .i64 4 ∧ v3 = .int .i32 r4)) (fun _ v4 => 4 - (intOf v4).toNat)
  case atStart => exact .inl ⟨rfl, rfl⟩
  case round =>
    rcases hrel with ⟨rfl, rfl⟩ | ⟨rfl, rfl⟩ | ⟨rfl, rfl⟩ | ⟨rfl, rfl⟩
    · go_wp2_with fail
      go_round
      case rel => exact .inr (.inl ⟨rfl, rfl⟩)
      case measure => simp [intOf]
    · go_wp2_with fail
      go_round
      case rel => exact .inr (.inr (.inl ⟨rfl, rfl⟩))
      case measure => simp [intOf]
    · go_wp2_with fail
      go_round
      case rel => exact .inr (.inr (.inr (⟨rfl, rfl⟩)))
      case measure => simp [intOf]
    · go_wp2_with fail
      go_ret
      exact ⟨rfl, rfl⟩
theorem number_any (t : List UInt8) (h1 : 1 ≤ t.length) (h4 : t.length ≤ 4) (w : World) : Calls Tryz.prog 108 #[.string ⟨t.toArray⟩] w (NumPost w t) := by
  match t, h1, h4 with
  | [a], _, _ => exact number_1 a w
  | [a, b], _, _ => exact number_2 a b w
  | [a, b, c], _, _ => exact number_3 a b c w
  | [a, b, c, d], _, _ => exact number_4 a b c d w
end Go.Proofs.YtbodbajgpgaoeaaGreatDoor

namespace Go.Proofs.YtbodbajgpgaoeaaGreatDoor
open Go Go.RowKit

def DecPost (w : World) (s : List UInt8) (e : Ending) (w' : World) : Prop := e = .returned (.tuple #[.int .i32 (dec s).1, .int .i64 ((dec s).2 : Int)]) ∧ Fr (fun _ => False) w w'
set_option maxHeartbeats 1600000 in
set_option maxRecDepth 100000 in
theorem sp_decode (s : List UInt8) (w : World) (hne : s ≠ []) : Calls Tryz.prog 97 #[.string ⟨s.toArray⟩] w (DecPost w s) := by
  have HNE := Lib.hid hne
  clear hne
  unfold DecPost
  obtain ⟨ch, dn, hd⟩ : ∃ ch dn, dec s = (ch, dn) := ⟨_, _, rfl⟩
  rw [hd]
  have HD := Lib.hid hd
  clear hd
  go_enter Tryz.func97, Tryz.ntmps97
  go_wp2_with fail
  go_loopw [4, 5] (fun v4 v5 wr => ∃ n : Nat, 1 ≤ n ∧ n ≤ 5 ∧ v4 = .int .i64 (n : Int) ∧ (∃ u, v5 = u) ∧ Fr (fun _ => False) w wr ∧ Hid (∀ m, 1 ≤ m → m < n → m ≤ s.length → ¬ okN s m)) (fun v4 _ _ => 5 - (intOf v4).toNat)
  case atStart => exact ⟨1, by omega, by omega, rfl, ⟨_, rfl⟩, Fr.refl _ w, Lib.hid (fun m h1 h2 => by omega)⟩
  case round =>
    obtain ⟨n, hn1, hn5, rfl, ⟨u, rfl⟩, hF, hH⟩ := hrel
    have HF := Lib.hid hF
    clear hF
    have hn0 : (0 : Int) ≤ (n : Int) := by omega
    by_cases h4 : (n : Int) ≤ 4
    · by_cases hnl : (n : Int) ≤ (s.length : Int)
      · have x1 := ext_take s n
        obtain ⟨p, hp⟩ : ∃ p, p = s.take n := ⟨_, rfl⟩
        rw [← hp] at x1
        have hpl : p.length = n := by rw [hp]; simp; omega
        have HP := Lib.hid hp
        have hnum := number_any p (by omega) (by omega)
        have HNUM := Lib.hid hnum
        clear hp hpl hnum
        go_wp2_with fail
        refine (HNUM.out _).mono ?_
        rintro e w1 ⟨rfl, hw1⟩
        rw [hw1]
        clear hw1
        go_wp2_with fail
        obtain ⟨el, hel⟩ : ∃ el, el = enc (numZ p) := ⟨_, rfl⟩
        have HEL := Lib.hid hel
        have henc := encode_any (numZ p)
        unfold EncPost at henc
        rw [← hel] at henc
        have HENC := Lib.hid henc
        clear hel henc
        by_cases hep : el = p
        · have hq : (el == p) = true := by rw [hep]; simp
          have hok : okN s n := by unfold okN; rw [← HP.out, ← HEL.out]; exact hep
          have hdec := dec_hit hn1 (by omega) (by omega) hok
          rw [← HP.out, HD.out] at hdec
          have HDEC := Lib.hid hdec
          clear hep hok hdec
          go_region_held3 (fun _ => True) (trivial) ((go_at_call 15; refine (HENC.out _).mono ?_; rintro e w2 ⟨rfl, F2⟩; have HF2 := Lib.hid (HF.out.drew.trans F2); clear F2))
          go_wp2_with fail
          go_ret2
          exact ⟨by have q := HDEC.out; injection q with q1 q2; rw [q1, q2]; rfl, HF2.out⟩
        · have hq : (el == p) = false := by simpa using hep
          have hno : ¬ okN s n := by unfold okN; rw [← HP.out, ← HEL.out]; exact hep
          have hH2 : Hid (∀ m, 1 ≤ m → m < n + 1 → m ≤ s.length → ¬ okN s m) := Lib.hid (fun m h1 h2 h3 => by
            by_cases hmn : m < n
            · exact hH.out m h1 hmn h3
            · obtain rfl : m = n := by omega
              exact hno)
          clear hep hno
          go_region_held3 (fun _ => True) (trivial) ((go_at_call 15; refine (HENC.out _).mono ?_; rintro e w2 ⟨rfl, F2⟩; have HF2 := Lib.hid (HF.out.drew.trans F2); clear F2))
          go_wp2_with fail
          go_roundw
          case rel => exact ⟨n + 1, by omega, by omega, by go_num, ⟨_, rfl⟩, HF2.out, hH2⟩
          case measure => simp [intOf]; omega
      · have hdec := dec_miss HNE.out (fun m h1 h2 h3 => hH.out m h1 (by omega) h3)
        rw [HD.out] at hdec
        have HDEC := Lib.hid hdec
        clear hdec
        go_wp2_with fail
        go_ret2
        exact ⟨by have q := HDEC.out; injection q with q1 q2; rw [q1, q2]; rfl, HF.out⟩
    · have hdec := dec_miss HNE.out (fun m h1 h2 h3 => hH.out m h1 (by omega) h3)
      rw [HD.out] at hdec
      have HDEC := Lib.hid hdec
      clear hdec
      have h4b : decide ((n : Int) ≤ 4) = false := by simp; omega
      go_wp2_with fail
      go_ret2
      exact ⟨by have q := HDEC.out; injection q with q1 q2; rw [q1, q2]; rfl, HF.out⟩
end Go.Proofs.YtbodbajgpgaoeaaGreatDoor
