/- The reference in plain Lean: what calls of buffers and builders tell, and what they leave. No program is named here. -/
import Derived.Lib.RuneBytes
import Derived.Lib.DecodeN
namespace Go.Proofs.YtimigjjokdnfbaaDoor
open Go

/-- A step of a script. -/
structure Cl where
  op : Int
  a : Int
  b : Int
  size : Nat
  n : Int
  sign : UInt8
  char : Int
  text : List UInt8
  cuts : List Nat
  /-- Where the cuts lie, and their capacity. -/
  ad : Option Addr
  cap : Nat

/-- What a call tells. -/
structure Td where
  n : Int
  text : List UInt8
  char : Int
  said : Int

/-- How a buffer begins. -/
structure St where
  text : List UInt8
  way : Int
  space : Nat

/-- A buffer of the reference: what is unread, the most recent read or write (0 unknown, 1 single, 2 char, 3 empty, 4 written, 5 cut), what it returned last, whether there was a read. -/
structure SB where
  text : List UInt8
  recent : Int
  last : List UInt8
  begun : Bool

/-- All buffers and builders. -/
structure Yd where
  bufs : List SB
  blds : List (List UInt8)

def Td.said' (k : Int) : Td := ⟨0, [], 0, k⟩
def Td.ofN (k : Int) : Td := ⟨k, [], 0, 0⟩
def Td.ofText (t : List UInt8) : Td := ⟨0, t, 0, 0⟩
def Td.zero : Td := ⟨0, [], 0, 0⟩

/-- No code point. -/
def badRune (r : Int) : Prop := r < 0 ∨ 1114111 < r ∨ (55296 ≤ r ∧ r < 57344)
instance (r : Int) : Decidable (badRune r) := by unfold badRune; infer_instance

/-- The encoding of a code point; empty if it is none. -/
def enc (r : Int) : List UInt8 := if badRune r then [] else Lib.encodeRune r

/-- The code point that comes first, and its size. -/
def dec (s : List UInt8) : Int × Nat :=
  let q := Lib.decodeN s.length (s.getD 0 0).toNat (s.getD 1 0).toNat (s.getD 2 0).toNat (s.getD 3 0).toNat
  ((q.1 : Int), q.2)

def SB.write (b : SB) (s : List UInt8) : SB := ⟨b.text ++ s, 4, [], b.begun⟩
def SB.read (b : SB) (n : Nat) (recent : Int) : SB :=
  if n = 0 then ⟨b.text, 3, [], true⟩
  else ⟨b.text.drop n, recent, if recent = 2 then b.text.take n else (b.text.drop (n - 1)).take 1, true⟩
def SB.other (b : SB) (s : List UInt8) : SB := ⟨s, 0, [], b.begun⟩

/-- How many bytes a read up to a byte takes: up to and including its first place; none if it is not there. -/
def upTo (c : UInt8) : List UInt8 → Option Nat
  | [] => none
  | x :: l => if x = c then some 1 else (upTo c l).map (· + 1)

def SB.reads (b : SB) (c : Cl) : SB × Td × Bool :=
  let n := min c.size b.text.length
  if c.op = 6 then
    if b.text = [] ∧ 0 < c.size then (b.read 0 1, Td.said' 1, true)
    else (b.read n 1, ⟨n, b.text.take n, 0, 0⟩, true)
  else if c.op = 7 then (b.read n 1, Td.ofText (b.text.take n), true)
  else if c.op = 8 then
    match b.text with
    | [] => (b.read 0 1, Td.said' 1, true)
    | x :: _ => (b.read 1 1, ⟨0, [], x.toNat, 0⟩, true)
  else if c.op = 9 ∨ c.op = 10 then
    match upTo c.sign b.text with
    | some k => (b.read k 1, Td.ofText (b.text.take k), true)
    | none => if b.text = [] then (⟨[], 5, [], true⟩, Td.said' 1, true) else (b.read b.text.length 5, ⟨0, b.text, 0, 1⟩, true)
  else if b.text = [] then (b.read 0 2, Td.said' 1, true)
  else (b.read (dec b.text).2 2, ⟨(dec b.text).2, [], (dec b.text).1, 0⟩, true)

def SB.back (b : SB) (c : Cl) : SB × Td × Bool :=
  if c.op = 13 then
    if b.recent = 2 then (b.other (b.last ++ b.text), Td.zero, true)
    else (b, Td.said' 2, decide (b.recent ≠ 0))
  else if b.recent = 1 ∨ b.recent = 2 then (b.other (b.last.drop (b.last.length - 1) ++ b.text), Td.zero, true)
  else if b.recent = 3 then (b, Td.said' 2, true)
  else if b.recent = 4 then (b, Td.said' 2, b.begun)
  else (b, Td.said' 2, false)

def SB.look (b : SB) (c : Cl) : SB × Td × Bool :=
  let put (n : Int) : SB × Td × Bool :=
    if 0 ≤ n ∧ n < b.text.length then (b.other (b.text.take n.toNat ++ c.sign :: b.text.drop (n.toNat + 1)), Td.zero, true)
    else (b.other b.text, Td.zero, true)
  if c.op = 14 then
    if b.text.length < c.size then (b, Td.zero, false)
    else (b.other b.text, Td.ofText (b.text.take c.size), true)
  else if c.op = 22 then
    if b.text.length < c.size then (b, Td.zero, false) else put ((c.size : Int) - 1)
  else put (c.size : Int)

def SB.do (b : SB) (c : Cl) : SB × Td × Bool :=
  if c.op = 1 ∨ c.op = 2 ∨ c.op = 5 then (b.write c.text, Td.ofN c.text.length, true)
  else if c.op = 3 then (b.write [c.sign], Td.zero, true)
  else if c.op = 4 then (b.write (enc c.char), Td.ofN (enc c.char).length, decide (enc c.char ≠ []))
  else if c.op = 12 ∨ c.op = 13 then b.back c
  else if c.op = 18 then (b, Td.ofN b.text.length, true)
  else if c.op = 19 ∨ c.op = 20 then (b, Td.ofText b.text, true)
  else if c.op = 15 then
    if 0 ≤ c.n ∧ c.n ≤ b.text.length then (b.other (b.text.take c.n.toNat), Td.zero, true)
    else (b, Td.said' 3, true)
  else if c.op = 16 then (b.other [], Td.zero, true)
  else if c.op = 17 then
    if c.n < 0 then (b, Td.said' 3, true) else (b.other b.text, Td.zero, decide (c.n ≤ 65536))
  else if c.op = 21 ∨ c.op = 22 ∨ c.op = 14 then b.look c
  else b.reads c

def putS (s : List UInt8) (c : Cl) : List UInt8 × Td × Bool :=
  if c.op = 28 ∨ c.op = 29 then (s ++ c.text, Td.ofN c.text.length, true)
  else if c.op = 30 then (s ++ [c.sign], Td.zero, true)
  else if c.op = 31 then (s ++ enc c.char, Td.ofN (enc c.char).length, decide (enc c.char ≠ []))
  else if c.op = 32 then
    if c.n < 0 then (s, Td.said' 3, true) else (s, Td.zero, decide (c.n ≤ 65536))
  else if c.op = 33 then ([], Td.zero, true)
  else if c.op = 34 then (s, Td.ofN s.length, true)
  else (s, Td.ofText s, true)

def inR (i : Int) (n : Nat) : Prop := 0 ≤ i ∧ i < n
instance (i : Int) (n : Nat) : Decidable (inR i n) := by unfold inR; infer_instance

def SB.zero : SB := ⟨[], 0, [], false⟩
def Yd.buf (y : Yd) (i : Int) : SB := y.bufs.getD i.toNat SB.zero
def Yd.bld (y : Yd) (i : Int) : List UInt8 := y.blds.getD i.toNat []
def Yd.setBuf (y : Yd) (i : Int) (b : SB) : Yd := { y with bufs := y.bufs.set i.toNat b }
def Yd.setBld (y : Yd) (i : Int) (s : List UInt8) : Yd := { y with blds := y.blds.set i.toNat s }

def Yd.flow (y : Yd) (c : Cl) : Yd × Td × Bool :=
  let a := y.buf c.a
  let s := a.text
  if c.op = 26 then
    if c.size < s.length then (y, Td.zero, false)
    else (y.setBuf c.a (a.other []), ⟨s.length, s, 0, 0⟩, true)
  else if c.op = 27 then
    (y.setBuf c.a (a.other (s ++ c.text)), ⟨c.text.length, [], 0, if c.n = 0 then 0 else 2⟩, true)
  else if c.op = 25 then
    if inR c.b y.blds.length then ((y.setBuf c.a (a.other [])).setBld c.b (y.bld c.b ++ s), Td.ofN s.length, true)
    else (y, Td.said' 4, true)
  else if inR c.b y.bufs.length ∧ c.a ≠ c.b then
    let b := y.buf c.b
    if c.op = 24 then ((y.setBuf c.a (a.other (s ++ b.text))).setBuf c.b (b.other []), Td.ofN b.text.length, true)
    else ((y.setBuf c.a (a.other [])).setBuf c.b (if s = [] then b.other b.text else b.write s), Td.ofN s.length, true)
  else (y, Td.said' 4, true)

def Yd.do (y : Yd) (c : Cl) : Yd × Td × Bool :=
  if c.op < 1 ∨ 36 ≤ c.op then (y, Td.said' 4, true)
  else if 28 ≤ c.op then
    if inR c.a y.blds.length then
      let r := putS (y.bld c.a) c
      (y.setBld c.a r.1, r.2.1, r.2.2)
    else (y, Td.said' 4, true)
  else if inR c.a y.bufs.length then
    if 23 ≤ c.op then y.flow c
    else
      let r := (y.buf c.a).do c
      (y.setBuf c.a r.1, r.2.1, r.2.2)
  else (y, Td.said' 4, true)

def Yd.begin (starts : List St) (builders : Nat) : Yd :=
  ⟨starts.map fun s => ⟨s.text, if s.way = 2 then 4 else 0, [], false⟩, List.replicate builders []⟩
def Yd.texts (y : Yd) : List (List UInt8) := y.bufs.map (·.text)

/-- A script without the calls that are not settled, up to the first one that panics. -/
def settledF : Yd → List Cl → List Cl
  | _, [] => []
  | y, c :: l =>
    let r := y.do c
    if r.2.2 = false then settledF y l
    else if r.2.1.said = 3 then [c]
    else c :: settledF r.1 l
/-- A script without the calls that are not settled, or panic. -/
def calmF : Yd → List Cl → List Cl
  | _, [] => []
  | y, c :: l =>
    let r := y.do c
    if r.2.2 = true ∧ r.2.1.said ≠ 3 then c :: calmF r.1 l else calmF y l
/-- What the reference tells of a script, and the yard behind it. -/
def runF : Yd → List Cl → List Td × Yd
  | y, [] => ([], y)
  | y, c :: l =>
    let r := y.do c
    if r.2.1.said = 3 then ([r.2.1], y)
    else
      let q := runF r.1 l
      (r.2.1 :: q.1, q.2)
end Go.Proofs.YtimigjjokdnfbaaDoor
