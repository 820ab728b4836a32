/-
  NARROWER THAN 'FOR EVERY INPUT', by the rows' own cells (each row's printed sentence says how): FnBuilderGrowHolds: laid.
  DERIVED. THE GIVEN ROWS OF THIS SEAT. 1 by the template 'for every input the law returns true; each argument reads behind the call as it read before'; 0 by the template 'total and deterministic' (their statements: YtkggebhkjgjijaaGreatDoorTotals.lean).
  GIVEN WITH THE SEED: the statements are not yours to turn. If you find one false, say at which input.
  Laid BY PROGRAM, IN A SANDBOX (cutbox-rows.mjs): the forced cells as the released guide's own fill.sh prints them over the translation ee157ddca8bf4c44… (all of the seat's roots in one cut). By AI agents, Wed Nov 11 2026. No macro, syntax, notation, axiom, sorry.
-/
import Derived.Test.YtkggebhkjgjijaaGreatDoorChecked
import GoSem.PinnedTables
import GoSem.Claim
import GoSem.ClaimJoined
import GoSem.ClaimMapViews
import Derived.JoinedTies
import Derived.KernelRfl
namespace Go.Proofs.YtkggebhkjgjijaaGreatDoor
/- THE CELL 'sum', in the pinned program and in every row, IS THE sha256 OF THE DUMP (.gsa) THAT YtkggebhkjgjijaaGreatDoorProg.lean LOADS. Nothing in Lean hashes anything: it is a label: what it is worth is what the hold of that sum in a sandbox is worth. -/
noncomputable def Tryz.pinned : Pinned := { name := "ytkggebhkjgjijaagreatdoor", sum := "ee157ddca8bf4c44a2911d3defedc83de980929cf08d0b60ef5edf6035c3c06b", checked := Tryz.checked }
namespace Rows
def none {H : Type} : Left H := { results := [], args := [] }

/- WHAT THE LISTED PACKAGE-LEVEL VARIABLES READ AS WHEN THE CALL BEGINS. Each datum BY PROGRAM (the guide's laid-datum.mjs) off the statement by which the dump's own 'gosem.cut.vars' lays the variable. In a bare row this is a premise. The card (YtkggebhkjgjijaaGreatDoorCards.lean) ties it to the program's text. -/
def laid_unicode_utf8_acceptRanges {H : Type} : DataW H := .agg [.agg [.lit (.int .u8 128), .lit (.int .u8 191)], .agg [.lit (.int .u8 160), .lit (.int .u8 191)], .agg [.lit (.int .u8 128), .lit (.int .u8 159)], .agg [.lit (.int .u8 144), .lit (.int .u8 191)], .agg [.lit (.int .u8 128), .lit (.int .u8 143)], .agg [.lit (.int .u8 0), .lit (.int .u8 0)], .agg [.lit (.int .u8 0), .lit (.int .u8 0)], .agg [.lit (.int .u8 0), .lit (.int .u8 0)], .agg [.lit (.int .u8 0), .lit (.int .u8 0)], .agg [.lit (.int .u8 0), .lit (.int .u8 0)], .agg [.lit (.int .u8 0), .lit (.int .u8 0)], .agg [.lit (.int .u8 0), .lit (.int .u8 0)], .agg [.lit (.int .u8 0), .lit (.int .u8 0)], .agg [.lit (.int .u8 0), .lit (.int .u8 0)], .agg [.lit (.int .u8 0), .lit (.int .u8 0)], .agg [.lit (.int .u8 0), .lit (.int .u8 0)]]
def laid_io_ErrShortWrite {H : Type} : DataW H := .iface "*errors.errorString" (.ptr (.agg [.lit (.string [115, 104, 111, 114, 116, 32, 119, 114, 105, 116, 101])]))
def laid_io_EOF {H : Type} : DataW H := .iface "*errors.errorString" (.ptr (.agg [.lit (.string [69, 79, 70])]))
def laid_bytes_ErrTooLarge {H : Type} : DataW H := .iface "*errors.errorString" (.ptr (.agg [.lit (.string [98, 121, 116, 101, 115, 46, 66, 117, 102, 102, 101, 114, 58, 32, 116, 111, 111, 32, 108, 97, 114, 103, 101])]))
def laid_bytes_errNegativeRead {H : Type} : DataW H := .iface "*errors.errorString" (.ptr (.agg [.lit (.string [98, 121, 116, 101, 115, 46, 66, 117, 102, 102, 101, 114, 58, 32, 114, 101, 97, 100, 101, 114, 32, 114, 101, 116, 117, 114, 110, 101, 100, 32, 110, 101, 103, 97, 116, 105, 118, 101, 32, 99, 111, 117, 110, 116, 32, 102, 114, 111, 109, 32, 82, 101, 97, 100])]))
def laid_bytes_errUnreadByte {H : Type} : DataW H := .iface "*errors.errorString" (.ptr (.agg [.lit (.string [98, 121, 116, 101, 115, 46, 66, 117, 102, 102, 101, 114, 58, 32, 85, 110, 114, 101, 97, 100, 66, 121, 116, 101, 58, 32, 112, 114, 101, 118, 105, 111, 117, 115, 32, 111, 112, 101, 114, 97, 116, 105, 111, 110, 32, 119, 97, 115, 32, 110, 111, 116, 32, 97, 32, 115, 117, 99, 99, 101, 115, 115, 102, 117, 108, 32, 114, 101, 97, 100])]))
/-- One of Go's own tables, pinned by name: the form's constant. -/
def laid_unicode_utf8_first : DataW Unit := Go.Pinned.utf8First

/-- 'laws.FnBuilderGrowHolds': WHATEVER THE INPUT: true; the input reads as it did. -/
def fnBuilderGrowHoldsSpec : ChangeSpec := { name := "fnBuilderGrowHolds", fn := fun _ => fun
  | [d1, d2, d3] => { results := [.lit (.bool true)], args := [d1, d2, d3] }
  | _ => none }
def fnBuilderGrowHoldsRow : OpenClaim := { program := "ytkggebhkjgjijaagreatdoor", sum := "ee157ddca8bf4c44a2911d3defedc83de980929cf08d0b60ef5edf6035c3c06b", func := "lib-tideyard/laws.FnBuilderGrowHolds", spec := "fnBuilderGrowHolds", inPlace := ["internal/abi.NoEscape", "internal/reflectlite.TypeOf", "internal/bytealg.MakeNoZero", "internal/bytealg.IndexByte"], unfollowed := true, recurses := true, named := ["bytes.ErrTooLarge", "io.EOF", "unicode/utf8.first", "unicode/utf8.acceptRanges", "bytes.errUnreadByte", "io.ErrShortWrite", "bytes.errNegativeRead"], apart := false, laid := [("unicode/utf8.acceptRanges", laid_unicode_utf8_acceptRanges), ("io.ErrShortWrite", laid_io_ErrShortWrite), ("io.EOF", laid_io_EOF), ("bytes.ErrTooLarge", laid_bytes_ErrTooLarge), ("bytes.errNegativeRead", laid_bytes_errNegativeRead), ("bytes.errUnreadByte", laid_bytes_errUnreadByte), ("unicode/utf8.first", laid_unicode_utf8_first)] }
def FnBuilderGrowHoldsSaid : Prop := fnBuilderGrowHoldsRow.holds Tryz.pinned (OpenSpec.ofChange fnBuilderGrowHoldsSpec)

/-- ITS FALSE NEIGHBOUR: 'it returns false'. Refute it at one input. -/
def fnBuilderGrowHoldsWrong : ChangeSpec := { name := "fnBuilderGrowHolds", fn := fun _ => fun
  | [d1, d2, d3] => { results := [.lit (.bool false)], args := [d1, d2, d3] }
  | _ => none }
def FnBuilderGrowHoldsWrongFalsely : Prop := fnBuilderGrowHoldsRow.holds Tryz.pinned (OpenSpec.ofChange fnBuilderGrowHoldsWrong)

/- THE SECOND FORM. 'bulk': how many values and letters a reading holds, each counted each time it is reached (what is shared counts as often as it is met; a slice's spare places count too). A statement '..UptoSaid' is the law's where the arguments, and the package variables that the reading takes, are together of bulk at most 1048576: NARROWER than '..Said'. Prove '..Said' where nothing that the law and all that it calls make is longer than what came in: it says more and counts as full. Else prove '..UptoSaid'. A law counts once. -/
mutual
def uptoBulk {H : Type} : DataW H → Nat
  | .lit (.string bytes) => bytes.length + 1
  | .lit _ => 1
  | .nil => 1
  | .ptr d => uptoBulk d + 1
  | .slice elems spare => uptoBulkAll elems + uptoBulkAll spare + 1
  | .agg parts => uptoBulkAll parts + 1
  | .iface _ d => uptoBulk d + 1
  | .map entries => uptoBulkEntries entries + 1
  | .held _ => 1
def uptoBulkAll {H : Type} : List (DataW H) → Nat
  | [] => 0
  | d :: r => uptoBulk d + uptoBulkAll r
def uptoBulkEntries {H : Type} : List (Lit × DataW H) → Nat
  | [] => 0
  | x :: r => uptoBulkEntry x + uptoBulkEntries r
def uptoBulkEntry {H : Type} : Lit × DataW H → Nat
  | (.string bytes, d) => bytes.length + uptoBulk d + 1
  | (_, d) => uptoBulk d + 1
 end
def uptoSmall : (H : Type) → List (DataW H) → Bool := fun _ ds => decide (uptoBulkAll ds ≤ 1048576)
def OpenSpec.upto (s : _root_.Go.ChangeSpec) : _root_.Go.OpenSpec := { _root_.Go.OpenSpec.ofChange s with cond := some uptoSmall }

/-- 'laws.FnBuilderGrowHolds', WHERE WHAT IT READS IS OF BULK AT MOST 1048576: true; the input reads as it did. -/
def fnBuilderGrowHoldsUptoRow : OpenClaim := { program := "ytkggebhkjgjijaagreatdoor", sum := "ee157ddca8bf4c44a2911d3defedc83de980929cf08d0b60ef5edf6035c3c06b", func := "lib-tideyard/laws.FnBuilderGrowHolds", spec := "fnBuilderGrowHolds", inPlace := ["internal/abi.NoEscape", "internal/reflectlite.TypeOf", "internal/bytealg.MakeNoZero", "internal/bytealg.IndexByte"], unfollowed := true, recurses := true, named := ["bytes.ErrTooLarge", "io.EOF", "unicode/utf8.first", "unicode/utf8.acceptRanges", "bytes.errUnreadByte", "io.ErrShortWrite", "bytes.errNegativeRead"], apart := false, laid := [("unicode/utf8.acceptRanges", laid_unicode_utf8_acceptRanges), ("io.ErrShortWrite", laid_io_ErrShortWrite), ("io.EOF", laid_io_EOF), ("bytes.ErrTooLarge", laid_bytes_ErrTooLarge), ("bytes.errNegativeRead", laid_bytes_errNegativeRead), ("bytes.errUnreadByte", laid_bytes_errUnreadByte), ("unicode/utf8.first", laid_unicode_utf8_first)], narrowed := true }
def FnBuilderGrowHoldsUptoSaid : Prop := fnBuilderGrowHoldsUptoRow.holds Tryz.pinned (OpenSpec.upto fnBuilderGrowHoldsSpec)

end Rows
end Go.Proofs.YtkggebhkjgjijaaGreatDoor
