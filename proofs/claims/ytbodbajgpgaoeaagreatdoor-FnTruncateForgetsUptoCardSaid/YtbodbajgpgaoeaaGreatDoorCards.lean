/-
  DERIVED. GIVEN WITH THE SEED: THE CARDS: each row of YtbodbajgpgaoeaaGreatDoorRows.lean that lists a variable, with what it lists TIED to the program's text (the seventh form; the later family's looks); each row that meets fmt, with fmt's text TOLD by the authors' own Lean function (tested against real Go, not proved from fmt's source: count such statements apart). THE CARD IS WHAT COUNTS. Prove the row's statement (the work); the ties are given (YtbodbajgpgaoeaaGreatDoorTie.lean); close each card by the builder's one call (the guide's Derived/Test/ToyasCard.lean, 'card_holds'). Laid BY PROGRAM, IN A SANDBOX (cutbox-door.mjs). By AI agents, Wed Nov 11 2026. No macro, syntax, notation, axiom, sorry.
-/
import Derived.Test.YtbodbajgpgaoeaaGreatDoorRows
import GoSem.ClaimSeven
namespace Go.Proofs.YtbodbajgpgaoeaaGreatDoor
namespace Rows

/-- THE TIED CARD OF 'laws.FnReadsInOrder'. -/
def fnReadsInOrderCard : Claim7 := { stood := { row := fnReadsInOrderRow, standIns := [], harness := (true, "3655c5e3f5a5e697d52aea7acac396e3cd4ab2893eafe553668e533cbded0c48"), looks := true }, kinds := [], alts := [], laidByText := true, laidKinds := [.data, .sentinel, .sentinel, .sentinel, .sentinel, .sentinel, .pinned], laidTests := true, laidLooks := .later }
def FnReadsInOrderCardSaid : Prop := Claim7.holds Tryz.pinned (.plain (OpenSpec.ofChange fnReadsInOrderSpec)) fnReadsInOrderCard

/-- THE TIED CARD OF 'laws.FnBuilderGrowHolds'. -/
def fnBuilderGrowHoldsCard : Claim7 := { stood := { row := fnBuilderGrowHoldsRow, standIns := [], harness := (true, "3655c5e3f5a5e697d52aea7acac396e3cd4ab2893eafe553668e533cbded0c48"), looks := true }, kinds := [], alts := [], laidByText := true, laidKinds := [.data, .sentinel, .sentinel, .sentinel, .sentinel, .sentinel, .pinned], laidTests := true, laidLooks := .later }
def FnBuilderGrowHoldsCardSaid : Prop := Claim7.holds Tryz.pinned (.plain (OpenSpec.ofChange fnBuilderGrowHoldsSpec)) fnBuilderGrowHoldsCard

/-- THE TIED CARD OF 'laws.FnTruncateForgets'. -/
def fnTruncateForgetsCard : Claim7 := { stood := { row := fnTruncateForgetsRow, standIns := [], harness := (true, "3655c5e3f5a5e697d52aea7acac396e3cd4ab2893eafe553668e533cbded0c48"), looks := true }, kinds := [], alts := [], laidByText := true, laidKinds := [.data, .sentinel, .sentinel, .sentinel, .sentinel, .sentinel, .pinned], laidTests := true, laidLooks := .later }
def FnTruncateForgetsCardSaid : Prop := Claim7.holds Tryz.pinned (.plain (OpenSpec.ofChange fnTruncateForgetsSpec)) fnTruncateForgetsCard

/-- THE TIED CARD OF 'laws.FnUnreadReads'. -/
def fnUnreadReadsCard : Claim7 := { stood := { row := fnUnreadReadsRow, standIns := [], harness := (true, "3655c5e3f5a5e697d52aea7acac396e3cd4ab2893eafe553668e533cbded0c48"), looks := true }, kinds := [], alts := [], laidByText := true, laidKinds := [.data, .sentinel, .sentinel, .sentinel, .sentinel, .sentinel, .pinned], laidTests := true, laidLooks := .later }
def FnUnreadReadsCardSaid : Prop := Claim7.holds Tryz.pinned (.plain (OpenSpec.ofChange fnUnreadReadsSpec)) fnUnreadReadsCard

/-- THE TIED CARD OF 'laws.FnUnreadWritten'. -/
def fnUnreadWrittenCard : Claim7 := { stood := { row := fnUnreadWrittenRow, standIns := [], harness := (true, "3655c5e3f5a5e697d52aea7acac396e3cd4ab2893eafe553668e533cbded0c48"), looks := true }, kinds := [], alts := [], laidByText := true, laidKinds := [.data, .sentinel, .sentinel, .sentinel, .sentinel, .sentinel, .pinned], laidTests := true, laidLooks := .later }
def FnUnreadWrittenCardSaid : Prop := Claim7.holds Tryz.pinned (.plain (OpenSpec.ofChange fnUnreadWrittenSpec)) fnUnreadWrittenCard

/-- THE TIED CARD OF 'laws.FnWritesEarlier'. -/
def fnWritesEarlierCard : Claim7 := { stood := { row := fnWritesEarlierRow, standIns := [], harness := (true, "3655c5e3f5a5e697d52aea7acac396e3cd4ab2893eafe553668e533cbded0c48"), looks := true }, kinds := [], alts := [], laidByText := true, laidKinds := [.data, .sentinel, .sentinel, .sentinel, .sentinel, .sentinel, .pinned], laidTests := true, laidLooks := .later }
def FnWritesEarlierCardSaid : Prop := Claim7.holds Tryz.pinned (.plain (OpenSpec.ofChange fnWritesEarlierSpec)) fnWritesEarlierCard

/-- THE SECOND FORM's CARD OF 'laws.FnReadsInOrder'. -/
def fnReadsInOrderUptoCard : Claim7 := { stood := { row := fnReadsInOrderUptoRow, standIns := [], harness := (true, "3655c5e3f5a5e697d52aea7acac396e3cd4ab2893eafe553668e533cbded0c48"), looks := true }, kinds := [], alts := [], laidByText := true, laidKinds := [.data, .sentinel, .sentinel, .sentinel, .sentinel, .sentinel, .pinned], laidTests := true, laidLooks := .later }
def FnReadsInOrderUptoCardSaid : Prop := Claim7.holds Tryz.pinned (.plain (OpenSpec.upto fnReadsInOrderSpec)) fnReadsInOrderUptoCard

/-- THE SECOND FORM's CARD OF 'laws.FnBuilderGrowHolds'. -/
def fnBuilderGrowHoldsUptoCard : Claim7 := { stood := { row := fnBuilderGrowHoldsUptoRow, standIns := [], harness := (true, "3655c5e3f5a5e697d52aea7acac396e3cd4ab2893eafe553668e533cbded0c48"), looks := true }, kinds := [], alts := [], laidByText := true, laidKinds := [.data, .sentinel, .sentinel, .sentinel, .sentinel, .sentinel, .pinned], laidTests := true, laidLooks := .later }
def FnBuilderGrowHoldsUptoCardSaid : Prop := Claim7.holds Tryz.pinned (.plain (OpenSpec.upto fnBuilderGrowHoldsSpec)) fnBuilderGrowHoldsUptoCard

/-- THE SECOND FORM's CARD OF 'laws.FnTruncateForgets'. -/
def fnTruncateForgetsUptoCard : Claim7 := { stood := { row := fnTruncateForgetsUptoRow, standIns := [], harness := (true, "3655c5e3f5a5e697d52aea7acac396e3cd4ab2893eafe553668e533cbded0c48"), looks := true }, kinds := [], alts := [], laidByText := true, laidKinds := [.data, .sentinel, .sentinel, .sentinel, .sentinel, .sentinel, .pinned], laidTests := true, laidLooks := .later }
def FnTruncateForgetsUptoCardSaid : Prop := Claim7.holds Tryz.pinned (.plain (OpenSpec.upto fnTruncateForgetsSpec)) fnTruncateForgetsUptoCard

/-- THE SECOND FORM's CARD OF 'laws.FnUnreadReads'. -/
def fnUnreadReadsUptoCard : Claim7 := { stood := { row := fnUnreadReadsUptoRow, standIns := [], harness := (true, "3655c5e3f5a5e697d52aea7acac396e3cd4ab2893eafe553668e533cbded0c48"), looks := true }, kinds := [], alts := [], laidByText := true, laidKinds := [.data, .sentinel, .sentinel, .sentinel, .sentinel, .sentinel, .pinned], laidTests := true, laidLooks := .later }
def FnUnreadReadsUptoCardSaid : Prop := Claim7.holds Tryz.pinned (.plain (OpenSpec.upto fnUnreadReadsSpec)) fnUnreadReadsUptoCard

/-- THE SECOND FORM's CARD OF 'laws.FnUnreadWritten'. -/
def fnUnreadWrittenUptoCard : Claim7 := { stood := { row := fnUnreadWrittenUptoRow, standIns := [], harness := (true, "3655c5e3f5a5e697d52aea7acac396e3cd4ab2893eafe553668e533cbded0c48"), looks := true }, kinds := [], alts := [], laidByText := true, laidKinds := [.data, .sentinel, .sentinel, .sentinel, .sentinel, .sentinel, .pinned], laidTests := true, laidLooks := .later }
def FnUnreadWrittenUptoCardSaid : Prop := Claim7.holds Tryz.pinned (.plain (OpenSpec.upto fnUnreadWrittenSpec)) fnUnreadWrittenUptoCard

/-- THE SECOND FORM's CARD OF 'laws.FnWritesEarlier'. -/
def fnWritesEarlierUptoCard : Claim7 := { stood := { row := fnWritesEarlierUptoRow, standIns := [], harness := (true, "3655c5e3f5a5e697d52aea7acac396e3cd4ab2893eafe553668e533cbded0c48"), looks := true }, kinds := [], alts := [], laidByText := true, laidKinds := [.data, .sentinel, .sentinel, .sentinel, .sentinel, .sentinel, .pinned], laidTests := true, laidLooks := .later }
def FnWritesEarlierUptoCardSaid : Prop := Claim7.holds Tryz.pinned (.plain (OpenSpec.upto fnWritesEarlierSpec)) fnWritesEarlierUptoCard
end Rows
end Go.Proofs.YtbodbajgpgaoeaaGreatDoor
