/-
  DERIVED. GIVEN WITH THE SEED: THE CARDS: each row of YtkggebhkjgjijaaGreatDoorRows.lean that lists a variable, with what it lists TIED to the program's text (the seventh form; the later family's looks); each row that meets fmt, with fmt's text TOLD by the authors' own Lean function (tested against real Go, not proved from fmt's source: count such statements apart). THE CARD IS WHAT COUNTS. Prove the row's statement (the work); the ties are given (YtkggebhkjgjijaaGreatDoorTie.lean); close each card by the builder's one call (the guide's Derived/Test/ToyasCard.lean, 'card_holds'). Laid BY PROGRAM, IN A SANDBOX (cutbox-door.mjs). By AI agents, Wed Nov 11 2026. No macro, syntax, notation, axiom, sorry.
-/
import Derived.Test.YtkggebhkjgjijaaGreatDoorRows
import GoSem.ClaimSeven
namespace Go.Proofs.YtkggebhkjgjijaaGreatDoor
namespace Rows

/-- THE TIED CARD OF 'laws.FnBuilderGrowHolds'. -/
def fnBuilderGrowHoldsCard : Claim7 := { stood := { row := fnBuilderGrowHoldsRow, standIns := [], harness := (true, "c2f328c5708478990c28eded4c6484bcfb78ac5f72235d212490b02a368fc203"), looks := true }, kinds := [], alts := [], laidByText := true, laidKinds := [.data, .sentinel, .sentinel, .sentinel, .sentinel, .sentinel, .pinned], laidTests := true, laidLooks := .later }
def FnBuilderGrowHoldsCardSaid : Prop := Claim7.holds Tryz.pinned (.plain (OpenSpec.ofChange fnBuilderGrowHoldsSpec)) fnBuilderGrowHoldsCard

/-- THE SECOND FORM's CARD OF 'laws.FnBuilderGrowHolds'. -/
def fnBuilderGrowHoldsUptoCard : Claim7 := { stood := { row := fnBuilderGrowHoldsUptoRow, standIns := [], harness := (true, "c2f328c5708478990c28eded4c6484bcfb78ac5f72235d212490b02a368fc203"), looks := true }, kinds := [], alts := [], laidByText := true, laidKinds := [.data, .sentinel, .sentinel, .sentinel, .sentinel, .sentinel, .pinned], laidTests := true, laidLooks := .later }
def FnBuilderGrowHoldsUptoCardSaid : Prop := Claim7.holds Tryz.pinned (.plain (OpenSpec.upto fnBuilderGrowHoldsSpec)) fnBuilderGrowHoldsUptoCard
end Rows
end Go.Proofs.YtkggebhkjgjijaaGreatDoor
