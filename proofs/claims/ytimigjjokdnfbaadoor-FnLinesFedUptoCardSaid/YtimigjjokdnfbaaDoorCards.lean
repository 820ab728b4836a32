/-
  DERIVED. GIVEN WITH THE SEED: THE CARDS: each row of YtimigjjokdnfbaaDoorRows.lean that lists a variable, with what it lists TIED to the program's text (the seventh form; the later family's looks); each row that meets fmt, with fmt's text TOLD by the authors' own Lean function (tested against real Go, not proved from fmt's source: count such statements apart). THE CARD IS WHAT COUNTS. Prove the row's statement (the work); the ties are given (YtimigjjokdnfbaaDoorTie.lean); close each card by the builder's one call (the guide's Derived/Test/ToyasCard.lean, 'card_holds'). Laid BY PROGRAM, IN A SANDBOX (cutbox-door.mjs). By AI agents, Wed Nov 11 2026. No macro, syntax, notation, axiom, sorry.
-/
import Derived.Test.YtimigjjokdnfbaaDoorRows
import GoSem.ClaimSeven
namespace Go.Proofs.YtimigjjokdnfbaaDoor
namespace Rows

/-- THE TIED CARD OF 'laws.FnLinesFed'. -/
def fnLinesFedCard : Claim7 := { stood := { row := fnLinesFedRow, standIns := [], harness := (true, "cd5bce0eebd3ca338cf624b57eaf96941d19161ad13a073c9447256c33561be1"), looks := true }, kinds := [], alts := [], laidByText := true, laidKinds := [.data, .sentinel, .sentinel, .sentinel, .sentinel, .sentinel, .pinned], laidTests := true, laidLooks := .later }
def FnLinesFedCardSaid : Prop := Claim7.holds Tryd.pinned (.plain (OpenSpec.ofChange fnLinesFedSpec)) fnLinesFedCard

/-- THE TIED CARD OF 'laws.FnPipeline'. -/
def fnPipelineCard : Claim7 := { stood := { row := fnPipelineRow, standIns := [], harness := (true, "cd5bce0eebd3ca338cf624b57eaf96941d19161ad13a073c9447256c33561be1"), looks := true }, kinds := [], alts := [], laidByText := true, laidKinds := [.data, .sentinel, .sentinel, .sentinel, .sentinel, .sentinel, .pinned], laidTests := true, laidLooks := .later }
def FnPipelineCardSaid : Prop := Claim7.holds Tryd.pinned (.plain (OpenSpec.ofChange fnPipelineSpec)) fnPipelineCard

/-- THE SECOND FORM's CARD OF 'laws.FnLinesFed'. -/
def fnLinesFedUptoCard : Claim7 := { stood := { row := fnLinesFedUptoRow, standIns := [], harness := (true, "cd5bce0eebd3ca338cf624b57eaf96941d19161ad13a073c9447256c33561be1"), looks := true }, kinds := [], alts := [], laidByText := true, laidKinds := [.data, .sentinel, .sentinel, .sentinel, .sentinel, .sentinel, .pinned], laidTests := true, laidLooks := .later }
def FnLinesFedUptoCardSaid : Prop := Claim7.holds Tryd.pinned (.plain (OpenSpec.upto fnLinesFedSpec)) fnLinesFedUptoCard

/-- THE SECOND FORM's CARD OF 'laws.FnPipeline'. -/
def fnPipelineUptoCard : Claim7 := { stood := { row := fnPipelineUptoRow, standIns := [], harness := (true, "cd5bce0eebd3ca338cf624b57eaf96941d19161ad13a073c9447256c33561be1"), looks := true }, kinds := [], alts := [], laidByText := true, laidKinds := [.data, .sentinel, .sentinel, .sentinel, .sentinel, .sentinel, .pinned], laidTests := true, laidLooks := .later }
def FnPipelineUptoCardSaid : Prop := Claim7.holds Tryd.pinned (.plain (OpenSpec.upto fnPipelineSpec)) fnPipelineUptoCard
end Rows
end Go.Proofs.YtimigjjokdnfbaaDoor
