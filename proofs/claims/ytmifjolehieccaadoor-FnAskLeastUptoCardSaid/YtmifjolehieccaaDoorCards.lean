/-
  DERIVED. GIVEN WITH THE SEED: THE CARDS: each row of YtmifjolehieccaaDoorRows.lean that lists a variable, with what it lists TIED to the program's text (the seventh form; the later family's looks); each row that meets fmt, with fmt's text TOLD by the authors' own Lean function (tested against real Go, not proved from fmt's source: count such statements apart). THE CARD IS WHAT COUNTS. Prove the row's statement (the work); the ties are given (YtmifjolehieccaaDoorTie.lean); close each card by the builder's one call (the guide's Derived/Test/ToyasCard.lean, 'card_holds'). Laid BY PROGRAM, IN A SANDBOX (cutbox-door.mjs). By AI agents, Wed Nov 11 2026. No macro, syntax, notation, axiom, sorry.
-/
import Derived.Test.YtmifjolehieccaaDoorRows
import GoSem.ClaimSeven
namespace Go.Proofs.YtmifjolehieccaaDoor
namespace Rows

/-- THE TIED CARD OF 'laws.FnAskHolds'. -/
def fnAskHoldsCard : Claim7 := { stood := { row := fnAskHoldsRow, standIns := [], harness := (true, "65998d56362d8241bbf25aef6f35b76dbd3a25f380ebea340c65b06f7643f29f"), looks := true }, kinds := [], alts := [], laidByText := true, laidKinds := [.sentinel, .sentinel, .sentinel], laidTests := true, laidLooks := .later }
def FnAskHoldsCardSaid : Prop := Claim7.holds Tryd.pinned (.plain (OpenSpec.ofChange fnAskHoldsSpec)) fnAskHoldsCard

/-- THE TIED CARD OF 'laws.FnAskLeast'. -/
def fnAskLeastCard : Claim7 := { stood := { row := fnAskLeastRow, standIns := [], harness := (true, "65998d56362d8241bbf25aef6f35b76dbd3a25f380ebea340c65b06f7643f29f"), looks := true }, kinds := [], alts := [], laidByText := true, laidKinds := [.sentinel, .sentinel, .sentinel], laidTests := true, laidLooks := .later }
def FnAskLeastCardSaid : Prop := Claim7.holds Tryd.pinned (.plain (OpenSpec.ofChange fnAskLeastSpec)) fnAskLeastCard

/-- THE TIED CARD OF 'laws.FnLinesFed'. -/
def fnLinesFedCard : Claim7 := { stood := { row := fnLinesFedRow, standIns := [], harness := (true, "65998d56362d8241bbf25aef6f35b76dbd3a25f380ebea340c65b06f7643f29f"), looks := true }, kinds := [], alts := [], laidByText := true, laidKinds := [.data, .sentinel, .sentinel, .sentinel, .sentinel, .sentinel, .pinned], laidTests := true, laidLooks := .later }
def FnLinesFedCardSaid : Prop := Claim7.holds Tryd.pinned (.plain (OpenSpec.ofChange fnLinesFedSpec)) fnLinesFedCard

/-- THE TIED CARD OF 'laws.FnPipeline'. -/
def fnPipelineCard : Claim7 := { stood := { row := fnPipelineRow, standIns := [], harness := (true, "65998d56362d8241bbf25aef6f35b76dbd3a25f380ebea340c65b06f7643f29f"), looks := true }, kinds := [], alts := [], laidByText := true, laidKinds := [.data, .sentinel, .sentinel, .sentinel, .sentinel, .sentinel, .pinned], laidTests := true, laidLooks := .later }
def FnPipelineCardSaid : Prop := Claim7.holds Tryd.pinned (.plain (OpenSpec.ofChange fnPipelineSpec)) fnPipelineCard

/-- THE SECOND FORM's CARD OF 'laws.FnAskHolds'. -/
def fnAskHoldsUptoCard : Claim7 := { stood := { row := fnAskHoldsUptoRow, standIns := [], harness := (true, "65998d56362d8241bbf25aef6f35b76dbd3a25f380ebea340c65b06f7643f29f"), looks := true }, kinds := [], alts := [], laidByText := true, laidKinds := [.sentinel, .sentinel, .sentinel], laidTests := true, laidLooks := .later }
def FnAskHoldsUptoCardSaid : Prop := Claim7.holds Tryd.pinned (.plain (OpenSpec.upto fnAskHoldsSpec)) fnAskHoldsUptoCard

/-- THE SECOND FORM's CARD OF 'laws.FnAskLeast'. -/
def fnAskLeastUptoCard : Claim7 := { stood := { row := fnAskLeastUptoRow, standIns := [], harness := (true, "65998d56362d8241bbf25aef6f35b76dbd3a25f380ebea340c65b06f7643f29f"), looks := true }, kinds := [], alts := [], laidByText := true, laidKinds := [.sentinel, .sentinel, .sentinel], laidTests := true, laidLooks := .later }
def FnAskLeastUptoCardSaid : Prop := Claim7.holds Tryd.pinned (.plain (OpenSpec.upto fnAskLeastSpec)) fnAskLeastUptoCard

/-- THE SECOND FORM's CARD OF 'laws.FnLinesFed'. -/
def fnLinesFedUptoCard : Claim7 := { stood := { row := fnLinesFedUptoRow, standIns := [], harness := (true, "65998d56362d8241bbf25aef6f35b76dbd3a25f380ebea340c65b06f7643f29f"), looks := true }, kinds := [], alts := [], laidByText := true, laidKinds := [.data, .sentinel, .sentinel, .sentinel, .sentinel, .sentinel, .pinned], laidTests := true, laidLooks := .later }
def FnLinesFedUptoCardSaid : Prop := Claim7.holds Tryd.pinned (.plain (OpenSpec.upto fnLinesFedSpec)) fnLinesFedUptoCard

/-- THE SECOND FORM's CARD OF 'laws.FnPipeline'. -/
def fnPipelineUptoCard : Claim7 := { stood := { row := fnPipelineUptoRow, standIns := [], harness := (true, "65998d56362d8241bbf25aef6f35b76dbd3a25f380ebea340c65b06f7643f29f"), looks := true }, kinds := [], alts := [], laidByText := true, laidKinds := [.data, .sentinel, .sentinel, .sentinel, .sentinel, .sentinel, .pinned], laidTests := true, laidLooks := .later }
def FnPipelineUptoCardSaid : Prop := Claim7.holds Tryd.pinned (.plain (OpenSpec.upto fnPipelineSpec)) fnPipelineUptoCard
end Rows
end Go.Proofs.YtmifjolehieccaaDoor
