/-
  DERIVED. GIVEN WITH THE SEED: THE CARDS: each row of YtajhickklhjemaaDoorRows.lean that lists a variable, with what it lists TIED to the program's text (the seventh form; the later family's looks); each row that meets fmt, with fmt's text TOLD by the authors' own Lean function (tested against real Go, not proved from fmt's source: count such statements apart). THE CARD IS WHAT COUNTS. Prove the row's statement (the work); the ties are given (YtajhickklhjemaaDoorTie.lean); close each card by the builder's one call (the guide's Derived/Test/ToyasCard.lean, 'card_holds'). Laid BY PROGRAM, IN A SANDBOX (cutbox-door.mjs). By AI agents, Wed Nov 11 2026. No macro, syntax, notation, axiom, sorry.
-/
import Derived.Test.YtajhickklhjemaaDoorRows
import GoSem.ClaimSeven
namespace Go.Proofs.YtajhickklhjemaaDoor
namespace Rows

/-- THE TIED CARD OF 'laws.FnAnyListOffsetsResponse'. -/
def fnAnyListOffsetsResponseCard : Claim7 := { stood := { row := fnAnyListOffsetsResponseRow, standIns := [], harness := (true, "ca8e309ebc07b2855008160943d1807fd9f7f2014abfdcaac2f510d84d77738a"), looks := false }, kinds := [], alts := [], laidByText := true, laidKinds := [.sentinel], laidTests := true, laidLooks := .later }
def FnAnyListOffsetsResponseCardSaid : Prop := Claim7.holds Tryd.pinned (.plain (OpenSpec.ofChange fnAnyListOffsetsResponseSpec)) fnAnyListOffsetsResponseCard

/-- THE TIED CARD OF 'laws.FnAnyAllocateProducerIDsRequest'. -/
def fnAnyAllocateProducerIDsRequestCard : Claim7 := { stood := { row := fnAnyAllocateProducerIDsRequestRow, standIns := [], harness := (true, "ca8e309ebc07b2855008160943d1807fd9f7f2014abfdcaac2f510d84d77738a"), looks := false }, kinds := [], alts := [], laidByText := true, laidKinds := [.sentinel], laidTests := true, laidLooks := .later }
def FnAnyAllocateProducerIDsRequestCardSaid : Prop := Claim7.holds Tryd.pinned (.plain (OpenSpec.ofChange fnAnyAllocateProducerIDsRequestSpec)) fnAnyAllocateProducerIDsRequestCard

/-- THE SECOND FORM's CARD OF 'laws.FnAnyListOffsetsResponse'. -/
def fnAnyListOffsetsResponseUptoCard : Claim7 := { stood := { row := fnAnyListOffsetsResponseUptoRow, standIns := [], harness := (true, "ca8e309ebc07b2855008160943d1807fd9f7f2014abfdcaac2f510d84d77738a"), looks := false }, kinds := [], alts := [], laidByText := true, laidKinds := [.sentinel], laidTests := true, laidLooks := .later }
def FnAnyListOffsetsResponseUptoCardSaid : Prop := Claim7.holds Tryd.pinned (.plain (OpenSpec.upto fnAnyListOffsetsResponseSpec)) fnAnyListOffsetsResponseUptoCard

/-- THE SECOND FORM's CARD OF 'laws.FnAnyAllocateProducerIDsRequest'. -/
def fnAnyAllocateProducerIDsRequestUptoCard : Claim7 := { stood := { row := fnAnyAllocateProducerIDsRequestUptoRow, standIns := [], harness := (true, "ca8e309ebc07b2855008160943d1807fd9f7f2014abfdcaac2f510d84d77738a"), looks := false }, kinds := [], alts := [], laidByText := true, laidKinds := [.sentinel], laidTests := true, laidLooks := .later }
def FnAnyAllocateProducerIDsRequestUptoCardSaid : Prop := Claim7.holds Tryd.pinned (.plain (OpenSpec.upto fnAnyAllocateProducerIDsRequestSpec)) fnAnyAllocateProducerIDsRequestUptoCard
end Rows
end Go.Proofs.YtajhickklhjemaaDoor
