/-
  DERIVED. GIVEN WITH THE SEED: THE CARDS: each row of YtfimokbgggimmaaDoorRows.lean that lists a variable, with what it lists TIED to the program's text (the seventh form; the later family's looks); each row that meets fmt, with fmt's text TOLD by the authors' own Lean function (tested against real Go, not proved from fmt's source: count such statements apart). THE CARD IS WHAT COUNTS. Prove the row's statement (the work); the ties are given (YtfimokbgggimmaaDoorTie.lean); close each card by the builder's one call (the guide's Derived/Test/ToyasCard.lean, 'card_holds'). Laid BY PROGRAM, IN A SANDBOX (cutbox-door.mjs). By AI agents, Wed Nov 11 2026. No macro, syntax, notation, axiom, sorry.
-/
import Derived.Test.YtfimokbgggimmaaDoorRows
import GoSem.ClaimSeven
namespace Go.Proofs.YtfimokbgggimmaaDoor
namespace Rows

/-- THE TIED CARD OF 'laws.FnAgainTxnMetadataKey'. -/
def fnAgainTxnMetadataKeyCard : Claim7 := { stood := { row := fnAgainTxnMetadataKeyRow, standIns := [], harness := (true, "3ef7255d346ed96196bbd73253454c736d63c841f23ea7ed0ff7c8671d064bb9"), looks := false }, kinds := [], alts := [], laidByText := true, laidKinds := [.sentinel], laidTests := true, laidLooks := .later }
def FnAgainTxnMetadataKeyCardSaid : Prop := Claim7.holds Tryd.pinned (.plain (OpenSpec.ofChange fnAgainTxnMetadataKeySpec)) fnAgainTxnMetadataKeyCard

/-- THE TIED CARD OF 'laws.FnAnyGroupMetadataKey'. -/
def fnAnyGroupMetadataKeyCard : Claim7 := { stood := { row := fnAnyGroupMetadataKeyRow, standIns := [], harness := (true, "3ef7255d346ed96196bbd73253454c736d63c841f23ea7ed0ff7c8671d064bb9"), looks := false }, kinds := [], alts := [], laidByText := true, laidKinds := [.sentinel], laidTests := true, laidLooks := .later }
def FnAnyGroupMetadataKeyCardSaid : Prop := Claim7.holds Tryd.pinned (.plain (OpenSpec.ofChange fnAnyGroupMetadataKeySpec)) fnAnyGroupMetadataKeyCard

/-- THE TIED CARD OF 'laws.FnTellBatch'. -/
def fnTellBatchCard : Claim7 := { stood := { row := fnTellBatchRow, standIns := [], harness := (true, "3ef7255d346ed96196bbd73253454c736d63c841f23ea7ed0ff7c8671d064bb9"), looks := false }, kinds := [], alts := [], laidByText := true, laidKinds := [.sentinel], laidTests := true, laidLooks := .later }
def FnTellBatchCardSaid : Prop := Claim7.holds Tryd.pinned (.plain (OpenSpec.ofChange fnTellBatchSpec)) fnTellBatchCard

/-- THE TIED CARD OF 'laws.FnCutOffsetDeleteRequest'. -/
def fnCutOffsetDeleteRequestCard : Claim7 := { stood := { row := fnCutOffsetDeleteRequestRow, standIns := [], harness := (true, "3ef7255d346ed96196bbd73253454c736d63c841f23ea7ed0ff7c8671d064bb9"), looks := false }, kinds := [], alts := [], laidByText := true, laidKinds := [.sentinel], laidTests := true, laidLooks := .later }
def FnCutOffsetDeleteRequestCardSaid : Prop := Claim7.holds Tryd.pinned (.plain (OpenSpec.ofChange fnCutOffsetDeleteRequestSpec)) fnCutOffsetDeleteRequestCard

/-- THE SECOND FORM's CARD OF 'laws.FnAgainTxnMetadataKey'. -/
def fnAgainTxnMetadataKeyUptoCard : Claim7 := { stood := { row := fnAgainTxnMetadataKeyUptoRow, standIns := [], harness := (true, "3ef7255d346ed96196bbd73253454c736d63c841f23ea7ed0ff7c8671d064bb9"), looks := false }, kinds := [], alts := [], laidByText := true, laidKinds := [.sentinel], laidTests := true, laidLooks := .later }
def FnAgainTxnMetadataKeyUptoCardSaid : Prop := Claim7.holds Tryd.pinned (.plain (OpenSpec.upto fnAgainTxnMetadataKeySpec)) fnAgainTxnMetadataKeyUptoCard

/-- THE SECOND FORM's CARD OF 'laws.FnAnyGroupMetadataKey'. -/
def fnAnyGroupMetadataKeyUptoCard : Claim7 := { stood := { row := fnAnyGroupMetadataKeyUptoRow, standIns := [], harness := (true, "3ef7255d346ed96196bbd73253454c736d63c841f23ea7ed0ff7c8671d064bb9"), looks := false }, kinds := [], alts := [], laidByText := true, laidKinds := [.sentinel], laidTests := true, laidLooks := .later }
def FnAnyGroupMetadataKeyUptoCardSaid : Prop := Claim7.holds Tryd.pinned (.plain (OpenSpec.upto fnAnyGroupMetadataKeySpec)) fnAnyGroupMetadataKeyUptoCard

/-- THE SECOND FORM's CARD OF 'laws.FnTellBatch'. -/
def fnTellBatchUptoCard : Claim7 := { stood := { row := fnTellBatchUptoRow, standIns := [], harness := (true, "3ef7255d346ed96196bbd73253454c736d63c841f23ea7ed0ff7c8671d064bb9"), looks := false }, kinds := [], alts := [], laidByText := true, laidKinds := [.sentinel], laidTests := true, laidLooks := .later }
def FnTellBatchUptoCardSaid : Prop := Claim7.holds Tryd.pinned (.plain (OpenSpec.upto fnTellBatchSpec)) fnTellBatchUptoCard

/-- THE SECOND FORM's CARD OF 'laws.FnCutOffsetDeleteRequest'. -/
def fnCutOffsetDeleteRequestUptoCard : Claim7 := { stood := { row := fnCutOffsetDeleteRequestUptoRow, standIns := [], harness := (true, "3ef7255d346ed96196bbd73253454c736d63c841f23ea7ed0ff7c8671d064bb9"), looks := false }, kinds := [], alts := [], laidByText := true, laidKinds := [.sentinel], laidTests := true, laidLooks := .later }
def FnCutOffsetDeleteRequestUptoCardSaid : Prop := Claim7.holds Tryd.pinned (.plain (OpenSpec.upto fnCutOffsetDeleteRequestSpec)) fnCutOffsetDeleteRequestUptoCard
end Rows
end Go.Proofs.YtfimokbgggimmaaDoor
