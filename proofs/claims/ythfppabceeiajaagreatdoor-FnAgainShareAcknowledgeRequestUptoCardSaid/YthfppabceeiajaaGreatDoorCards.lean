/-
  DERIVED. GIVEN WITH THE SEED: THE CARDS: each row of YthfppabceeiajaaGreatDoorRows.lean that lists a variable, with what it lists TIED to the program's text (the seventh form; the later family's looks); each row that meets fmt, with fmt's text TOLD by the authors' own Lean function (tested against real Go, not proved from fmt's source: count such statements apart). THE CARD IS WHAT COUNTS. Prove the row's statement (the work); the ties are given (YthfppabceeiajaaGreatDoorTie.lean); close each card by the builder's one call (the guide's Derived/Test/ToyasCard.lean, 'card_holds'). Laid BY PROGRAM, IN A SANDBOX (cutbox-door.mjs). By AI agents, Wed Nov 11 2026. No macro, syntax, notation, axiom, sorry.
-/
import Derived.Test.YthfppabceeiajaaGreatDoorRows
import GoSem.ClaimSeven
namespace Go.Proofs.YthfppabceeiajaaGreatDoor
namespace Rows

/-- THE TIED CARD OF 'laws.FnCutReadShareGroupStateSummaryResponse'. -/
def fnCutReadShareGroupStateSummaryResponseCard : Claim7 := { stood := { row := fnCutReadShareGroupStateSummaryResponseRow, standIns := [], harness := (true, "1da4ad83b3aebc0eff12a5b7d7c355359fc8b4502e151a099578546d00ae210c"), looks := false }, kinds := [], alts := [], laidByText := true, laidKinds := [.sentinel], laidTests := true, laidLooks := .later }
def FnCutReadShareGroupStateSummaryResponseCardSaid : Prop := Claim7.holds Tryz.pinned (.plain (OpenSpec.ofChange fnCutReadShareGroupStateSummaryResponseSpec)) fnCutReadShareGroupStateSummaryResponseCard

/-- THE TIED CARD OF 'laws.FnAgainLeaderAndISRResponse'. -/
def fnAgainLeaderAndISRResponseCard : Claim7 := { stood := { row := fnAgainLeaderAndISRResponseRow, standIns := [], harness := (true, "1da4ad83b3aebc0eff12a5b7d7c355359fc8b4502e151a099578546d00ae210c"), looks := false }, kinds := [], alts := [], laidByText := true, laidKinds := [.sentinel], laidTests := true, laidLooks := .later }
def FnAgainLeaderAndISRResponseCardSaid : Prop := Claim7.holds Tryz.pinned (.plain (OpenSpec.ofChange fnAgainLeaderAndISRResponseSpec)) fnAgainLeaderAndISRResponseCard

/-- THE TIED CARD OF 'laws.FnCutAlterPartitionResponse'. -/
def fnCutAlterPartitionResponseCard : Claim7 := { stood := { row := fnCutAlterPartitionResponseRow, standIns := [], harness := (true, "1da4ad83b3aebc0eff12a5b7d7c355359fc8b4502e151a099578546d00ae210c"), looks := false }, kinds := [], alts := [], laidByText := true, laidKinds := [.sentinel], laidTests := true, laidLooks := .later }
def FnCutAlterPartitionResponseCardSaid : Prop := Claim7.holds Tryz.pinned (.plain (OpenSpec.ofChange fnCutAlterPartitionResponseSpec)) fnCutAlterPartitionResponseCard

/-- THE TIED CARD OF 'laws.FnAgainShareAcknowledgeRequest'. -/
def fnAgainShareAcknowledgeRequestCard : Claim7 := { stood := { row := fnAgainShareAcknowledgeRequestRow, standIns := [], harness := (true, "1da4ad83b3aebc0eff12a5b7d7c355359fc8b4502e151a099578546d00ae210c"), looks := false }, kinds := [], alts := [], laidByText := true, laidKinds := [.sentinel], laidTests := true, laidLooks := .later }
def FnAgainShareAcknowledgeRequestCardSaid : Prop := Claim7.holds Tryz.pinned (.plain (OpenSpec.ofChange fnAgainShareAcknowledgeRequestSpec)) fnAgainShareAcknowledgeRequestCard

/-- THE SECOND FORM's CARD OF 'laws.FnCutReadShareGroupStateSummaryResponse'. -/
def fnCutReadShareGroupStateSummaryResponseUptoCard : Claim7 := { stood := { row := fnCutReadShareGroupStateSummaryResponseUptoRow, standIns := [], harness := (true, "1da4ad83b3aebc0eff12a5b7d7c355359fc8b4502e151a099578546d00ae210c"), looks := false }, kinds := [], alts := [], laidByText := true, laidKinds := [.sentinel], laidTests := true, laidLooks := .later }
def FnCutReadShareGroupStateSummaryResponseUptoCardSaid : Prop := Claim7.holds Tryz.pinned (.plain (OpenSpec.upto fnCutReadShareGroupStateSummaryResponseSpec)) fnCutReadShareGroupStateSummaryResponseUptoCard

/-- THE SECOND FORM's CARD OF 'laws.FnAgainLeaderAndISRResponse'. -/
def fnAgainLeaderAndISRResponseUptoCard : Claim7 := { stood := { row := fnAgainLeaderAndISRResponseUptoRow, standIns := [], harness := (true, "1da4ad83b3aebc0eff12a5b7d7c355359fc8b4502e151a099578546d00ae210c"), looks := false }, kinds := [], alts := [], laidByText := true, laidKinds := [.sentinel], laidTests := true, laidLooks := .later }
def FnAgainLeaderAndISRResponseUptoCardSaid : Prop := Claim7.holds Tryz.pinned (.plain (OpenSpec.upto fnAgainLeaderAndISRResponseSpec)) fnAgainLeaderAndISRResponseUptoCard

/-- THE SECOND FORM's CARD OF 'laws.FnCutAlterPartitionResponse'. -/
def fnCutAlterPartitionResponseUptoCard : Claim7 := { stood := { row := fnCutAlterPartitionResponseUptoRow, standIns := [], harness := (true, "1da4ad83b3aebc0eff12a5b7d7c355359fc8b4502e151a099578546d00ae210c"), looks := false }, kinds := [], alts := [], laidByText := true, laidKinds := [.sentinel], laidTests := true, laidLooks := .later }
def FnCutAlterPartitionResponseUptoCardSaid : Prop := Claim7.holds Tryz.pinned (.plain (OpenSpec.upto fnCutAlterPartitionResponseSpec)) fnCutAlterPartitionResponseUptoCard

/-- THE SECOND FORM's CARD OF 'laws.FnAgainShareAcknowledgeRequest'. -/
def fnAgainShareAcknowledgeRequestUptoCard : Claim7 := { stood := { row := fnAgainShareAcknowledgeRequestUptoRow, standIns := [], harness := (true, "1da4ad83b3aebc0eff12a5b7d7c355359fc8b4502e151a099578546d00ae210c"), looks := false }, kinds := [], alts := [], laidByText := true, laidKinds := [.sentinel], laidTests := true, laidLooks := .later }
def FnAgainShareAcknowledgeRequestUptoCardSaid : Prop := Claim7.holds Tryz.pinned (.plain (OpenSpec.upto fnAgainShareAcknowledgeRequestSpec)) fnAgainShareAcknowledgeRequestUptoCard
end Rows
end Go.Proofs.YthfppabceeiajaaGreatDoor
