/-
  DERIVED. GIVEN WITH THE SEED: THE CARDS: each row of YtidhhlncmegjaaaDoorRows.lean that lists a variable, with what it lists TIED to the program's text (the seventh form; the later family's looks); each row that meets fmt, with fmt's text TOLD by the authors' own Lean function (tested against real Go, not proved from fmt's source: count such statements apart). THE CARD IS WHAT COUNTS. Prove the row's statement (the work); the ties are given (YtidhhlncmegjaaaDoorTie.lean); close each card by the builder's one call (the guide's Derived/Test/ToyasCard.lean, 'card_holds'). Laid BY PROGRAM, IN A SANDBOX (cutbox-door.mjs). By AI agents, Wed Nov 11 2026. No macro, syntax, notation, axiom, sorry.
-/
import Derived.Test.YtidhhlncmegjaaaDoorRows
import GoSem.ClaimSeven
namespace Go.Proofs.YtidhhlncmegjaaaDoor
namespace Rows

/-- THE TIED CARD OF 'laws.FnCutConsumerMemberMetadata'. -/
def fnCutConsumerMemberMetadataCard : Claim7 := { stood := { row := fnCutConsumerMemberMetadataRow, standIns := [], harness := (true, "f465a1d32c4966a68dd76b4c38703225b28ddf8615ba0d966c980a911e823fea"), looks := false }, kinds := [], alts := [], laidByText := true, laidKinds := [.sentinel], laidTests := true, laidLooks := .later }
def FnCutConsumerMemberMetadataCardSaid : Prop := Claim7.holds Tryd.pinned (.plain (OpenSpec.ofChange fnCutConsumerMemberMetadataSpec)) fnCutConsumerMemberMetadataCard

/-- THE TIED CARD OF 'laws.FnAgainGetTelemetrySubscriptionsRequest'. -/
def fnAgainGetTelemetrySubscriptionsRequestCard : Claim7 := { stood := { row := fnAgainGetTelemetrySubscriptionsRequestRow, standIns := [], harness := (true, "f465a1d32c4966a68dd76b4c38703225b28ddf8615ba0d966c980a911e823fea"), looks := false }, kinds := [], alts := [], laidByText := true, laidKinds := [.sentinel], laidTests := true, laidLooks := .later }
def FnAgainGetTelemetrySubscriptionsRequestCardSaid : Prop := Claim7.holds Tryd.pinned (.plain (OpenSpec.ofChange fnAgainGetTelemetrySubscriptionsRequestSpec)) fnAgainGetTelemetrySubscriptionsRequestCard

/-- THE TIED CARD OF 'laws.FnAgainPushTelemetryResponse'. -/
def fnAgainPushTelemetryResponseCard : Claim7 := { stood := { row := fnAgainPushTelemetryResponseRow, standIns := [], harness := (true, "f465a1d32c4966a68dd76b4c38703225b28ddf8615ba0d966c980a911e823fea"), looks := false }, kinds := [], alts := [], laidByText := true, laidKinds := [.sentinel], laidTests := true, laidLooks := .later }
def FnAgainPushTelemetryResponseCardSaid : Prop := Claim7.holds Tryd.pinned (.plain (OpenSpec.ofChange fnAgainPushTelemetryResponseSpec)) fnAgainPushTelemetryResponseCard

/-- THE TIED CARD OF 'laws.FnAnyAllocateProducerIDsRequest'. -/
def fnAnyAllocateProducerIDsRequestCard : Claim7 := { stood := { row := fnAnyAllocateProducerIDsRequestRow, standIns := [], harness := (true, "f465a1d32c4966a68dd76b4c38703225b28ddf8615ba0d966c980a911e823fea"), looks := false }, kinds := [], alts := [], laidByText := true, laidKinds := [.sentinel], laidTests := true, laidLooks := .later }
def FnAnyAllocateProducerIDsRequestCardSaid : Prop := Claim7.holds Tryd.pinned (.plain (OpenSpec.ofChange fnAnyAllocateProducerIDsRequestSpec)) fnAnyAllocateProducerIDsRequestCard

/-- THE TIED CARD OF 'laws.FnAnyRenewDelegationTokenResponse'. -/
def fnAnyRenewDelegationTokenResponseCard : Claim7 := { stood := { row := fnAnyRenewDelegationTokenResponseRow, standIns := [], harness := (true, "f465a1d32c4966a68dd76b4c38703225b28ddf8615ba0d966c980a911e823fea"), looks := false }, kinds := [], alts := [], laidByText := true, laidKinds := [.sentinel], laidTests := true, laidLooks := .later }
def FnAnyRenewDelegationTokenResponseCardSaid : Prop := Claim7.holds Tryd.pinned (.plain (OpenSpec.ofChange fnAnyRenewDelegationTokenResponseSpec)) fnAnyRenewDelegationTokenResponseCard

/-- THE TIED CARD OF 'laws.FnCutEnvelopeResponse'. -/
def fnCutEnvelopeResponseCard : Claim7 := { stood := { row := fnCutEnvelopeResponseRow, standIns := [], harness := (true, "f465a1d32c4966a68dd76b4c38703225b28ddf8615ba0d966c980a911e823fea"), looks := false }, kinds := [], alts := [], laidByText := true, laidKinds := [.sentinel], laidTests := true, laidLooks := .later }
def FnCutEnvelopeResponseCardSaid : Prop := Claim7.holds Tryd.pinned (.plain (OpenSpec.ofChange fnCutEnvelopeResponseSpec)) fnCutEnvelopeResponseCard

/-- THE TIED CARD OF 'laws.FnAnyUnregisterBrokerResponse'. -/
def fnAnyUnregisterBrokerResponseCard : Claim7 := { stood := { row := fnAnyUnregisterBrokerResponseRow, standIns := [], harness := (true, "f465a1d32c4966a68dd76b4c38703225b28ddf8615ba0d966c980a911e823fea"), looks := false }, kinds := [], alts := [], laidByText := true, laidKinds := [.sentinel], laidTests := true, laidLooks := .later }
def FnAnyUnregisterBrokerResponseCardSaid : Prop := Claim7.holds Tryd.pinned (.plain (OpenSpec.ofChange fnAnyUnregisterBrokerResponseSpec)) fnAnyUnregisterBrokerResponseCard

/-- THE TIED CARD OF 'laws.FnAnyConsumerGroupDescribeRequest'. -/
def fnAnyConsumerGroupDescribeRequestCard : Claim7 := { stood := { row := fnAnyConsumerGroupDescribeRequestRow, standIns := [], harness := (true, "f465a1d32c4966a68dd76b4c38703225b28ddf8615ba0d966c980a911e823fea"), looks := false }, kinds := [], alts := [], laidByText := true, laidKinds := [.sentinel], laidTests := true, laidLooks := .later }
def FnAnyConsumerGroupDescribeRequestCardSaid : Prop := Claim7.holds Tryd.pinned (.plain (OpenSpec.ofChange fnAnyConsumerGroupDescribeRequestSpec)) fnAnyConsumerGroupDescribeRequestCard

/-- THE TIED CARD OF 'laws.FnAnyDescribeUserSCRAMCredentialsRequest'. -/
def fnAnyDescribeUserSCRAMCredentialsRequestCard : Claim7 := { stood := { row := fnAnyDescribeUserSCRAMCredentialsRequestRow, standIns := [], harness := (true, "f465a1d32c4966a68dd76b4c38703225b28ddf8615ba0d966c980a911e823fea"), looks := false }, kinds := [], alts := [], laidByText := true, laidKinds := [.sentinel], laidTests := true, laidLooks := .later }
def FnAnyDescribeUserSCRAMCredentialsRequestCardSaid : Prop := Claim7.holds Tryd.pinned (.plain (OpenSpec.ofChange fnAnyDescribeUserSCRAMCredentialsRequestSpec)) fnAnyDescribeUserSCRAMCredentialsRequestCard

/-- THE SECOND FORM's CARD OF 'laws.FnCutConsumerMemberMetadata'. -/
def fnCutConsumerMemberMetadataUptoCard : Claim7 := { stood := { row := fnCutConsumerMemberMetadataUptoRow, standIns := [], harness := (true, "f465a1d32c4966a68dd76b4c38703225b28ddf8615ba0d966c980a911e823fea"), looks := false }, kinds := [], alts := [], laidByText := true, laidKinds := [.sentinel], laidTests := true, laidLooks := .later }
def FnCutConsumerMemberMetadataUptoCardSaid : Prop := Claim7.holds Tryd.pinned (.plain (OpenSpec.upto fnCutConsumerMemberMetadataSpec)) fnCutConsumerMemberMetadataUptoCard

/-- THE SECOND FORM's CARD OF 'laws.FnAgainGetTelemetrySubscriptionsRequest'. -/
def fnAgainGetTelemetrySubscriptionsRequestUptoCard : Claim7 := { stood := { row := fnAgainGetTelemetrySubscriptionsRequestUptoRow, standIns := [], harness := (true, "f465a1d32c4966a68dd76b4c38703225b28ddf8615ba0d966c980a911e823fea"), looks := false }, kinds := [], alts := [], laidByText := true, laidKinds := [.sentinel], laidTests := true, laidLooks := .later }
def FnAgainGetTelemetrySubscriptionsRequestUptoCardSaid : Prop := Claim7.holds Tryd.pinned (.plain (OpenSpec.upto fnAgainGetTelemetrySubscriptionsRequestSpec)) fnAgainGetTelemetrySubscriptionsRequestUptoCard

/-- THE SECOND FORM's CARD OF 'laws.FnAgainPushTelemetryResponse'. -/
def fnAgainPushTelemetryResponseUptoCard : Claim7 := { stood := { row := fnAgainPushTelemetryResponseUptoRow, standIns := [], harness := (true, "f465a1d32c4966a68dd76b4c38703225b28ddf8615ba0d966c980a911e823fea"), looks := false }, kinds := [], alts := [], laidByText := true, laidKinds := [.sentinel], laidTests := true, laidLooks := .later }
def FnAgainPushTelemetryResponseUptoCardSaid : Prop := Claim7.holds Tryd.pinned (.plain (OpenSpec.upto fnAgainPushTelemetryResponseSpec)) fnAgainPushTelemetryResponseUptoCard

/-- THE SECOND FORM's CARD OF 'laws.FnAnyAllocateProducerIDsRequest'. -/
def fnAnyAllocateProducerIDsRequestUptoCard : Claim7 := { stood := { row := fnAnyAllocateProducerIDsRequestUptoRow, standIns := [], harness := (true, "f465a1d32c4966a68dd76b4c38703225b28ddf8615ba0d966c980a911e823fea"), looks := false }, kinds := [], alts := [], laidByText := true, laidKinds := [.sentinel], laidTests := true, laidLooks := .later }
def FnAnyAllocateProducerIDsRequestUptoCardSaid : Prop := Claim7.holds Tryd.pinned (.plain (OpenSpec.upto fnAnyAllocateProducerIDsRequestSpec)) fnAnyAllocateProducerIDsRequestUptoCard

/-- THE SECOND FORM's CARD OF 'laws.FnAnyRenewDelegationTokenResponse'. -/
def fnAnyRenewDelegationTokenResponseUptoCard : Claim7 := { stood := { row := fnAnyRenewDelegationTokenResponseUptoRow, standIns := [], harness := (true, "f465a1d32c4966a68dd76b4c38703225b28ddf8615ba0d966c980a911e823fea"), looks := false }, kinds := [], alts := [], laidByText := true, laidKinds := [.sentinel], laidTests := true, laidLooks := .later }
def FnAnyRenewDelegationTokenResponseUptoCardSaid : Prop := Claim7.holds Tryd.pinned (.plain (OpenSpec.upto fnAnyRenewDelegationTokenResponseSpec)) fnAnyRenewDelegationTokenResponseUptoCard

/-- THE SECOND FORM's CARD OF 'laws.FnCutEnvelopeResponse'. -/
def fnCutEnvelopeResponseUptoCard : Claim7 := { stood := { row := fnCutEnvelopeResponseUptoRow, standIns := [], harness := (true, "f465a1d32c4966a68dd76b4c38703225b28ddf8615ba0d966c980a911e823fea"), looks := false }, kinds := [], alts := [], laidByText := true, laidKinds := [.sentinel], laidTests := true, laidLooks := .later }
def FnCutEnvelopeResponseUptoCardSaid : Prop := Claim7.holds Tryd.pinned (.plain (OpenSpec.upto fnCutEnvelopeResponseSpec)) fnCutEnvelopeResponseUptoCard

/-- THE SECOND FORM's CARD OF 'laws.FnAnyUnregisterBrokerResponse'. -/
def fnAnyUnregisterBrokerResponseUptoCard : Claim7 := { stood := { row := fnAnyUnregisterBrokerResponseUptoRow, standIns := [], harness := (true, "f465a1d32c4966a68dd76b4c38703225b28ddf8615ba0d966c980a911e823fea"), looks := false }, kinds := [], alts := [], laidByText := true, laidKinds := [.sentinel], laidTests := true, laidLooks := .later }
def FnAnyUnregisterBrokerResponseUptoCardSaid : Prop := Claim7.holds Tryd.pinned (.plain (OpenSpec.upto fnAnyUnregisterBrokerResponseSpec)) fnAnyUnregisterBrokerResponseUptoCard

/-- THE SECOND FORM's CARD OF 'laws.FnAnyConsumerGroupDescribeRequest'. -/
def fnAnyConsumerGroupDescribeRequestUptoCard : Claim7 := { stood := { row := fnAnyConsumerGroupDescribeRequestUptoRow, standIns := [], harness := (true, "f465a1d32c4966a68dd76b4c38703225b28ddf8615ba0d966c980a911e823fea"), looks := false }, kinds := [], alts := [], laidByText := true, laidKinds := [.sentinel], laidTests := true, laidLooks := .later }
def FnAnyConsumerGroupDescribeRequestUptoCardSaid : Prop := Claim7.holds Tryd.pinned (.plain (OpenSpec.upto fnAnyConsumerGroupDescribeRequestSpec)) fnAnyConsumerGroupDescribeRequestUptoCard

/-- THE SECOND FORM's CARD OF 'laws.FnAnyDescribeUserSCRAMCredentialsRequest'. -/
def fnAnyDescribeUserSCRAMCredentialsRequestUptoCard : Claim7 := { stood := { row := fnAnyDescribeUserSCRAMCredentialsRequestUptoRow, standIns := [], harness := (true, "f465a1d32c4966a68dd76b4c38703225b28ddf8615ba0d966c980a911e823fea"), looks := false }, kinds := [], alts := [], laidByText := true, laidKinds := [.sentinel], laidTests := true, laidLooks := .later }
def FnAnyDescribeUserSCRAMCredentialsRequestUptoCardSaid : Prop := Claim7.holds Tryd.pinned (.plain (OpenSpec.upto fnAnyDescribeUserSCRAMCredentialsRequestSpec)) fnAnyDescribeUserSCRAMCredentialsRequestUptoCard
end Rows
end Go.Proofs.YtidhhlncmegjaaaDoor
