/-
  DERIVED. GIVEN WITH THE SEED: THE CARDS: each row of YtcanhgcceagplaaGreatDoorRows.lean that lists a variable, with what it lists TIED to the program's text (the seventh form; the later family's looks); each row that meets fmt, with fmt's text TOLD by the authors' own Lean function (tested against real Go, not proved from fmt's source: count such statements apart). THE CARD IS WHAT COUNTS. Prove the row's statement (the work); the ties are given (YtcanhgcceagplaaGreatDoorTie.lean); close each card by the builder's one call (the guide's Derived/Test/ToyasCard.lean, 'card_holds'). Laid BY PROGRAM, IN A SANDBOX (cutbox-door.mjs). By AI agents, Wed Nov 11 2026. No macro, syntax, notation, axiom, sorry.
-/
import Derived.Test.YtcanhgcceagplaaGreatDoorRows
import GoSem.ClaimSeven
namespace Go.Proofs.YtcanhgcceagplaaGreatDoor
namespace Rows

/-- THE TIED CARD OF 'laws.FnAgainDescribeClientQuotasResponse'. -/
def fnAgainDescribeClientQuotasResponseCard : Claim7 := { stood := { row := fnAgainDescribeClientQuotasResponseRow, standIns := [], harness := (true, "55b565458b0e10f9018714677ea614e5d43cb93adb5e45a3d61b3595439b3b1f"), looks := false }, kinds := [], alts := [], laidByText := true, laidKinds := [.sentinel], laidTests := true, laidLooks := .later }
def FnAgainDescribeClientQuotasResponseCardSaid : Prop := Claim7.holds Tryz.pinned (.plain (OpenSpec.ofChange fnAgainDescribeClientQuotasResponseSpec)) fnAgainDescribeClientQuotasResponseCard

/-- THE TIED CARD OF 'laws.FnAgainMetadataRequest'. -/
def fnAgainMetadataRequestCard : Claim7 := { stood := { row := fnAgainMetadataRequestRow, standIns := [], harness := (true, "55b565458b0e10f9018714677ea614e5d43cb93adb5e45a3d61b3595439b3b1f"), looks := false }, kinds := [], alts := [], laidByText := true, laidKinds := [.sentinel], laidTests := true, laidLooks := .later }
def FnAgainMetadataRequestCardSaid : Prop := Claim7.holds Tryz.pinned (.plain (OpenSpec.ofChange fnAgainMetadataRequestSpec)) fnAgainMetadataRequestCard

/-- THE TIED CARD OF 'laws.FnCutBrokerHeartbeatRequest'. -/
def fnCutBrokerHeartbeatRequestCard : Claim7 := { stood := { row := fnCutBrokerHeartbeatRequestRow, standIns := [], harness := (true, "55b565458b0e10f9018714677ea614e5d43cb93adb5e45a3d61b3595439b3b1f"), looks := false }, kinds := [], alts := [], laidByText := true, laidKinds := [.sentinel], laidTests := true, laidLooks := .later }
def FnCutBrokerHeartbeatRequestCardSaid : Prop := Claim7.holds Tryz.pinned (.plain (OpenSpec.ofChange fnCutBrokerHeartbeatRequestSpec)) fnCutBrokerHeartbeatRequestCard

/-- THE TIED CARD OF 'laws.FnAgainEndQuorumEpochResponse'. -/
def fnAgainEndQuorumEpochResponseCard : Claim7 := { stood := { row := fnAgainEndQuorumEpochResponseRow, standIns := [], harness := (true, "55b565458b0e10f9018714677ea614e5d43cb93adb5e45a3d61b3595439b3b1f"), looks := false }, kinds := [], alts := [], laidByText := true, laidKinds := [.sentinel], laidTests := true, laidLooks := .later }
def FnAgainEndQuorumEpochResponseCardSaid : Prop := Claim7.holds Tryz.pinned (.plain (OpenSpec.ofChange fnAgainEndQuorumEpochResponseSpec)) fnAgainEndQuorumEpochResponseCard

/-- THE SECOND FORM's CARD OF 'laws.FnAgainDescribeClientQuotasResponse'. -/
def fnAgainDescribeClientQuotasResponseUptoCard : Claim7 := { stood := { row := fnAgainDescribeClientQuotasResponseUptoRow, standIns := [], harness := (true, "55b565458b0e10f9018714677ea614e5d43cb93adb5e45a3d61b3595439b3b1f"), looks := false }, kinds := [], alts := [], laidByText := true, laidKinds := [.sentinel], laidTests := true, laidLooks := .later }
def FnAgainDescribeClientQuotasResponseUptoCardSaid : Prop := Claim7.holds Tryz.pinned (.plain (OpenSpec.upto fnAgainDescribeClientQuotasResponseSpec)) fnAgainDescribeClientQuotasResponseUptoCard

/-- THE SECOND FORM's CARD OF 'laws.FnAgainMetadataRequest'. -/
def fnAgainMetadataRequestUptoCard : Claim7 := { stood := { row := fnAgainMetadataRequestUptoRow, standIns := [], harness := (true, "55b565458b0e10f9018714677ea614e5d43cb93adb5e45a3d61b3595439b3b1f"), looks := false }, kinds := [], alts := [], laidByText := true, laidKinds := [.sentinel], laidTests := true, laidLooks := .later }
def FnAgainMetadataRequestUptoCardSaid : Prop := Claim7.holds Tryz.pinned (.plain (OpenSpec.upto fnAgainMetadataRequestSpec)) fnAgainMetadataRequestUptoCard

/-- THE SECOND FORM's CARD OF 'laws.FnCutBrokerHeartbeatRequest'. -/
def fnCutBrokerHeartbeatRequestUptoCard : Claim7 := { stood := { row := fnCutBrokerHeartbeatRequestUptoRow, standIns := [], harness := (true, "55b565458b0e10f9018714677ea614e5d43cb93adb5e45a3d61b3595439b3b1f"), looks := false }, kinds := [], alts := [], laidByText := true, laidKinds := [.sentinel], laidTests := true, laidLooks := .later }
def FnCutBrokerHeartbeatRequestUptoCardSaid : Prop := Claim7.holds Tryz.pinned (.plain (OpenSpec.upto fnCutBrokerHeartbeatRequestSpec)) fnCutBrokerHeartbeatRequestUptoCard

/-- THE SECOND FORM's CARD OF 'laws.FnAgainEndQuorumEpochResponse'. -/
def fnAgainEndQuorumEpochResponseUptoCard : Claim7 := { stood := { row := fnAgainEndQuorumEpochResponseUptoRow, standIns := [], harness := (true, "55b565458b0e10f9018714677ea614e5d43cb93adb5e45a3d61b3595439b3b1f"), looks := false }, kinds := [], alts := [], laidByText := true, laidKinds := [.sentinel], laidTests := true, laidLooks := .later }
def FnAgainEndQuorumEpochResponseUptoCardSaid : Prop := Claim7.holds Tryz.pinned (.plain (OpenSpec.upto fnAgainEndQuorumEpochResponseSpec)) fnAgainEndQuorumEpochResponseUptoCard
end Rows
end Go.Proofs.YtcanhgcceagplaaGreatDoor
