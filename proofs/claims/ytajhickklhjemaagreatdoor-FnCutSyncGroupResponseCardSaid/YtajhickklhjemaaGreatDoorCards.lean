/-
  DERIVED. GIVEN WITH THE SEED: THE CARDS: each row of YtajhickklhjemaaGreatDoorRows.lean that lists a variable, with what it lists TIED to the program's text (the seventh form; the later family's looks); each row that meets fmt, with fmt's text TOLD by the authors' own Lean function (tested against real Go, not proved from fmt's source: count such statements apart). THE CARD IS WHAT COUNTS. Prove the row's statement (the work); the ties are given (YtajhickklhjemaaGreatDoorTie.lean); close each card by the builder's one call (the guide's Derived/Test/ToyasCard.lean, 'card_holds'). Laid BY PROGRAM, IN A SANDBOX (cutbox-door.mjs). By AI agents, Wed Nov 11 2026. No macro, syntax, notation, axiom, sorry.
-/
import Derived.Test.YtajhickklhjemaaGreatDoorRows
import GoSem.ClaimSeven
namespace Go.Proofs.YtajhickklhjemaaGreatDoor
namespace Rows

/-- THE TIED CARD OF 'laws.FnCutDescribeTopicPartitionsRequest'. -/
def fnCutDescribeTopicPartitionsRequestCard : Claim7 := { stood := { row := fnCutDescribeTopicPartitionsRequestRow, standIns := [], harness := (true, "33bd43ffbe8b9fb6efe9731a0d2d9426e418e393ae420bbdf8199e11b8cad2f1"), looks := false }, kinds := [], alts := [], laidByText := true, laidKinds := [.sentinel], laidTests := true, laidLooks := .later }
def FnCutDescribeTopicPartitionsRequestCardSaid : Prop := Claim7.holds Tryz.pinned (.plain (OpenSpec.ofChange fnCutDescribeTopicPartitionsRequestSpec)) fnCutDescribeTopicPartitionsRequestCard

/-- THE TIED CARD OF 'laws.FnCutIncrementalAlterConfigsRequest'. -/
def fnCutIncrementalAlterConfigsRequestCard : Claim7 := { stood := { row := fnCutIncrementalAlterConfigsRequestRow, standIns := [], harness := (true, "33bd43ffbe8b9fb6efe9731a0d2d9426e418e393ae420bbdf8199e11b8cad2f1"), looks := false }, kinds := [], alts := [], laidByText := true, laidKinds := [.sentinel], laidTests := true, laidLooks := .later }
def FnCutIncrementalAlterConfigsRequestCardSaid : Prop := Claim7.holds Tryz.pinned (.plain (OpenSpec.ofChange fnCutIncrementalAlterConfigsRequestSpec)) fnCutIncrementalAlterConfigsRequestCard

/-- THE TIED CARD OF 'laws.FnAgainDescribeClientQuotasResponse'. -/
def fnAgainDescribeClientQuotasResponseCard : Claim7 := { stood := { row := fnAgainDescribeClientQuotasResponseRow, standIns := [], harness := (true, "33bd43ffbe8b9fb6efe9731a0d2d9426e418e393ae420bbdf8199e11b8cad2f1"), looks := false }, kinds := [], alts := [], laidByText := true, laidKinds := [.sentinel], laidTests := true, laidLooks := .later }
def FnAgainDescribeClientQuotasResponseCardSaid : Prop := Claim7.holds Tryz.pinned (.plain (OpenSpec.ofChange fnAgainDescribeClientQuotasResponseSpec)) fnAgainDescribeClientQuotasResponseCard

/-- THE TIED CARD OF 'laws.FnAgainMetadataRequest'. -/
def fnAgainMetadataRequestCard : Claim7 := { stood := { row := fnAgainMetadataRequestRow, standIns := [], harness := (true, "33bd43ffbe8b9fb6efe9731a0d2d9426e418e393ae420bbdf8199e11b8cad2f1"), looks := false }, kinds := [], alts := [], laidByText := true, laidKinds := [.sentinel], laidTests := true, laidLooks := .later }
def FnAgainMetadataRequestCardSaid : Prop := Claim7.holds Tryz.pinned (.plain (OpenSpec.ofChange fnAgainMetadataRequestSpec)) fnAgainMetadataRequestCard

/-- THE TIED CARD OF 'laws.FnCutVoteRequest'. -/
def fnCutVoteRequestCard : Claim7 := { stood := { row := fnCutVoteRequestRow, standIns := [], harness := (true, "33bd43ffbe8b9fb6efe9731a0d2d9426e418e393ae420bbdf8199e11b8cad2f1"), looks := false }, kinds := [], alts := [], laidByText := true, laidKinds := [.sentinel], laidTests := true, laidLooks := .later }
def FnCutVoteRequestCardSaid : Prop := Claim7.holds Tryz.pinned (.plain (OpenSpec.ofChange fnCutVoteRequestSpec)) fnCutVoteRequestCard

/-- THE TIED CARD OF 'laws.FnCutSyncGroupResponse'. -/
def fnCutSyncGroupResponseCard : Claim7 := { stood := { row := fnCutSyncGroupResponseRow, standIns := [], harness := (true, "33bd43ffbe8b9fb6efe9731a0d2d9426e418e393ae420bbdf8199e11b8cad2f1"), looks := false }, kinds := [], alts := [], laidByText := true, laidKinds := [.sentinel], laidTests := true, laidLooks := .later }
def FnCutSyncGroupResponseCardSaid : Prop := Claim7.holds Tryz.pinned (.plain (OpenSpec.ofChange fnCutSyncGroupResponseSpec)) fnCutSyncGroupResponseCard

/-- THE TIED CARD OF 'laws.FnCutCreateACLsResponse'. -/
def fnCutCreateACLsResponseCard : Claim7 := { stood := { row := fnCutCreateACLsResponseRow, standIns := [], harness := (true, "33bd43ffbe8b9fb6efe9731a0d2d9426e418e393ae420bbdf8199e11b8cad2f1"), looks := false }, kinds := [], alts := [], laidByText := true, laidKinds := [.sentinel], laidTests := true, laidLooks := .later }
def FnCutCreateACLsResponseCardSaid : Prop := Claim7.holds Tryz.pinned (.plain (OpenSpec.ofChange fnCutCreateACLsResponseSpec)) fnCutCreateACLsResponseCard

/-- THE TIED CARD OF 'laws.FnAgainAlterConfigsResponse'. -/
def fnAgainAlterConfigsResponseCard : Claim7 := { stood := { row := fnAgainAlterConfigsResponseRow, standIns := [], harness := (true, "33bd43ffbe8b9fb6efe9731a0d2d9426e418e393ae420bbdf8199e11b8cad2f1"), looks := false }, kinds := [], alts := [], laidByText := true, laidKinds := [.sentinel], laidTests := true, laidLooks := .later }
def FnAgainAlterConfigsResponseCardSaid : Prop := Claim7.holds Tryz.pinned (.plain (OpenSpec.ofChange fnAgainAlterConfigsResponseSpec)) fnAgainAlterConfigsResponseCard

/-- THE TIED CARD OF 'laws.FnCutListConfigResourcesResponse'. -/
def fnCutListConfigResourcesResponseCard : Claim7 := { stood := { row := fnCutListConfigResourcesResponseRow, standIns := [], harness := (true, "33bd43ffbe8b9fb6efe9731a0d2d9426e418e393ae420bbdf8199e11b8cad2f1"), looks := false }, kinds := [], alts := [], laidByText := true, laidKinds := [.sentinel], laidTests := true, laidLooks := .later }
def FnCutListConfigResourcesResponseCardSaid : Prop := Claim7.holds Tryz.pinned (.plain (OpenSpec.ofChange fnCutListConfigResourcesResponseSpec)) fnCutListConfigResourcesResponseCard

/-- THE TIED CARD OF 'laws.FnCutDeleteShareGroupOffsetsRequest'. -/
def fnCutDeleteShareGroupOffsetsRequestCard : Claim7 := { stood := { row := fnCutDeleteShareGroupOffsetsRequestRow, standIns := [], harness := (true, "33bd43ffbe8b9fb6efe9731a0d2d9426e418e393ae420bbdf8199e11b8cad2f1"), looks := false }, kinds := [], alts := [], laidByText := true, laidKinds := [.sentinel], laidTests := true, laidLooks := .later }
def FnCutDeleteShareGroupOffsetsRequestCardSaid : Prop := Claim7.holds Tryz.pinned (.plain (OpenSpec.ofChange fnCutDeleteShareGroupOffsetsRequestSpec)) fnCutDeleteShareGroupOffsetsRequestCard

/-- THE SECOND FORM's CARD OF 'laws.FnCutDescribeTopicPartitionsRequest'. -/
def fnCutDescribeTopicPartitionsRequestUptoCard : Claim7 := { stood := { row := fnCutDescribeTopicPartitionsRequestUptoRow, standIns := [], harness := (true, "33bd43ffbe8b9fb6efe9731a0d2d9426e418e393ae420bbdf8199e11b8cad2f1"), looks := false }, kinds := [], alts := [], laidByText := true, laidKinds := [.sentinel], laidTests := true, laidLooks := .later }
def FnCutDescribeTopicPartitionsRequestUptoCardSaid : Prop := Claim7.holds Tryz.pinned (.plain (OpenSpec.upto fnCutDescribeTopicPartitionsRequestSpec)) fnCutDescribeTopicPartitionsRequestUptoCard

/-- THE SECOND FORM's CARD OF 'laws.FnCutIncrementalAlterConfigsRequest'. -/
def fnCutIncrementalAlterConfigsRequestUptoCard : Claim7 := { stood := { row := fnCutIncrementalAlterConfigsRequestUptoRow, standIns := [], harness := (true, "33bd43ffbe8b9fb6efe9731a0d2d9426e418e393ae420bbdf8199e11b8cad2f1"), looks := false }, kinds := [], alts := [], laidByText := true, laidKinds := [.sentinel], laidTests := true, laidLooks := .later }
def FnCutIncrementalAlterConfigsRequestUptoCardSaid : Prop := Claim7.holds Tryz.pinned (.plain (OpenSpec.upto fnCutIncrementalAlterConfigsRequestSpec)) fnCutIncrementalAlterConfigsRequestUptoCard

/-- THE SECOND FORM's CARD OF 'laws.FnAgainDescribeClientQuotasResponse'. -/
def fnAgainDescribeClientQuotasResponseUptoCard : Claim7 := { stood := { row := fnAgainDescribeClientQuotasResponseUptoRow, standIns := [], harness := (true, "33bd43ffbe8b9fb6efe9731a0d2d9426e418e393ae420bbdf8199e11b8cad2f1"), looks := false }, kinds := [], alts := [], laidByText := true, laidKinds := [.sentinel], laidTests := true, laidLooks := .later }
def FnAgainDescribeClientQuotasResponseUptoCardSaid : Prop := Claim7.holds Tryz.pinned (.plain (OpenSpec.upto fnAgainDescribeClientQuotasResponseSpec)) fnAgainDescribeClientQuotasResponseUptoCard

/-- THE SECOND FORM's CARD OF 'laws.FnAgainMetadataRequest'. -/
def fnAgainMetadataRequestUptoCard : Claim7 := { stood := { row := fnAgainMetadataRequestUptoRow, standIns := [], harness := (true, "33bd43ffbe8b9fb6efe9731a0d2d9426e418e393ae420bbdf8199e11b8cad2f1"), looks := false }, kinds := [], alts := [], laidByText := true, laidKinds := [.sentinel], laidTests := true, laidLooks := .later }
def FnAgainMetadataRequestUptoCardSaid : Prop := Claim7.holds Tryz.pinned (.plain (OpenSpec.upto fnAgainMetadataRequestSpec)) fnAgainMetadataRequestUptoCard

/-- THE SECOND FORM's CARD OF 'laws.FnCutVoteRequest'. -/
def fnCutVoteRequestUptoCard : Claim7 := { stood := { row := fnCutVoteRequestUptoRow, standIns := [], harness := (true, "33bd43ffbe8b9fb6efe9731a0d2d9426e418e393ae420bbdf8199e11b8cad2f1"), looks := false }, kinds := [], alts := [], laidByText := true, laidKinds := [.sentinel], laidTests := true, laidLooks := .later }
def FnCutVoteRequestUptoCardSaid : Prop := Claim7.holds Tryz.pinned (.plain (OpenSpec.upto fnCutVoteRequestSpec)) fnCutVoteRequestUptoCard

/-- THE SECOND FORM's CARD OF 'laws.FnCutSyncGroupResponse'. -/
def fnCutSyncGroupResponseUptoCard : Claim7 := { stood := { row := fnCutSyncGroupResponseUptoRow, standIns := [], harness := (true, "33bd43ffbe8b9fb6efe9731a0d2d9426e418e393ae420bbdf8199e11b8cad2f1"), looks := false }, kinds := [], alts := [], laidByText := true, laidKinds := [.sentinel], laidTests := true, laidLooks := .later }
def FnCutSyncGroupResponseUptoCardSaid : Prop := Claim7.holds Tryz.pinned (.plain (OpenSpec.upto fnCutSyncGroupResponseSpec)) fnCutSyncGroupResponseUptoCard

/-- THE SECOND FORM's CARD OF 'laws.FnCutCreateACLsResponse'. -/
def fnCutCreateACLsResponseUptoCard : Claim7 := { stood := { row := fnCutCreateACLsResponseUptoRow, standIns := [], harness := (true, "33bd43ffbe8b9fb6efe9731a0d2d9426e418e393ae420bbdf8199e11b8cad2f1"), looks := false }, kinds := [], alts := [], laidByText := true, laidKinds := [.sentinel], laidTests := true, laidLooks := .later }
def FnCutCreateACLsResponseUptoCardSaid : Prop := Claim7.holds Tryz.pinned (.plain (OpenSpec.upto fnCutCreateACLsResponseSpec)) fnCutCreateACLsResponseUptoCard

/-- THE SECOND FORM's CARD OF 'laws.FnAgainAlterConfigsResponse'. -/
def fnAgainAlterConfigsResponseUptoCard : Claim7 := { stood := { row := fnAgainAlterConfigsResponseUptoRow, standIns := [], harness := (true, "33bd43ffbe8b9fb6efe9731a0d2d9426e418e393ae420bbdf8199e11b8cad2f1"), looks := false }, kinds := [], alts := [], laidByText := true, laidKinds := [.sentinel], laidTests := true, laidLooks := .later }
def FnAgainAlterConfigsResponseUptoCardSaid : Prop := Claim7.holds Tryz.pinned (.plain (OpenSpec.upto fnAgainAlterConfigsResponseSpec)) fnAgainAlterConfigsResponseUptoCard

/-- THE SECOND FORM's CARD OF 'laws.FnCutListConfigResourcesResponse'. -/
def fnCutListConfigResourcesResponseUptoCard : Claim7 := { stood := { row := fnCutListConfigResourcesResponseUptoRow, standIns := [], harness := (true, "33bd43ffbe8b9fb6efe9731a0d2d9426e418e393ae420bbdf8199e11b8cad2f1"), looks := false }, kinds := [], alts := [], laidByText := true, laidKinds := [.sentinel], laidTests := true, laidLooks := .later }
def FnCutListConfigResourcesResponseUptoCardSaid : Prop := Claim7.holds Tryz.pinned (.plain (OpenSpec.upto fnCutListConfigResourcesResponseSpec)) fnCutListConfigResourcesResponseUptoCard

/-- THE SECOND FORM's CARD OF 'laws.FnCutDeleteShareGroupOffsetsRequest'. -/
def fnCutDeleteShareGroupOffsetsRequestUptoCard : Claim7 := { stood := { row := fnCutDeleteShareGroupOffsetsRequestUptoRow, standIns := [], harness := (true, "33bd43ffbe8b9fb6efe9731a0d2d9426e418e393ae420bbdf8199e11b8cad2f1"), looks := false }, kinds := [], alts := [], laidByText := true, laidKinds := [.sentinel], laidTests := true, laidLooks := .later }
def FnCutDeleteShareGroupOffsetsRequestUptoCardSaid : Prop := Claim7.holds Tryz.pinned (.plain (OpenSpec.upto fnCutDeleteShareGroupOffsetsRequestSpec)) fnCutDeleteShareGroupOffsetsRequestUptoCard
end Rows
end Go.Proofs.YtajhickklhjemaaGreatDoor
