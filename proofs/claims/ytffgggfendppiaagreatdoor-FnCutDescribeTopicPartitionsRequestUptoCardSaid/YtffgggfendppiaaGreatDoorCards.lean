/-
  DERIVED. GIVEN WITH THE SEED: THE CARDS: each row of YtffgggfendppiaaGreatDoorRows.lean that lists a variable, with what it lists TIED to the program's text (the seventh form; the later family's looks); each row that meets fmt, with fmt's text TOLD by the authors' own Lean function (tested against real Go, not proved from fmt's source: count such statements apart). THE CARD IS WHAT COUNTS. Prove the row's statement (the work); the ties are given (YtffgggfendppiaaGreatDoorTie.lean); close each card by the builder's one call (the guide's Derived/Test/ToyasCard.lean, 'card_holds'). Laid BY PROGRAM, IN A SANDBOX (cutbox-door.mjs). By AI agents, Wed Nov 11 2026. No macro, syntax, notation, axiom, sorry.
-/
import Derived.Test.YtffgggfendppiaaGreatDoorRows
import GoSem.ClaimSeven
namespace Go.Proofs.YtffgggfendppiaaGreatDoor
namespace Rows

/-- THE TIED CARD OF 'laws.FnAgainAlterConfigsResponse'. -/
def fnAgainAlterConfigsResponseCard : Claim7 := { stood := { row := fnAgainAlterConfigsResponseRow, standIns := [], harness := (true, "843d7c3dabed5e7cf4ecb3d4dbd13a1332539efe7bb934892a3b10a2f86b9fd4"), looks := false }, kinds := [], alts := [], laidByText := true, laidKinds := [.sentinel], laidTests := true, laidLooks := .later }
def FnAgainAlterConfigsResponseCardSaid : Prop := Claim7.holds Tryz.pinned (.plain (OpenSpec.ofChange fnAgainAlterConfigsResponseSpec)) fnAgainAlterConfigsResponseCard

/-- THE TIED CARD OF 'laws.FnCutIncrementalAlterConfigsRequest'. -/
def fnCutIncrementalAlterConfigsRequestCard : Claim7 := { stood := { row := fnCutIncrementalAlterConfigsRequestRow, standIns := [], harness := (true, "843d7c3dabed5e7cf4ecb3d4dbd13a1332539efe7bb934892a3b10a2f86b9fd4"), looks := false }, kinds := [], alts := [], laidByText := true, laidKinds := [.sentinel], laidTests := true, laidLooks := .later }
def FnCutIncrementalAlterConfigsRequestCardSaid : Prop := Claim7.holds Tryz.pinned (.plain (OpenSpec.ofChange fnCutIncrementalAlterConfigsRequestSpec)) fnCutIncrementalAlterConfigsRequestCard

/-- THE TIED CARD OF 'laws.FnCutDescribeConfigsResponse'. -/
def fnCutDescribeConfigsResponseCard : Claim7 := { stood := { row := fnCutDescribeConfigsResponseRow, standIns := [], harness := (true, "843d7c3dabed5e7cf4ecb3d4dbd13a1332539efe7bb934892a3b10a2f86b9fd4"), looks := false }, kinds := [], alts := [], laidByText := true, laidKinds := [.sentinel], laidTests := true, laidLooks := .later }
def FnCutDescribeConfigsResponseCardSaid : Prop := Claim7.holds Tryz.pinned (.plain (OpenSpec.ofChange fnCutDescribeConfigsResponseSpec)) fnCutDescribeConfigsResponseCard

/-- THE TIED CARD OF 'laws.FnCutDescribeTopicPartitionsRequest'. -/
def fnCutDescribeTopicPartitionsRequestCard : Claim7 := { stood := { row := fnCutDescribeTopicPartitionsRequestRow, standIns := [], harness := (true, "843d7c3dabed5e7cf4ecb3d4dbd13a1332539efe7bb934892a3b10a2f86b9fd4"), looks := false }, kinds := [], alts := [], laidByText := true, laidKinds := [.sentinel], laidTests := true, laidLooks := .later }
def FnCutDescribeTopicPartitionsRequestCardSaid : Prop := Claim7.holds Tryz.pinned (.plain (OpenSpec.ofChange fnCutDescribeTopicPartitionsRequestSpec)) fnCutDescribeTopicPartitionsRequestCard

/-- THE TIED CARD OF 'laws.FnCutVoteRequest'. -/
def fnCutVoteRequestCard : Claim7 := { stood := { row := fnCutVoteRequestRow, standIns := [], harness := (true, "843d7c3dabed5e7cf4ecb3d4dbd13a1332539efe7bb934892a3b10a2f86b9fd4"), looks := false }, kinds := [], alts := [], laidByText := true, laidKinds := [.sentinel], laidTests := true, laidLooks := .later }
def FnCutVoteRequestCardSaid : Prop := Claim7.holds Tryz.pinned (.plain (OpenSpec.ofChange fnCutVoteRequestSpec)) fnCutVoteRequestCard

/-- THE TIED CARD OF 'laws.FnAgainAssignReplicasToDirsRequest'. -/
def fnAgainAssignReplicasToDirsRequestCard : Claim7 := { stood := { row := fnAgainAssignReplicasToDirsRequestRow, standIns := [], harness := (true, "843d7c3dabed5e7cf4ecb3d4dbd13a1332539efe7bb934892a3b10a2f86b9fd4"), looks := false }, kinds := [], alts := [], laidByText := true, laidKinds := [.sentinel], laidTests := true, laidLooks := .later }
def FnAgainAssignReplicasToDirsRequestCardSaid : Prop := Claim7.holds Tryz.pinned (.plain (OpenSpec.ofChange fnAgainAssignReplicasToDirsRequestSpec)) fnAgainAssignReplicasToDirsRequestCard

/-- THE SECOND FORM's CARD OF 'laws.FnAgainAlterConfigsResponse'. -/
def fnAgainAlterConfigsResponseUptoCard : Claim7 := { stood := { row := fnAgainAlterConfigsResponseUptoRow, standIns := [], harness := (true, "843d7c3dabed5e7cf4ecb3d4dbd13a1332539efe7bb934892a3b10a2f86b9fd4"), looks := false }, kinds := [], alts := [], laidByText := true, laidKinds := [.sentinel], laidTests := true, laidLooks := .later }
def FnAgainAlterConfigsResponseUptoCardSaid : Prop := Claim7.holds Tryz.pinned (.plain (OpenSpec.upto fnAgainAlterConfigsResponseSpec)) fnAgainAlterConfigsResponseUptoCard

/-- THE SECOND FORM's CARD OF 'laws.FnCutIncrementalAlterConfigsRequest'. -/
def fnCutIncrementalAlterConfigsRequestUptoCard : Claim7 := { stood := { row := fnCutIncrementalAlterConfigsRequestUptoRow, standIns := [], harness := (true, "843d7c3dabed5e7cf4ecb3d4dbd13a1332539efe7bb934892a3b10a2f86b9fd4"), looks := false }, kinds := [], alts := [], laidByText := true, laidKinds := [.sentinel], laidTests := true, laidLooks := .later }
def FnCutIncrementalAlterConfigsRequestUptoCardSaid : Prop := Claim7.holds Tryz.pinned (.plain (OpenSpec.upto fnCutIncrementalAlterConfigsRequestSpec)) fnCutIncrementalAlterConfigsRequestUptoCard

/-- THE SECOND FORM's CARD OF 'laws.FnCutDescribeConfigsResponse'. -/
def fnCutDescribeConfigsResponseUptoCard : Claim7 := { stood := { row := fnCutDescribeConfigsResponseUptoRow, standIns := [], harness := (true, "843d7c3dabed5e7cf4ecb3d4dbd13a1332539efe7bb934892a3b10a2f86b9fd4"), looks := false }, kinds := [], alts := [], laidByText := true, laidKinds := [.sentinel], laidTests := true, laidLooks := .later }
def FnCutDescribeConfigsResponseUptoCardSaid : Prop := Claim7.holds Tryz.pinned (.plain (OpenSpec.upto fnCutDescribeConfigsResponseSpec)) fnCutDescribeConfigsResponseUptoCard

/-- THE SECOND FORM's CARD OF 'laws.FnCutDescribeTopicPartitionsRequest'. -/
def fnCutDescribeTopicPartitionsRequestUptoCard : Claim7 := { stood := { row := fnCutDescribeTopicPartitionsRequestUptoRow, standIns := [], harness := (true, "843d7c3dabed5e7cf4ecb3d4dbd13a1332539efe7bb934892a3b10a2f86b9fd4"), looks := false }, kinds := [], alts := [], laidByText := true, laidKinds := [.sentinel], laidTests := true, laidLooks := .later }
def FnCutDescribeTopicPartitionsRequestUptoCardSaid : Prop := Claim7.holds Tryz.pinned (.plain (OpenSpec.upto fnCutDescribeTopicPartitionsRequestSpec)) fnCutDescribeTopicPartitionsRequestUptoCard

/-- THE SECOND FORM's CARD OF 'laws.FnCutVoteRequest'. -/
def fnCutVoteRequestUptoCard : Claim7 := { stood := { row := fnCutVoteRequestUptoRow, standIns := [], harness := (true, "843d7c3dabed5e7cf4ecb3d4dbd13a1332539efe7bb934892a3b10a2f86b9fd4"), looks := false }, kinds := [], alts := [], laidByText := true, laidKinds := [.sentinel], laidTests := true, laidLooks := .later }
def FnCutVoteRequestUptoCardSaid : Prop := Claim7.holds Tryz.pinned (.plain (OpenSpec.upto fnCutVoteRequestSpec)) fnCutVoteRequestUptoCard

/-- THE SECOND FORM's CARD OF 'laws.FnAgainAssignReplicasToDirsRequest'. -/
def fnAgainAssignReplicasToDirsRequestUptoCard : Claim7 := { stood := { row := fnAgainAssignReplicasToDirsRequestUptoRow, standIns := [], harness := (true, "843d7c3dabed5e7cf4ecb3d4dbd13a1332539efe7bb934892a3b10a2f86b9fd4"), looks := false }, kinds := [], alts := [], laidByText := true, laidKinds := [.sentinel], laidTests := true, laidLooks := .later }
def FnAgainAssignReplicasToDirsRequestUptoCardSaid : Prop := Claim7.holds Tryz.pinned (.plain (OpenSpec.upto fnAgainAssignReplicasToDirsRequestSpec)) fnAgainAssignReplicasToDirsRequestUptoCard
end Rows
end Go.Proofs.YtffgggfendppiaaGreatDoor
