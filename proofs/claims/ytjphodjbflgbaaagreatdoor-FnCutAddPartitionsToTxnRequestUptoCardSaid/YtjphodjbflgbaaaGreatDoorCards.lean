/-
  DERIVED. GIVEN WITH THE SEED: THE CARDS: each row of YtjphodjbflgbaaaGreatDoorRows.lean that lists a variable, with what it lists TIED to the program's text (the seventh form; the later family's looks); each row that meets fmt, with fmt's text TOLD by the authors' own Lean function (tested against real Go, not proved from fmt's source: count such statements apart). THE CARD IS WHAT COUNTS. Prove the row's statement (the work); the ties are given (YtjphodjbflgbaaaGreatDoorTie.lean); close each card by the builder's one call (the guide's Derived/Test/ToyasCard.lean, 'card_holds'). Laid BY PROGRAM, IN A SANDBOX (cutbox-door.mjs). By AI agents, Wed Nov 11 2026. No macro, syntax, notation, axiom, sorry.
-/
import Derived.Test.YtjphodjbflgbaaaGreatDoorRows
import GoSem.ClaimSeven
namespace Go.Proofs.YtjphodjbflgbaaaGreatDoor
namespace Rows

/-- THE TIED CARD OF 'laws.FnAgainControlledShutdownResponse'. -/
def fnAgainControlledShutdownResponseCard : Claim7 := { stood := { row := fnAgainControlledShutdownResponseRow, standIns := [], harness := (true, "3709f3441046a5c7c10f3e2f1d898399598eef5dcdcee7f8e59678d6a219c935"), looks := false }, kinds := [], alts := [], laidByText := true, laidKinds := [.sentinel], laidTests := true, laidLooks := .later }
def FnAgainControlledShutdownResponseCardSaid : Prop := Claim7.holds Tryz.pinned (.plain (OpenSpec.ofChange fnAgainControlledShutdownResponseSpec)) fnAgainControlledShutdownResponseCard

/-- THE TIED CARD OF 'laws.FnCutDeleteShareGroupOffsetsRequest'. -/
def fnCutDeleteShareGroupOffsetsRequestCard : Claim7 := { stood := { row := fnCutDeleteShareGroupOffsetsRequestRow, standIns := [], harness := (true, "3709f3441046a5c7c10f3e2f1d898399598eef5dcdcee7f8e59678d6a219c935"), looks := false }, kinds := [], alts := [], laidByText := true, laidKinds := [.sentinel], laidTests := true, laidLooks := .later }
def FnCutDeleteShareGroupOffsetsRequestCardSaid : Prop := Claim7.holds Tryz.pinned (.plain (OpenSpec.ofChange fnCutDeleteShareGroupOffsetsRequestSpec)) fnCutDeleteShareGroupOffsetsRequestCard

/-- THE TIED CARD OF 'laws.FnCutListConfigResourcesResponse'. -/
def fnCutListConfigResourcesResponseCard : Claim7 := { stood := { row := fnCutListConfigResourcesResponseRow, standIns := [], harness := (true, "3709f3441046a5c7c10f3e2f1d898399598eef5dcdcee7f8e59678d6a219c935"), looks := false }, kinds := [], alts := [], laidByText := true, laidKinds := [.sentinel], laidTests := true, laidLooks := .later }
def FnCutListConfigResourcesResponseCardSaid : Prop := Claim7.holds Tryz.pinned (.plain (OpenSpec.ofChange fnCutListConfigResourcesResponseSpec)) fnCutListConfigResourcesResponseCard

/-- THE TIED CARD OF 'laws.FnCutCreateACLsResponse'. -/
def fnCutCreateACLsResponseCard : Claim7 := { stood := { row := fnCutCreateACLsResponseRow, standIns := [], harness := (true, "3709f3441046a5c7c10f3e2f1d898399598eef5dcdcee7f8e59678d6a219c935"), looks := false }, kinds := [], alts := [], laidByText := true, laidKinds := [.sentinel], laidTests := true, laidLooks := .later }
def FnCutCreateACLsResponseCardSaid : Prop := Claim7.holds Tryz.pinned (.plain (OpenSpec.ofChange fnCutCreateACLsResponseSpec)) fnCutCreateACLsResponseCard

/-- THE TIED CARD OF 'laws.FnAgainDescribeQuorumRequest'. -/
def fnAgainDescribeQuorumRequestCard : Claim7 := { stood := { row := fnAgainDescribeQuorumRequestRow, standIns := [], harness := (true, "3709f3441046a5c7c10f3e2f1d898399598eef5dcdcee7f8e59678d6a219c935"), looks := false }, kinds := [], alts := [], laidByText := true, laidKinds := [.sentinel], laidTests := true, laidLooks := .later }
def FnAgainDescribeQuorumRequestCardSaid : Prop := Claim7.holds Tryz.pinned (.plain (OpenSpec.ofChange fnAgainDescribeQuorumRequestSpec)) fnAgainDescribeQuorumRequestCard

/-- THE TIED CARD OF 'laws.FnCutAddPartitionsToTxnRequest'. -/
def fnCutAddPartitionsToTxnRequestCard : Claim7 := { stood := { row := fnCutAddPartitionsToTxnRequestRow, standIns := [], harness := (true, "3709f3441046a5c7c10f3e2f1d898399598eef5dcdcee7f8e59678d6a219c935"), looks := false }, kinds := [], alts := [], laidByText := true, laidKinds := [.sentinel], laidTests := true, laidLooks := .later }
def FnCutAddPartitionsToTxnRequestCardSaid : Prop := Claim7.holds Tryz.pinned (.plain (OpenSpec.ofChange fnCutAddPartitionsToTxnRequestSpec)) fnCutAddPartitionsToTxnRequestCard

/-- THE SECOND FORM's CARD OF 'laws.FnAgainControlledShutdownResponse'. -/
def fnAgainControlledShutdownResponseUptoCard : Claim7 := { stood := { row := fnAgainControlledShutdownResponseUptoRow, standIns := [], harness := (true, "3709f3441046a5c7c10f3e2f1d898399598eef5dcdcee7f8e59678d6a219c935"), looks := false }, kinds := [], alts := [], laidByText := true, laidKinds := [.sentinel], laidTests := true, laidLooks := .later }
def FnAgainControlledShutdownResponseUptoCardSaid : Prop := Claim7.holds Tryz.pinned (.plain (OpenSpec.upto fnAgainControlledShutdownResponseSpec)) fnAgainControlledShutdownResponseUptoCard

/-- THE SECOND FORM's CARD OF 'laws.FnCutDeleteShareGroupOffsetsRequest'. -/
def fnCutDeleteShareGroupOffsetsRequestUptoCard : Claim7 := { stood := { row := fnCutDeleteShareGroupOffsetsRequestUptoRow, standIns := [], harness := (true, "3709f3441046a5c7c10f3e2f1d898399598eef5dcdcee7f8e59678d6a219c935"), looks := false }, kinds := [], alts := [], laidByText := true, laidKinds := [.sentinel], laidTests := true, laidLooks := .later }
def FnCutDeleteShareGroupOffsetsRequestUptoCardSaid : Prop := Claim7.holds Tryz.pinned (.plain (OpenSpec.upto fnCutDeleteShareGroupOffsetsRequestSpec)) fnCutDeleteShareGroupOffsetsRequestUptoCard

/-- THE SECOND FORM's CARD OF 'laws.FnCutListConfigResourcesResponse'. -/
def fnCutListConfigResourcesResponseUptoCard : Claim7 := { stood := { row := fnCutListConfigResourcesResponseUptoRow, standIns := [], harness := (true, "3709f3441046a5c7c10f3e2f1d898399598eef5dcdcee7f8e59678d6a219c935"), looks := false }, kinds := [], alts := [], laidByText := true, laidKinds := [.sentinel], laidTests := true, laidLooks := .later }
def FnCutListConfigResourcesResponseUptoCardSaid : Prop := Claim7.holds Tryz.pinned (.plain (OpenSpec.upto fnCutListConfigResourcesResponseSpec)) fnCutListConfigResourcesResponseUptoCard

/-- THE SECOND FORM's CARD OF 'laws.FnCutCreateACLsResponse'. -/
def fnCutCreateACLsResponseUptoCard : Claim7 := { stood := { row := fnCutCreateACLsResponseUptoRow, standIns := [], harness := (true, "3709f3441046a5c7c10f3e2f1d898399598eef5dcdcee7f8e59678d6a219c935"), looks := false }, kinds := [], alts := [], laidByText := true, laidKinds := [.sentinel], laidTests := true, laidLooks := .later }
def FnCutCreateACLsResponseUptoCardSaid : Prop := Claim7.holds Tryz.pinned (.plain (OpenSpec.upto fnCutCreateACLsResponseSpec)) fnCutCreateACLsResponseUptoCard

/-- THE SECOND FORM's CARD OF 'laws.FnAgainDescribeQuorumRequest'. -/
def fnAgainDescribeQuorumRequestUptoCard : Claim7 := { stood := { row := fnAgainDescribeQuorumRequestUptoRow, standIns := [], harness := (true, "3709f3441046a5c7c10f3e2f1d898399598eef5dcdcee7f8e59678d6a219c935"), looks := false }, kinds := [], alts := [], laidByText := true, laidKinds := [.sentinel], laidTests := true, laidLooks := .later }
def FnAgainDescribeQuorumRequestUptoCardSaid : Prop := Claim7.holds Tryz.pinned (.plain (OpenSpec.upto fnAgainDescribeQuorumRequestSpec)) fnAgainDescribeQuorumRequestUptoCard

/-- THE SECOND FORM's CARD OF 'laws.FnCutAddPartitionsToTxnRequest'. -/
def fnCutAddPartitionsToTxnRequestUptoCard : Claim7 := { stood := { row := fnCutAddPartitionsToTxnRequestUptoRow, standIns := [], harness := (true, "3709f3441046a5c7c10f3e2f1d898399598eef5dcdcee7f8e59678d6a219c935"), looks := false }, kinds := [], alts := [], laidByText := true, laidKinds := [.sentinel], laidTests := true, laidLooks := .later }
def FnCutAddPartitionsToTxnRequestUptoCardSaid : Prop := Claim7.holds Tryz.pinned (.plain (OpenSpec.upto fnCutAddPartitionsToTxnRequestSpec)) fnCutAddPartitionsToTxnRequestUptoCard
end Rows
end Go.Proofs.YtjphodjbflgbaaaGreatDoor
