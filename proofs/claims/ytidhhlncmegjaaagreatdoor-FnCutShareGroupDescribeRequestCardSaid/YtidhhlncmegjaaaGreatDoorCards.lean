/-
  DERIVED. GIVEN WITH THE SEED: THE CARDS: each row of YtidhhlncmegjaaaGreatDoorRows.lean that lists a variable, with what it lists TIED to the program's text (the seventh form; the later family's looks); each row that meets fmt, with fmt's text TOLD by the authors' own Lean function (tested against real Go, not proved from fmt's source: count such statements apart). THE CARD IS WHAT COUNTS. Prove the row's statement (the work); the ties are given (YtidhhlncmegjaaaGreatDoorTie.lean); close each card by the builder's one call (the guide's Derived/Test/ToyasCard.lean, 'card_holds'). Laid BY PROGRAM, IN A SANDBOX (cutbox-door.mjs). By AI agents, Wed Nov 11 2026. No macro, syntax, notation, axiom, sorry.
-/
import Derived.Test.YtidhhlncmegjaaaGreatDoorRows
import GoSem.ClaimSeven
namespace Go.Proofs.YtidhhlncmegjaaaGreatDoor
namespace Rows

/-- THE TIED CARD OF 'laws.FnAgainDeleteGroupsRequest'. -/
def fnAgainDeleteGroupsRequestCard : Claim7 := { stood := { row := fnAgainDeleteGroupsRequestRow, standIns := [], harness := (true, "e6f519ff4d471c2bfba91c99b12c445ec77f5d58067743adb2cfe35f4f5a5f00"), looks := false }, kinds := [], alts := [], laidByText := true, laidKinds := [.sentinel], laidTests := true, laidLooks := .later }
def FnAgainDeleteGroupsRequestCardSaid : Prop := Claim7.holds Tryz.pinned (.plain (OpenSpec.ofChange fnAgainDeleteGroupsRequestSpec)) fnAgainDeleteGroupsRequestCard

/-- THE TIED CARD OF 'laws.FnCutShareGroupDescribeRequest'. -/
def fnCutShareGroupDescribeRequestCard : Claim7 := { stood := { row := fnCutShareGroupDescribeRequestRow, standIns := [], harness := (true, "e6f519ff4d471c2bfba91c99b12c445ec77f5d58067743adb2cfe35f4f5a5f00"), looks := false }, kinds := [], alts := [], laidByText := true, laidKinds := [.sentinel], laidTests := true, laidLooks := .later }
def FnCutShareGroupDescribeRequestCardSaid : Prop := Claim7.holds Tryz.pinned (.plain (OpenSpec.ofChange fnCutShareGroupDescribeRequestSpec)) fnCutShareGroupDescribeRequestCard

/-- THE TIED CARD OF 'laws.FnAgainControlledShutdownResponse'. -/
def fnAgainControlledShutdownResponseCard : Claim7 := { stood := { row := fnAgainControlledShutdownResponseRow, standIns := [], harness := (true, "e6f519ff4d471c2bfba91c99b12c445ec77f5d58067743adb2cfe35f4f5a5f00"), looks := false }, kinds := [], alts := [], laidByText := true, laidKinds := [.sentinel], laidTests := true, laidLooks := .later }
def FnAgainControlledShutdownResponseCardSaid : Prop := Claim7.holds Tryz.pinned (.plain (OpenSpec.ofChange fnAgainControlledShutdownResponseSpec)) fnAgainControlledShutdownResponseCard

/-- THE SECOND FORM's CARD OF 'laws.FnAgainDeleteGroupsRequest'. -/
def fnAgainDeleteGroupsRequestUptoCard : Claim7 := { stood := { row := fnAgainDeleteGroupsRequestUptoRow, standIns := [], harness := (true, "e6f519ff4d471c2bfba91c99b12c445ec77f5d58067743adb2cfe35f4f5a5f00"), looks := false }, kinds := [], alts := [], laidByText := true, laidKinds := [.sentinel], laidTests := true, laidLooks := .later }
def FnAgainDeleteGroupsRequestUptoCardSaid : Prop := Claim7.holds Tryz.pinned (.plain (OpenSpec.upto fnAgainDeleteGroupsRequestSpec)) fnAgainDeleteGroupsRequestUptoCard

/-- THE SECOND FORM's CARD OF 'laws.FnCutShareGroupDescribeRequest'. -/
def fnCutShareGroupDescribeRequestUptoCard : Claim7 := { stood := { row := fnCutShareGroupDescribeRequestUptoRow, standIns := [], harness := (true, "e6f519ff4d471c2bfba91c99b12c445ec77f5d58067743adb2cfe35f4f5a5f00"), looks := false }, kinds := [], alts := [], laidByText := true, laidKinds := [.sentinel], laidTests := true, laidLooks := .later }
def FnCutShareGroupDescribeRequestUptoCardSaid : Prop := Claim7.holds Tryz.pinned (.plain (OpenSpec.upto fnCutShareGroupDescribeRequestSpec)) fnCutShareGroupDescribeRequestUptoCard

/-- THE SECOND FORM's CARD OF 'laws.FnAgainControlledShutdownResponse'. -/
def fnAgainControlledShutdownResponseUptoCard : Claim7 := { stood := { row := fnAgainControlledShutdownResponseUptoRow, standIns := [], harness := (true, "e6f519ff4d471c2bfba91c99b12c445ec77f5d58067743adb2cfe35f4f5a5f00"), looks := false }, kinds := [], alts := [], laidByText := true, laidKinds := [.sentinel], laidTests := true, laidLooks := .later }
def FnAgainControlledShutdownResponseUptoCardSaid : Prop := Claim7.holds Tryz.pinned (.plain (OpenSpec.upto fnAgainControlledShutdownResponseSpec)) fnAgainControlledShutdownResponseUptoCard
end Rows
end Go.Proofs.YtidhhlncmegjaaaGreatDoor
