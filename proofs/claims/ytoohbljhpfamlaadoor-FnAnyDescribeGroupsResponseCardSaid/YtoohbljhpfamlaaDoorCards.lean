/-
  DERIVED. GIVEN WITH THE SEED: THE CARDS: each row of YtoohbljhpfamlaaDoorRows.lean that lists a variable, with what it lists TIED to the program's text (the seventh form; the later family's looks); each row that meets fmt, with fmt's text TOLD by the authors' own Lean function (tested against real Go, not proved from fmt's source: count such statements apart). THE CARD IS WHAT COUNTS. Prove the row's statement (the work); the ties are given (YtoohbljhpfamlaaDoorTie.lean); close each card by the builder's one call (the guide's Derived/Test/ToyasCard.lean, 'card_holds'). Laid BY PROGRAM, IN A SANDBOX (cutbox-door.mjs). By AI agents, Wed Nov 11 2026. No macro, syntax, notation, axiom, sorry.
-/
import Derived.Test.YtoohbljhpfamlaaDoorRows
import GoSem.ClaimSeven
namespace Go.Proofs.YtoohbljhpfamlaaDoor
namespace Rows

/-- THE TIED CARD OF 'laws.FnAnyOffsetForLeaderEpochRequest'. -/
def fnAnyOffsetForLeaderEpochRequestCard : Claim7 := { stood := { row := fnAnyOffsetForLeaderEpochRequestRow, standIns := [], harness := (true, "2cd807245b70de5707a20c021268ee5ba8837cb4fa3099878679bce211138bfc"), looks := false }, kinds := [], alts := [], laidByText := true, laidKinds := [.sentinel], laidTests := true, laidLooks := .later }
def FnAnyOffsetForLeaderEpochRequestCardSaid : Prop := Claim7.holds Tryd.pinned (.plain (OpenSpec.ofChange fnAnyOffsetForLeaderEpochRequestSpec)) fnAnyOffsetForLeaderEpochRequestCard

/-- THE TIED CARD OF 'laws.FnAnyCreatePartitionsResponse'. -/
def fnAnyCreatePartitionsResponseCard : Claim7 := { stood := { row := fnAnyCreatePartitionsResponseRow, standIns := [], harness := (true, "2cd807245b70de5707a20c021268ee5ba8837cb4fa3099878679bce211138bfc"), looks := false }, kinds := [], alts := [], laidByText := true, laidKinds := [.sentinel], laidTests := true, laidLooks := .later }
def FnAnyCreatePartitionsResponseCardSaid : Prop := Claim7.holds Tryd.pinned (.plain (OpenSpec.ofChange fnAnyCreatePartitionsResponseSpec)) fnAnyCreatePartitionsResponseCard

/-- THE TIED CARD OF 'laws.FnAnyInitializeShareGroupStateRequest'. -/
def fnAnyInitializeShareGroupStateRequestCard : Claim7 := { stood := { row := fnAnyInitializeShareGroupStateRequestRow, standIns := [], harness := (true, "2cd807245b70de5707a20c021268ee5ba8837cb4fa3099878679bce211138bfc"), looks := false }, kinds := [], alts := [], laidByText := true, laidKinds := [.sentinel], laidTests := true, laidLooks := .later }
def FnAnyInitializeShareGroupStateRequestCardSaid : Prop := Claim7.holds Tryd.pinned (.plain (OpenSpec.ofChange fnAnyInitializeShareGroupStateRequestSpec)) fnAnyInitializeShareGroupStateRequestCard

/-- THE TIED CARD OF 'laws.FnAnyDeleteTopicsRequest'. -/
def fnAnyDeleteTopicsRequestCard : Claim7 := { stood := { row := fnAnyDeleteTopicsRequestRow, standIns := [], harness := (true, "2cd807245b70de5707a20c021268ee5ba8837cb4fa3099878679bce211138bfc"), looks := false }, kinds := [], alts := [], laidByText := true, laidKinds := [.sentinel], laidTests := true, laidLooks := .later }
def FnAnyDeleteTopicsRequestCardSaid : Prop := Claim7.holds Tryd.pinned (.plain (OpenSpec.ofChange fnAnyDeleteTopicsRequestSpec)) fnAnyDeleteTopicsRequestCard

/-- THE TIED CARD OF 'laws.FnAnyWriteTxnMarkersRequest'. -/
def fnAnyWriteTxnMarkersRequestCard : Claim7 := { stood := { row := fnAnyWriteTxnMarkersRequestRow, standIns := [], harness := (true, "2cd807245b70de5707a20c021268ee5ba8837cb4fa3099878679bce211138bfc"), looks := false }, kinds := [], alts := [], laidByText := true, laidKinds := [.sentinel], laidTests := true, laidLooks := .later }
def FnAnyWriteTxnMarkersRequestCardSaid : Prop := Claim7.holds Tryd.pinned (.plain (OpenSpec.ofChange fnAnyWriteTxnMarkersRequestSpec)) fnAnyWriteTxnMarkersRequestCard

/-- THE TIED CARD OF 'laws.FnAnyAlterShareGroupOffsetsResponse'. -/
def fnAnyAlterShareGroupOffsetsResponseCard : Claim7 := { stood := { row := fnAnyAlterShareGroupOffsetsResponseRow, standIns := [], harness := (true, "2cd807245b70de5707a20c021268ee5ba8837cb4fa3099878679bce211138bfc"), looks := false }, kinds := [], alts := [], laidByText := true, laidKinds := [.sentinel], laidTests := true, laidLooks := .later }
def FnAnyAlterShareGroupOffsetsResponseCardSaid : Prop := Claim7.holds Tryd.pinned (.plain (OpenSpec.ofChange fnAnyAlterShareGroupOffsetsResponseSpec)) fnAnyAlterShareGroupOffsetsResponseCard

/-- THE TIED CARD OF 'laws.FnAnyStopReplicaRequest'. -/
def fnAnyStopReplicaRequestCard : Claim7 := { stood := { row := fnAnyStopReplicaRequestRow, standIns := [], harness := (true, "2cd807245b70de5707a20c021268ee5ba8837cb4fa3099878679bce211138bfc"), looks := false }, kinds := [], alts := [], laidByText := true, laidKinds := [.sentinel], laidTests := true, laidLooks := .later }
def FnAnyStopReplicaRequestCardSaid : Prop := Claim7.holds Tryd.pinned (.plain (OpenSpec.ofChange fnAnyStopReplicaRequestSpec)) fnAnyStopReplicaRequestCard

/-- THE TIED CARD OF 'laws.FnAnyDescribeGroupsResponse'. -/
def fnAnyDescribeGroupsResponseCard : Claim7 := { stood := { row := fnAnyDescribeGroupsResponseRow, standIns := [], harness := (true, "2cd807245b70de5707a20c021268ee5ba8837cb4fa3099878679bce211138bfc"), looks := false }, kinds := [], alts := [], laidByText := true, laidKinds := [.sentinel], laidTests := true, laidLooks := .later }
def FnAnyDescribeGroupsResponseCardSaid : Prop := Claim7.holds Tryd.pinned (.plain (OpenSpec.ofChange fnAnyDescribeGroupsResponseSpec)) fnAnyDescribeGroupsResponseCard

/-- THE SECOND FORM's CARD OF 'laws.FnAnyOffsetForLeaderEpochRequest'. -/
def fnAnyOffsetForLeaderEpochRequestUptoCard : Claim7 := { stood := { row := fnAnyOffsetForLeaderEpochRequestUptoRow, standIns := [], harness := (true, "2cd807245b70de5707a20c021268ee5ba8837cb4fa3099878679bce211138bfc"), looks := false }, kinds := [], alts := [], laidByText := true, laidKinds := [.sentinel], laidTests := true, laidLooks := .later }
def FnAnyOffsetForLeaderEpochRequestUptoCardSaid : Prop := Claim7.holds Tryd.pinned (.plain (OpenSpec.upto fnAnyOffsetForLeaderEpochRequestSpec)) fnAnyOffsetForLeaderEpochRequestUptoCard

/-- THE SECOND FORM's CARD OF 'laws.FnAnyCreatePartitionsResponse'. -/
def fnAnyCreatePartitionsResponseUptoCard : Claim7 := { stood := { row := fnAnyCreatePartitionsResponseUptoRow, standIns := [], harness := (true, "2cd807245b70de5707a20c021268ee5ba8837cb4fa3099878679bce211138bfc"), looks := false }, kinds := [], alts := [], laidByText := true, laidKinds := [.sentinel], laidTests := true, laidLooks := .later }
def FnAnyCreatePartitionsResponseUptoCardSaid : Prop := Claim7.holds Tryd.pinned (.plain (OpenSpec.upto fnAnyCreatePartitionsResponseSpec)) fnAnyCreatePartitionsResponseUptoCard

/-- THE SECOND FORM's CARD OF 'laws.FnAnyInitializeShareGroupStateRequest'. -/
def fnAnyInitializeShareGroupStateRequestUptoCard : Claim7 := { stood := { row := fnAnyInitializeShareGroupStateRequestUptoRow, standIns := [], harness := (true, "2cd807245b70de5707a20c021268ee5ba8837cb4fa3099878679bce211138bfc"), looks := false }, kinds := [], alts := [], laidByText := true, laidKinds := [.sentinel], laidTests := true, laidLooks := .later }
def FnAnyInitializeShareGroupStateRequestUptoCardSaid : Prop := Claim7.holds Tryd.pinned (.plain (OpenSpec.upto fnAnyInitializeShareGroupStateRequestSpec)) fnAnyInitializeShareGroupStateRequestUptoCard

/-- THE SECOND FORM's CARD OF 'laws.FnAnyDeleteTopicsRequest'. -/
def fnAnyDeleteTopicsRequestUptoCard : Claim7 := { stood := { row := fnAnyDeleteTopicsRequestUptoRow, standIns := [], harness := (true, "2cd807245b70de5707a20c021268ee5ba8837cb4fa3099878679bce211138bfc"), looks := false }, kinds := [], alts := [], laidByText := true, laidKinds := [.sentinel], laidTests := true, laidLooks := .later }
def FnAnyDeleteTopicsRequestUptoCardSaid : Prop := Claim7.holds Tryd.pinned (.plain (OpenSpec.upto fnAnyDeleteTopicsRequestSpec)) fnAnyDeleteTopicsRequestUptoCard

/-- THE SECOND FORM's CARD OF 'laws.FnAnyWriteTxnMarkersRequest'. -/
def fnAnyWriteTxnMarkersRequestUptoCard : Claim7 := { stood := { row := fnAnyWriteTxnMarkersRequestUptoRow, standIns := [], harness := (true, "2cd807245b70de5707a20c021268ee5ba8837cb4fa3099878679bce211138bfc"), looks := false }, kinds := [], alts := [], laidByText := true, laidKinds := [.sentinel], laidTests := true, laidLooks := .later }
def FnAnyWriteTxnMarkersRequestUptoCardSaid : Prop := Claim7.holds Tryd.pinned (.plain (OpenSpec.upto fnAnyWriteTxnMarkersRequestSpec)) fnAnyWriteTxnMarkersRequestUptoCard

/-- THE SECOND FORM's CARD OF 'laws.FnAnyAlterShareGroupOffsetsResponse'. -/
def fnAnyAlterShareGroupOffsetsResponseUptoCard : Claim7 := { stood := { row := fnAnyAlterShareGroupOffsetsResponseUptoRow, standIns := [], harness := (true, "2cd807245b70de5707a20c021268ee5ba8837cb4fa3099878679bce211138bfc"), looks := false }, kinds := [], alts := [], laidByText := true, laidKinds := [.sentinel], laidTests := true, laidLooks := .later }
def FnAnyAlterShareGroupOffsetsResponseUptoCardSaid : Prop := Claim7.holds Tryd.pinned (.plain (OpenSpec.upto fnAnyAlterShareGroupOffsetsResponseSpec)) fnAnyAlterShareGroupOffsetsResponseUptoCard

/-- THE SECOND FORM's CARD OF 'laws.FnAnyStopReplicaRequest'. -/
def fnAnyStopReplicaRequestUptoCard : Claim7 := { stood := { row := fnAnyStopReplicaRequestUptoRow, standIns := [], harness := (true, "2cd807245b70de5707a20c021268ee5ba8837cb4fa3099878679bce211138bfc"), looks := false }, kinds := [], alts := [], laidByText := true, laidKinds := [.sentinel], laidTests := true, laidLooks := .later }
def FnAnyStopReplicaRequestUptoCardSaid : Prop := Claim7.holds Tryd.pinned (.plain (OpenSpec.upto fnAnyStopReplicaRequestSpec)) fnAnyStopReplicaRequestUptoCard

/-- THE SECOND FORM's CARD OF 'laws.FnAnyDescribeGroupsResponse'. -/
def fnAnyDescribeGroupsResponseUptoCard : Claim7 := { stood := { row := fnAnyDescribeGroupsResponseUptoRow, standIns := [], harness := (true, "2cd807245b70de5707a20c021268ee5ba8837cb4fa3099878679bce211138bfc"), looks := false }, kinds := [], alts := [], laidByText := true, laidKinds := [.sentinel], laidTests := true, laidLooks := .later }
def FnAnyDescribeGroupsResponseUptoCardSaid : Prop := Claim7.holds Tryd.pinned (.plain (OpenSpec.upto fnAnyDescribeGroupsResponseSpec)) fnAnyDescribeGroupsResponseUptoCard
end Rows
end Go.Proofs.YtoohbljhpfamlaaDoor
