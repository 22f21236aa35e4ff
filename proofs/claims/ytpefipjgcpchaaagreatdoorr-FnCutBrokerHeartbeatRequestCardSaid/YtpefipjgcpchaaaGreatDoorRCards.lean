/-
  DERIVED. GIVEN WITH THE SEED: THE CARDS: each row of YtpefipjgcpchaaaGreatDoorRRows.lean that lists a variable, with what it lists TIED to the program's text (the seventh form; the later family's looks); each row that meets fmt, with fmt's text TOLD by the authors' own Lean function (tested against real Go, not proved from fmt's source: count such statements apart). THE CARD IS WHAT COUNTS. Prove the row's statement (the work); the ties are given (YtpefipjgcpchaaaGreatDoorRTie.lean); close each card by the builder's one call (the guide's Derived/Test/ToyasCard.lean, 'card_holds'). Laid BY PROGRAM, IN A SANDBOX (cutbox-door.mjs). By AI agents, Wed Nov 11 2026. No macro, syntax, notation, axiom, sorry.
-/
import Derived.Test.YtpefipjgcpchaaaGreatDoorRRows
import GoSem.ClaimSeven
namespace Go.Proofs.YtpefipjgcpchaaaGreatDoorR
namespace Rows

/-- THE TIED CARD OF 'laws.FnCutBrokerHeartbeatRequest'. -/
def fnCutBrokerHeartbeatRequestCard : Claim7 := { stood := { row := fnCutBrokerHeartbeatRequestRow, standIns := [], harness := (true, "c33aa430158cdf8cd3b6697ba75a81303362a141430a92483687fbcd16c58df3"), looks := false }, kinds := [], alts := [], laidByText := true, laidKinds := [.sentinel], laidTests := true, laidLooks := .later }
def FnCutBrokerHeartbeatRequestCardSaid : Prop := Claim7.holds Tryz.pinned (.plain (OpenSpec.ofChange fnCutBrokerHeartbeatRequestSpec)) fnCutBrokerHeartbeatRequestCard

/-- THE TIED CARD OF 'laws.FnAgainEndQuorumEpochResponse'. -/
def fnAgainEndQuorumEpochResponseCard : Claim7 := { stood := { row := fnAgainEndQuorumEpochResponseRow, standIns := [], harness := (true, "c33aa430158cdf8cd3b6697ba75a81303362a141430a92483687fbcd16c58df3"), looks := false }, kinds := [], alts := [], laidByText := true, laidKinds := [.sentinel], laidTests := true, laidLooks := .later }
def FnAgainEndQuorumEpochResponseCardSaid : Prop := Claim7.holds Tryz.pinned (.plain (OpenSpec.ofChange fnAgainEndQuorumEpochResponseSpec)) fnAgainEndQuorumEpochResponseCard

/-- THE SECOND FORM's CARD OF 'laws.FnCutBrokerHeartbeatRequest'. -/
def fnCutBrokerHeartbeatRequestUptoCard : Claim7 := { stood := { row := fnCutBrokerHeartbeatRequestUptoRow, standIns := [], harness := (true, "c33aa430158cdf8cd3b6697ba75a81303362a141430a92483687fbcd16c58df3"), looks := false }, kinds := [], alts := [], laidByText := true, laidKinds := [.sentinel], laidTests := true, laidLooks := .later }
def FnCutBrokerHeartbeatRequestUptoCardSaid : Prop := Claim7.holds Tryz.pinned (.plain (OpenSpec.upto fnCutBrokerHeartbeatRequestSpec)) fnCutBrokerHeartbeatRequestUptoCard

/-- THE SECOND FORM's CARD OF 'laws.FnAgainEndQuorumEpochResponse'. -/
def fnAgainEndQuorumEpochResponseUptoCard : Claim7 := { stood := { row := fnAgainEndQuorumEpochResponseUptoRow, standIns := [], harness := (true, "c33aa430158cdf8cd3b6697ba75a81303362a141430a92483687fbcd16c58df3"), looks := false }, kinds := [], alts := [], laidByText := true, laidKinds := [.sentinel], laidTests := true, laidLooks := .later }
def FnAgainEndQuorumEpochResponseUptoCardSaid : Prop := Claim7.holds Tryz.pinned (.plain (OpenSpec.upto fnAgainEndQuorumEpochResponseSpec)) fnAgainEndQuorumEpochResponseUptoCard
end Rows
end Go.Proofs.YtpefipjgcpchaaaGreatDoorR
