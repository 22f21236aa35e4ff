/-
  DERIVED. GIVEN WITH THE SEED: THE CARDS: each row of YtjphodjbflgbaaaDoorRows.lean that lists a variable, with what it lists TIED to the program's text (the seventh form; the later family's looks); each row that meets fmt, with fmt's text TOLD by the authors' own Lean function (tested against real Go, not proved from fmt's source: count such statements apart). THE CARD IS WHAT COUNTS. Prove the row's statement (the work); the ties are given (YtjphodjbflgbaaaDoorTie.lean); close each card by the builder's one call (the guide's Derived/Test/ToyasCard.lean, 'card_holds'). Laid BY PROGRAM, IN A SANDBOX (cutbox-door.mjs). By AI agents, Wed Nov 11 2026. No macro, syntax, notation, axiom, sorry.
-/
import Derived.Test.YtjphodjbflgbaaaDoorRows
import GoSem.ClaimSeven
namespace Go.Proofs.YtjphodjbflgbaaaDoor
namespace Rows

/-- THE TIED CARD OF 'laws.FnAgainGetTelemetrySubscriptionsRequest'. -/
def fnAgainGetTelemetrySubscriptionsRequestCard : Claim7 := { stood := { row := fnAgainGetTelemetrySubscriptionsRequestRow, standIns := [], harness := (true, "82d013850d6faf8d87be33ffd3d3576715b300d9095d65ce8d1b749a79abcbc3"), looks := false }, kinds := [], alts := [], laidByText := true, laidKinds := [.sentinel], laidTests := true, laidLooks := .later }
def FnAgainGetTelemetrySubscriptionsRequestCardSaid : Prop := Claim7.holds Tryd.pinned (.plain (OpenSpec.ofChange fnAgainGetTelemetrySubscriptionsRequestSpec)) fnAgainGetTelemetrySubscriptionsRequestCard

/-- THE TIED CARD OF 'laws.FnAnyInitializeShareGroupStateRequest'. -/
def fnAnyInitializeShareGroupStateRequestCard : Claim7 := { stood := { row := fnAnyInitializeShareGroupStateRequestRow, standIns := [], harness := (true, "82d013850d6faf8d87be33ffd3d3576715b300d9095d65ce8d1b749a79abcbc3"), looks := false }, kinds := [], alts := [], laidByText := true, laidKinds := [.sentinel], laidTests := true, laidLooks := .later }
def FnAnyInitializeShareGroupStateRequestCardSaid : Prop := Claim7.holds Tryd.pinned (.plain (OpenSpec.ofChange fnAnyInitializeShareGroupStateRequestSpec)) fnAnyInitializeShareGroupStateRequestCard

/-- THE TIED CARD OF 'laws.FnAnyDeleteTopicsRequest'. -/
def fnAnyDeleteTopicsRequestCard : Claim7 := { stood := { row := fnAnyDeleteTopicsRequestRow, standIns := [], harness := (true, "82d013850d6faf8d87be33ffd3d3576715b300d9095d65ce8d1b749a79abcbc3"), looks := false }, kinds := [], alts := [], laidByText := true, laidKinds := [.sentinel], laidTests := true, laidLooks := .later }
def FnAnyDeleteTopicsRequestCardSaid : Prop := Claim7.holds Tryd.pinned (.plain (OpenSpec.ofChange fnAnyDeleteTopicsRequestSpec)) fnAnyDeleteTopicsRequestCard

/-- THE TIED CARD OF 'laws.FnAnyAlterShareGroupOffsetsResponse'. -/
def fnAnyAlterShareGroupOffsetsResponseCard : Claim7 := { stood := { row := fnAnyAlterShareGroupOffsetsResponseRow, standIns := [], harness := (true, "82d013850d6faf8d87be33ffd3d3576715b300d9095d65ce8d1b749a79abcbc3"), looks := false }, kinds := [], alts := [], laidByText := true, laidKinds := [.sentinel], laidTests := true, laidLooks := .later }
def FnAnyAlterShareGroupOffsetsResponseCardSaid : Prop := Claim7.holds Tryd.pinned (.plain (OpenSpec.ofChange fnAnyAlterShareGroupOffsetsResponseSpec)) fnAnyAlterShareGroupOffsetsResponseCard

/-- THE SECOND FORM's CARD OF 'laws.FnAgainGetTelemetrySubscriptionsRequest'. -/
def fnAgainGetTelemetrySubscriptionsRequestUptoCard : Claim7 := { stood := { row := fnAgainGetTelemetrySubscriptionsRequestUptoRow, standIns := [], harness := (true, "82d013850d6faf8d87be33ffd3d3576715b300d9095d65ce8d1b749a79abcbc3"), looks := false }, kinds := [], alts := [], laidByText := true, laidKinds := [.sentinel], laidTests := true, laidLooks := .later }
def FnAgainGetTelemetrySubscriptionsRequestUptoCardSaid : Prop := Claim7.holds Tryd.pinned (.plain (OpenSpec.upto fnAgainGetTelemetrySubscriptionsRequestSpec)) fnAgainGetTelemetrySubscriptionsRequestUptoCard

/-- THE SECOND FORM's CARD OF 'laws.FnAnyInitializeShareGroupStateRequest'. -/
def fnAnyInitializeShareGroupStateRequestUptoCard : Claim7 := { stood := { row := fnAnyInitializeShareGroupStateRequestUptoRow, standIns := [], harness := (true, "82d013850d6faf8d87be33ffd3d3576715b300d9095d65ce8d1b749a79abcbc3"), looks := false }, kinds := [], alts := [], laidByText := true, laidKinds := [.sentinel], laidTests := true, laidLooks := .later }
def FnAnyInitializeShareGroupStateRequestUptoCardSaid : Prop := Claim7.holds Tryd.pinned (.plain (OpenSpec.upto fnAnyInitializeShareGroupStateRequestSpec)) fnAnyInitializeShareGroupStateRequestUptoCard

/-- THE SECOND FORM's CARD OF 'laws.FnAnyDeleteTopicsRequest'. -/
def fnAnyDeleteTopicsRequestUptoCard : Claim7 := { stood := { row := fnAnyDeleteTopicsRequestUptoRow, standIns := [], harness := (true, "82d013850d6faf8d87be33ffd3d3576715b300d9095d65ce8d1b749a79abcbc3"), looks := false }, kinds := [], alts := [], laidByText := true, laidKinds := [.sentinel], laidTests := true, laidLooks := .later }
def FnAnyDeleteTopicsRequestUptoCardSaid : Prop := Claim7.holds Tryd.pinned (.plain (OpenSpec.upto fnAnyDeleteTopicsRequestSpec)) fnAnyDeleteTopicsRequestUptoCard

/-- THE SECOND FORM's CARD OF 'laws.FnAnyAlterShareGroupOffsetsResponse'. -/
def fnAnyAlterShareGroupOffsetsResponseUptoCard : Claim7 := { stood := { row := fnAnyAlterShareGroupOffsetsResponseUptoRow, standIns := [], harness := (true, "82d013850d6faf8d87be33ffd3d3576715b300d9095d65ce8d1b749a79abcbc3"), looks := false }, kinds := [], alts := [], laidByText := true, laidKinds := [.sentinel], laidTests := true, laidLooks := .later }
def FnAnyAlterShareGroupOffsetsResponseUptoCardSaid : Prop := Claim7.holds Tryd.pinned (.plain (OpenSpec.upto fnAnyAlterShareGroupOffsetsResponseSpec)) fnAnyAlterShareGroupOffsetsResponseUptoCard
end Rows
end Go.Proofs.YtjphodjbflgbaaaDoor
