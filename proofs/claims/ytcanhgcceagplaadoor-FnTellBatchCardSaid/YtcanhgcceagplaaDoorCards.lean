/-
  DERIVED. GIVEN WITH THE SEED: THE CARDS: each row of YtcanhgcceagplaaDoorRows.lean that lists a variable, with what it lists TIED to the program's text (the seventh form; the later family's looks); each row that meets fmt, with fmt's text TOLD by the authors' own Lean function (tested against real Go, not proved from fmt's source: count such statements apart). THE CARD IS WHAT COUNTS. Prove the row's statement (the work); the ties are given (YtcanhgcceagplaaDoorTie.lean); close each card by the builder's one call (the guide's Derived/Test/ToyasCard.lean, 'card_holds'). Laid BY PROGRAM, IN A SANDBOX (cutbox-door.mjs). By AI agents, Wed Nov 11 2026. No macro, syntax, notation, axiom, sorry.
-/
import Derived.Test.YtcanhgcceagplaaDoorRows
import GoSem.ClaimSeven
namespace Go.Proofs.YtcanhgcceagplaaDoor
namespace Rows

/-- THE TIED CARD OF 'laws.FnTellBatch'. -/
def fnTellBatchCard : Claim7 := { stood := { row := fnTellBatchRow, standIns := [], harness := (true, "131a643ab6439fa613feeabb3f0803e0da5dd867fcb9e6f549be8caa04e9b2ee"), looks := false }, kinds := [], alts := [], laidByText := true, laidKinds := [.sentinel], laidTests := true, laidLooks := .later }
def FnTellBatchCardSaid : Prop := Claim7.holds Tryd.pinned (.plain (OpenSpec.ofChange fnTellBatchSpec)) fnTellBatchCard

/-- THE TIED CARD OF 'laws.FnParseQuotasMatchType'. -/
def fnParseQuotasMatchTypeCard : Claim7 := { stood := { row := fnParseQuotasMatchTypeRow, standIns := [], harness := (true, "131a643ab6439fa613feeabb3f0803e0da5dd867fcb9e6f549be8caa04e9b2ee"), looks := false }, kinds := [], alts := [], laidByText := true, laidKinds := [.data, .listed, .data, .pinned, .pinned], laidTests := true, laidLooks := .later }
def FnParseQuotasMatchTypeCardSaid : Prop := Claim7.holds Tryd.pinned (.plain (OpenSpec.ofChange fnParseQuotasMatchTypeSpec)) fnParseQuotasMatchTypeCard

/-- THE TIED CARD OF 'laws.FnConfigResourceTypeText'. -/
def fnConfigResourceTypeTextCard : Claim7 := { stood := { row := fnConfigResourceTypeTextRow, standIns := [], harness := (true, "131a643ab6439fa613feeabb3f0803e0da5dd867fcb9e6f549be8caa04e9b2ee"), looks := false }, kinds := [], alts := [], laidByText := true, laidKinds := [.data, .listed, .data, .pinned, .pinned], laidTests := true, laidLooks := .later }
def FnConfigResourceTypeTextCardSaid : Prop := Claim7.holds Tryd.pinned (.plain (OpenSpec.ofChange fnConfigResourceTypeTextSpec)) fnConfigResourceTypeTextCard

/-- THE SECOND FORM's CARD OF 'laws.FnTellBatch'. -/
def fnTellBatchUptoCard : Claim7 := { stood := { row := fnTellBatchUptoRow, standIns := [], harness := (true, "131a643ab6439fa613feeabb3f0803e0da5dd867fcb9e6f549be8caa04e9b2ee"), looks := false }, kinds := [], alts := [], laidByText := true, laidKinds := [.sentinel], laidTests := true, laidLooks := .later }
def FnTellBatchUptoCardSaid : Prop := Claim7.holds Tryd.pinned (.plain (OpenSpec.upto fnTellBatchSpec)) fnTellBatchUptoCard

/-- THE SECOND FORM's CARD OF 'laws.FnParseQuotasMatchType'. -/
def fnParseQuotasMatchTypeUptoCard : Claim7 := { stood := { row := fnParseQuotasMatchTypeUptoRow, standIns := [], harness := (true, "131a643ab6439fa613feeabb3f0803e0da5dd867fcb9e6f549be8caa04e9b2ee"), looks := false }, kinds := [], alts := [], laidByText := true, laidKinds := [.data, .listed, .data, .pinned, .pinned], laidTests := true, laidLooks := .later }
def FnParseQuotasMatchTypeUptoCardSaid : Prop := Claim7.holds Tryd.pinned (.plain (OpenSpec.upto fnParseQuotasMatchTypeSpec)) fnParseQuotasMatchTypeUptoCard

/-- THE SECOND FORM's CARD OF 'laws.FnConfigResourceTypeText'. -/
def fnConfigResourceTypeTextUptoCard : Claim7 := { stood := { row := fnConfigResourceTypeTextUptoRow, standIns := [], harness := (true, "131a643ab6439fa613feeabb3f0803e0da5dd867fcb9e6f549be8caa04e9b2ee"), looks := false }, kinds := [], alts := [], laidByText := true, laidKinds := [.data, .listed, .data, .pinned, .pinned], laidTests := true, laidLooks := .later }
def FnConfigResourceTypeTextUptoCardSaid : Prop := Claim7.holds Tryd.pinned (.plain (OpenSpec.upto fnConfigResourceTypeTextSpec)) fnConfigResourceTypeTextUptoCard
end Rows
end Go.Proofs.YtcanhgcceagplaaDoor
