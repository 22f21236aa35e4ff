/-
  DERIVED. GIVEN WITH THE SEED: THE CARDS: each row of YthlfepgcjomhpaaDoorRows.lean that lists a variable, with what it lists TIED to the program's text (the seventh form; the later family's looks); each row that meets fmt, with fmt's text TOLD by the authors' own Lean function (tested against real Go, not proved from fmt's source: count such statements apart). THE CARD IS WHAT COUNTS. Prove the row's statement (the work); the ties are given (YthlfepgcjomhpaaDoorTie.lean); close each card by the builder's one call (the guide's Derived/Test/ToyasCard.lean, 'card_holds'). Laid BY PROGRAM, IN A SANDBOX (cutbox-door.mjs). By AI agents, Wed Nov 11 2026. No macro, syntax, notation, axiom, sorry.
-/
import Derived.Test.YthlfepgcjomhpaaDoorRows
import GoSem.ClaimSeven
namespace Go.Proofs.YthlfepgcjomhpaaDoor
namespace Rows

/-- THE TIED CARD OF 'laws.FnParseQuotasMatchType'. -/
def fnParseQuotasMatchTypeCard : Claim7 := { stood := { row := fnParseQuotasMatchTypeRow, standIns := [], harness := (true, "64a143cdc708dae2d94bb95a8bbaa6dcbf155dbb7c75d46d390be2e1e8abb0a4"), looks := false }, kinds := [], alts := [], laidByText := true, laidKinds := [.data, .listed, .data, .pinned, .pinned], laidTests := true, laidLooks := .later }
def FnParseQuotasMatchTypeCardSaid : Prop := Claim7.holds Tryd.pinned (.plain (OpenSpec.ofChange fnParseQuotasMatchTypeSpec)) fnParseQuotasMatchTypeCard

/-- THE TIED CARD OF 'laws.FnConfigResourceTypeText'. -/
def fnConfigResourceTypeTextCard : Claim7 := { stood := { row := fnConfigResourceTypeTextRow, standIns := [], harness := (true, "64a143cdc708dae2d94bb95a8bbaa6dcbf155dbb7c75d46d390be2e1e8abb0a4"), looks := false }, kinds := [], alts := [], laidByText := true, laidKinds := [.data, .listed, .data, .pinned, .pinned], laidTests := true, laidLooks := .later }
def FnConfigResourceTypeTextCardSaid : Prop := Claim7.holds Tryd.pinned (.plain (OpenSpec.ofChange fnConfigResourceTypeTextSpec)) fnConfigResourceTypeTextCard

/-- THE SECOND FORM's CARD OF 'laws.FnParseQuotasMatchType'. -/
def fnParseQuotasMatchTypeUptoCard : Claim7 := { stood := { row := fnParseQuotasMatchTypeUptoRow, standIns := [], harness := (true, "64a143cdc708dae2d94bb95a8bbaa6dcbf155dbb7c75d46d390be2e1e8abb0a4"), looks := false }, kinds := [], alts := [], laidByText := true, laidKinds := [.data, .listed, .data, .pinned, .pinned], laidTests := true, laidLooks := .later }
def FnParseQuotasMatchTypeUptoCardSaid : Prop := Claim7.holds Tryd.pinned (.plain (OpenSpec.upto fnParseQuotasMatchTypeSpec)) fnParseQuotasMatchTypeUptoCard

/-- THE SECOND FORM's CARD OF 'laws.FnConfigResourceTypeText'. -/
def fnConfigResourceTypeTextUptoCard : Claim7 := { stood := { row := fnConfigResourceTypeTextUptoRow, standIns := [], harness := (true, "64a143cdc708dae2d94bb95a8bbaa6dcbf155dbb7c75d46d390be2e1e8abb0a4"), looks := false }, kinds := [], alts := [], laidByText := true, laidKinds := [.data, .listed, .data, .pinned, .pinned], laidTests := true, laidLooks := .later }
def FnConfigResourceTypeTextUptoCardSaid : Prop := Claim7.holds Tryd.pinned (.plain (OpenSpec.upto fnConfigResourceTypeTextSpec)) fnConfigResourceTypeTextUptoCard
end Rows
end Go.Proofs.YthlfepgcjomhpaaDoor
