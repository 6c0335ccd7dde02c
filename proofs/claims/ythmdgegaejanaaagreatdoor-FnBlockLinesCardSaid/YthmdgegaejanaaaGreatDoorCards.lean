/-
  DERIVED. GIVEN WITH THE SEED: THE CARDS: each row of YthmdgegaejanaaaGreatDoorRows.lean that lists a variable, with what it lists TIED to the program's text (the seventh form; the later family's looks); each row that meets fmt, with fmt's text TOLD by the authors' own Lean function (tested against real Go, not proved from fmt's source: count such statements apart). THE CARD IS WHAT COUNTS. Prove the row's statement (the work); the ties are given (YthmdgegaejanaaaGreatDoorTie.lean); close each card by the builder's one call (the guide's Derived/Test/ToyasCard.lean, 'card_holds'). Laid BY PROGRAM, IN A SANDBOX (cutbox-door.mjs). By AI agents, Wed Nov 11 2026. No macro, syntax, notation, axiom, sorry.
-/
import Derived.Test.YthmdgegaejanaaaGreatDoorRows
import GoSem.ClaimSeven
namespace Go.Proofs.YthmdgegaejanaaaGreatDoor
namespace Rows

/-- THE TIED CARD OF 'laws.FnBlockLines'. -/
def fnBlockLinesCard : Claim7 := { stood := { row := fnBlockLinesRow, standIns := [], harness := (true, "b5c365914a2751a207b88b954ed71cdfdefa9e9f935fd90a6fba1d77206a6500"), looks := true }, kinds := [], alts := [], laidByText := true, laidKinds := [.data, .sentinel, .pinned], laidTests := true, laidLooks := .later }
def FnBlockLinesCardSaid : Prop := Claim7.holds Tryz.pinned (.plain (OpenSpec.ofChange fnBlockLinesSpec)) fnBlockLinesCard

/-- THE TIED CARD OF 'laws.FnComments'. -/
def fnCommentsCard : Claim7 := { stood := { row := fnCommentsRow, standIns := [], harness := (true, "b5c365914a2751a207b88b954ed71cdfdefa9e9f935fd90a6fba1d77206a6500"), looks := true }, kinds := [], alts := [], laidByText := true, laidKinds := [.data, .sentinel, .pinned], laidTests := true, laidLooks := .later }
def FnCommentsCardSaid : Prop := Claim7.holds Tryz.pinned (.plain (OpenSpec.ofChange fnCommentsSpec)) fnCommentsCard

/-- THE TIED CARD OF 'laws.FnEscape'. -/
def fnEscapeCard : Claim7 := { stood := { row := fnEscapeRow, standIns := [], harness := (true, "b5c365914a2751a207b88b954ed71cdfdefa9e9f935fd90a6fba1d77206a6500"), looks := true }, kinds := [], alts := [], laidByText := true, laidKinds := [.data, .sentinel, .pinned], laidTests := true, laidLooks := .later }
def FnEscapeCardSaid : Prop := Claim7.holds Tryz.pinned (.plain (OpenSpec.ofChange fnEscapeSpec)) fnEscapeCard

/-- THE TIED CARD OF 'laws.FnNumberBent'. -/
def fnNumberBentCard : Claim7 := { stood := { row := fnNumberBentRow, standIns := [], harness := (true, "b5c365914a2751a207b88b954ed71cdfdefa9e9f935fd90a6fba1d77206a6500"), looks := true }, kinds := [], alts := [], laidByText := true, laidKinds := [.data, .sentinel, .pinned], laidTests := true, laidLooks := .later }
def FnNumberBentCardSaid : Prop := Claim7.holds Tryz.pinned (.plain (OpenSpec.ofChange fnNumberBentSpec)) fnNumberBentCard

/-- THE TIED CARD OF 'laws.FnSigns'. -/
def fnSignsCard : Claim7 := { stood := { row := fnSignsRow, standIns := [], harness := (true, "b5c365914a2751a207b88b954ed71cdfdefa9e9f935fd90a6fba1d77206a6500"), looks := true }, kinds := [], alts := [], laidByText := true, laidKinds := [.data, .sentinel, .pinned], laidTests := true, laidLooks := .later }
def FnSignsCardSaid : Prop := Claim7.holds Tryz.pinned (.plain (OpenSpec.ofChange fnSignsSpec)) fnSignsCard

/-- THE TIED CARD OF 'laws.FnStringPlain'. -/
def fnStringPlainCard : Claim7 := { stood := { row := fnStringPlainRow, standIns := [], harness := (true, "b5c365914a2751a207b88b954ed71cdfdefa9e9f935fd90a6fba1d77206a6500"), looks := true }, kinds := [], alts := [], laidByText := true, laidKinds := [.data, .sentinel, .pinned], laidTests := true, laidLooks := .later }
def FnStringPlainCardSaid : Prop := Claim7.holds Tryz.pinned (.plain (OpenSpec.ofChange fnStringPlainSpec)) fnStringPlainCard

/-- THE SECOND FORM's CARD OF 'laws.FnBlockLines'. -/
def fnBlockLinesUptoCard : Claim7 := { stood := { row := fnBlockLinesUptoRow, standIns := [], harness := (true, "b5c365914a2751a207b88b954ed71cdfdefa9e9f935fd90a6fba1d77206a6500"), looks := true }, kinds := [], alts := [], laidByText := true, laidKinds := [.data, .sentinel, .pinned], laidTests := true, laidLooks := .later }
def FnBlockLinesUptoCardSaid : Prop := Claim7.holds Tryz.pinned (.plain (OpenSpec.upto fnBlockLinesSpec)) fnBlockLinesUptoCard

/-- THE SECOND FORM's CARD OF 'laws.FnComments'. -/
def fnCommentsUptoCard : Claim7 := { stood := { row := fnCommentsUptoRow, standIns := [], harness := (true, "b5c365914a2751a207b88b954ed71cdfdefa9e9f935fd90a6fba1d77206a6500"), looks := true }, kinds := [], alts := [], laidByText := true, laidKinds := [.data, .sentinel, .pinned], laidTests := true, laidLooks := .later }
def FnCommentsUptoCardSaid : Prop := Claim7.holds Tryz.pinned (.plain (OpenSpec.upto fnCommentsSpec)) fnCommentsUptoCard

/-- THE SECOND FORM's CARD OF 'laws.FnEscape'. -/
def fnEscapeUptoCard : Claim7 := { stood := { row := fnEscapeUptoRow, standIns := [], harness := (true, "b5c365914a2751a207b88b954ed71cdfdefa9e9f935fd90a6fba1d77206a6500"), looks := true }, kinds := [], alts := [], laidByText := true, laidKinds := [.data, .sentinel, .pinned], laidTests := true, laidLooks := .later }
def FnEscapeUptoCardSaid : Prop := Claim7.holds Tryz.pinned (.plain (OpenSpec.upto fnEscapeSpec)) fnEscapeUptoCard

/-- THE SECOND FORM's CARD OF 'laws.FnNumberBent'. -/
def fnNumberBentUptoCard : Claim7 := { stood := { row := fnNumberBentUptoRow, standIns := [], harness := (true, "b5c365914a2751a207b88b954ed71cdfdefa9e9f935fd90a6fba1d77206a6500"), looks := true }, kinds := [], alts := [], laidByText := true, laidKinds := [.data, .sentinel, .pinned], laidTests := true, laidLooks := .later }
def FnNumberBentUptoCardSaid : Prop := Claim7.holds Tryz.pinned (.plain (OpenSpec.upto fnNumberBentSpec)) fnNumberBentUptoCard

/-- THE SECOND FORM's CARD OF 'laws.FnSigns'. -/
def fnSignsUptoCard : Claim7 := { stood := { row := fnSignsUptoRow, standIns := [], harness := (true, "b5c365914a2751a207b88b954ed71cdfdefa9e9f935fd90a6fba1d77206a6500"), looks := true }, kinds := [], alts := [], laidByText := true, laidKinds := [.data, .sentinel, .pinned], laidTests := true, laidLooks := .later }
def FnSignsUptoCardSaid : Prop := Claim7.holds Tryz.pinned (.plain (OpenSpec.upto fnSignsSpec)) fnSignsUptoCard

/-- THE SECOND FORM's CARD OF 'laws.FnStringPlain'. -/
def fnStringPlainUptoCard : Claim7 := { stood := { row := fnStringPlainUptoRow, standIns := [], harness := (true, "b5c365914a2751a207b88b954ed71cdfdefa9e9f935fd90a6fba1d77206a6500"), looks := true }, kinds := [], alts := [], laidByText := true, laidKinds := [.data, .sentinel, .pinned], laidTests := true, laidLooks := .later }
def FnStringPlainUptoCardSaid : Prop := Claim7.holds Tryz.pinned (.plain (OpenSpec.upto fnStringPlainSpec)) fnStringPlainUptoCard
end Rows
end Go.Proofs.YthmdgegaejanaaaGreatDoor
