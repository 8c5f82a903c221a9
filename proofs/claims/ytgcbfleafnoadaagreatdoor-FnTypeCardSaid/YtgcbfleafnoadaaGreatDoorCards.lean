/-
  DERIVED. GIVEN WITH THE SEED: THE CARDS: each row of YtgcbfleafnoadaaGreatDoorRows.lean that lists a variable, with what it lists TIED to the program's text (the seventh form; the later family's looks); each row that meets fmt, with fmt's text TOLD by the authors' own Lean function (tested against real Go, not proved from fmt's source: count such statements apart). THE CARD IS WHAT COUNTS. Prove the row's statement (the work); the ties are given (YtgcbfleafnoadaaGreatDoorTie.lean); close each card by the builder's one call (the guide's Derived/Test/ToyasCard.lean, 'card_holds'). Laid BY PROGRAM, IN A SANDBOX (cutbox-door.mjs). By AI agents, Wed Nov 11 2026. No macro, syntax, notation, axiom, sorry.
-/
import Derived.Test.YtgcbfleafnoadaaGreatDoorRows
import GoSem.ClaimSeven
namespace Go.Proofs.YtgcbfleafnoadaaGreatDoor
namespace Rows

/-- THE TIED CARD OF 'laws.FnBaseAndNameSpec'. -/
def fnBaseAndNameSpecCard : Claim7 := { stood := { row := fnBaseAndNameSpecRow, standIns := [], harness := (true, "d3ba646d503fdb6566154b227e9583b409f64c94c60be158b0dfc53186f7cc2c"), looks := false }, kinds := [], alts := [], laidByText := true, laidKinds := [.data, .pinned, .pinned], laidTests := true, laidLooks := .later }
def FnBaseAndNameSpecCardSaid : Prop := Claim7.holds Tryz.pinned (.plain (OpenSpec.ofChange fnBaseAndNameSpecSpec)) fnBaseAndNameSpecCard

/-- THE TIED CARD OF 'laws.FnOutputFormat'. -/
def fnOutputFormatCard : Claim7 := { stood := { row := fnOutputFormatRow, standIns := [], harness := (true, "d3ba646d503fdb6566154b227e9583b409f64c94c60be158b0dfc53186f7cc2c"), looks := false }, kinds := [], alts := [], laidByText := true, laidKinds := [.data, .pinned, .pinned], laidTests := true, laidLooks := .later }
def FnOutputFormatCardSaid : Prop := Claim7.holds Tryz.pinned (.plain (OpenSpec.ofChange fnOutputFormatSpec)) fnOutputFormatCard

/-- THE TIED CARD OF 'laws.FnParse'. -/
def fnParseCard : Claim7 := { stood := { row := fnParseRow, standIns := [], harness := (true, "d3ba646d503fdb6566154b227e9583b409f64c94c60be158b0dfc53186f7cc2c"), looks := false }, kinds := [], alts := [], laidByText := true, laidKinds := [.data, .pinned, .pinned], laidTests := true, laidLooks := .later }
def FnParseCardSaid : Prop := Claim7.holds Tryz.pinned (.plain (OpenSpec.ofChange fnParseSpec)) fnParseCard

/-- THE TIED CARD OF 'laws.FnPathBefore'. -/
def fnPathBeforeCard : Claim7 := { stood := { row := fnPathBeforeRow, standIns := [], harness := (true, "d3ba646d503fdb6566154b227e9583b409f64c94c60be158b0dfc53186f7cc2c"), looks := false }, kinds := [], alts := [], laidByText := true, laidKinds := [.data, .pinned, .pinned], laidTests := true, laidLooks := .later }
def FnPathBeforeCardSaid : Prop := Claim7.holds Tryz.pinned (.plain (OpenSpec.ofChange fnPathBeforeSpec)) fnPathBeforeCard

/-- THE TIED CARD OF 'laws.FnPathNoLang'. -/
def fnPathNoLangCard : Claim7 := { stood := { row := fnPathNoLangRow, standIns := [], harness := (true, "d3ba646d503fdb6566154b227e9583b409f64c94c60be158b0dfc53186f7cc2c"), looks := false }, kinds := [], alts := [], laidByText := true, laidKinds := [.data, .pinned, .pinned], laidTests := true, laidLooks := .later }
def FnPathNoLangCardSaid : Prop := Claim7.holds Tryz.pinned (.plain (OpenSpec.ofChange fnPathNoLangSpec)) fnPathNoLangCard

/-- THE TIED CARD OF 'laws.FnType'. -/
def fnTypeCard : Claim7 := { stood := { row := fnTypeRow, standIns := [], harness := (true, "d3ba646d503fdb6566154b227e9583b409f64c94c60be158b0dfc53186f7cc2c"), looks := false }, kinds := [], alts := [], laidByText := true, laidKinds := [.data, .pinned, .pinned], laidTests := true, laidLooks := .later }
def FnTypeCardSaid : Prop := Claim7.holds Tryz.pinned (.plain (OpenSpec.ofChange fnTypeSpec)) fnTypeCard

/-- THE TIED CARD OF 'laws.FnUnnormalizedWords'. -/
def fnUnnormalizedWordsCard : Claim7 := { stood := { row := fnUnnormalizedWordsRow, standIns := [], harness := (true, "d3ba646d503fdb6566154b227e9583b409f64c94c60be158b0dfc53186f7cc2c"), looks := false }, kinds := [], alts := [], laidByText := true, laidKinds := [.data, .pinned, .pinned], laidTests := true, laidLooks := .later }
def FnUnnormalizedWordsCardSaid : Prop := Claim7.holds Tryz.pinned (.plain (OpenSpec.ofChange fnUnnormalizedWordsSpec)) fnUnnormalizedWordsCard

/-- THE TIED CARD OF 'laws.FnForTypeNames'. -/
def fnForTypeNamesCard : Claim7 := { stood := { row := fnForTypeNamesRow, standIns := [], harness := (true, "d3ba646d503fdb6566154b227e9583b409f64c94c60be158b0dfc53186f7cc2c"), looks := false }, kinds := [], alts := [], laidByText := true, laidKinds := [.data, .pinned, .pinned], laidTests := true, laidLooks := .later }
def FnForTypeNamesCardSaid : Prop := Claim7.holds Tryz.pinned (.plain (OpenSpec.ofChange fnForTypeNamesSpec)) fnForTypeNamesCard

/-- THE TIED CARD OF 'laws.FnForTypeSorts'. -/
def fnForTypeSortsCard : Claim7 := { stood := { row := fnForTypeSortsRow, standIns := [], harness := (true, "d3ba646d503fdb6566154b227e9583b409f64c94c60be158b0dfc53186f7cc2c"), looks := false }, kinds := [], alts := [], laidByText := true, laidKinds := [.data, .pinned, .pinned], laidTests := true, laidLooks := .later }
def FnForTypeSortsCardSaid : Prop := Claim7.holds Tryz.pinned (.plain (OpenSpec.ofChange fnForTypeSortsSpec)) fnForTypeSortsCard

/-- THE TIED CARD OF 'laws.FnTrimmedNames'. -/
def fnTrimmedNamesCard : Claim7 := { stood := { row := fnTrimmedNamesRow, standIns := [], harness := (true, "d3ba646d503fdb6566154b227e9583b409f64c94c60be158b0dfc53186f7cc2c"), looks := false }, kinds := [], alts := [], laidByText := true, laidKinds := [.data, .pinned, .pinned], laidTests := true, laidLooks := .later }
def FnTrimmedNamesCardSaid : Prop := Claim7.holds Tryz.pinned (.plain (OpenSpec.ofChange fnTrimmedNamesSpec)) fnTrimmedNamesCard

/-- THE TIED CARD OF 'laws.FnTrimmedSorts'. -/
def fnTrimmedSortsCard : Claim7 := { stood := { row := fnTrimmedSortsRow, standIns := [], harness := (true, "d3ba646d503fdb6566154b227e9583b409f64c94c60be158b0dfc53186f7cc2c"), looks := false }, kinds := [], alts := [], laidByText := true, laidKinds := [.data, .pinned, .pinned], laidTests := true, laidLooks := .later }
def FnTrimmedSortsCardSaid : Prop := Claim7.holds Tryz.pinned (.plain (OpenSpec.ofChange fnTrimmedSortsSpec)) fnTrimmedSortsCard

/-- THE TIED CARD OF 'laws.FnResourceWords'. -/
def fnResourceWordsCard : Claim7 := { stood := { row := fnResourceWordsRow, standIns := [], harness := (true, "d3ba646d503fdb6566154b227e9583b409f64c94c60be158b0dfc53186f7cc2c"), looks := false }, kinds := [], alts := [], laidByText := true, laidKinds := [.data, .pinned, .pinned], laidTests := true, laidLooks := .later }
def FnResourceWordsCardSaid : Prop := Claim7.holds Tryz.pinned (.plain (OpenSpec.ofChange fnResourceWordsSpec)) fnResourceWordsCard

/-- THE SECOND FORM's CARD OF 'laws.FnBaseAndNameSpec'. -/
def fnBaseAndNameSpecUptoCard : Claim7 := { stood := { row := fnBaseAndNameSpecUptoRow, standIns := [], harness := (true, "d3ba646d503fdb6566154b227e9583b409f64c94c60be158b0dfc53186f7cc2c"), looks := false }, kinds := [], alts := [], laidByText := true, laidKinds := [.data, .pinned, .pinned], laidTests := true, laidLooks := .later }
def FnBaseAndNameSpecUptoCardSaid : Prop := Claim7.holds Tryz.pinned (.plain (OpenSpec.upto fnBaseAndNameSpecSpec)) fnBaseAndNameSpecUptoCard

/-- THE SECOND FORM's CARD OF 'laws.FnOutputFormat'. -/
def fnOutputFormatUptoCard : Claim7 := { stood := { row := fnOutputFormatUptoRow, standIns := [], harness := (true, "d3ba646d503fdb6566154b227e9583b409f64c94c60be158b0dfc53186f7cc2c"), looks := false }, kinds := [], alts := [], laidByText := true, laidKinds := [.data, .pinned, .pinned], laidTests := true, laidLooks := .later }
def FnOutputFormatUptoCardSaid : Prop := Claim7.holds Tryz.pinned (.plain (OpenSpec.upto fnOutputFormatSpec)) fnOutputFormatUptoCard

/-- THE SECOND FORM's CARD OF 'laws.FnParse'. -/
def fnParseUptoCard : Claim7 := { stood := { row := fnParseUptoRow, standIns := [], harness := (true, "d3ba646d503fdb6566154b227e9583b409f64c94c60be158b0dfc53186f7cc2c"), looks := false }, kinds := [], alts := [], laidByText := true, laidKinds := [.data, .pinned, .pinned], laidTests := true, laidLooks := .later }
def FnParseUptoCardSaid : Prop := Claim7.holds Tryz.pinned (.plain (OpenSpec.upto fnParseSpec)) fnParseUptoCard

/-- THE SECOND FORM's CARD OF 'laws.FnPathBefore'. -/
def fnPathBeforeUptoCard : Claim7 := { stood := { row := fnPathBeforeUptoRow, standIns := [], harness := (true, "d3ba646d503fdb6566154b227e9583b409f64c94c60be158b0dfc53186f7cc2c"), looks := false }, kinds := [], alts := [], laidByText := true, laidKinds := [.data, .pinned, .pinned], laidTests := true, laidLooks := .later }
def FnPathBeforeUptoCardSaid : Prop := Claim7.holds Tryz.pinned (.plain (OpenSpec.upto fnPathBeforeSpec)) fnPathBeforeUptoCard

/-- THE SECOND FORM's CARD OF 'laws.FnPathNoLang'. -/
def fnPathNoLangUptoCard : Claim7 := { stood := { row := fnPathNoLangUptoRow, standIns := [], harness := (true, "d3ba646d503fdb6566154b227e9583b409f64c94c60be158b0dfc53186f7cc2c"), looks := false }, kinds := [], alts := [], laidByText := true, laidKinds := [.data, .pinned, .pinned], laidTests := true, laidLooks := .later }
def FnPathNoLangUptoCardSaid : Prop := Claim7.holds Tryz.pinned (.plain (OpenSpec.upto fnPathNoLangSpec)) fnPathNoLangUptoCard

/-- THE SECOND FORM's CARD OF 'laws.FnType'. -/
def fnTypeUptoCard : Claim7 := { stood := { row := fnTypeUptoRow, standIns := [], harness := (true, "d3ba646d503fdb6566154b227e9583b409f64c94c60be158b0dfc53186f7cc2c"), looks := false }, kinds := [], alts := [], laidByText := true, laidKinds := [.data, .pinned, .pinned], laidTests := true, laidLooks := .later }
def FnTypeUptoCardSaid : Prop := Claim7.holds Tryz.pinned (.plain (OpenSpec.upto fnTypeSpec)) fnTypeUptoCard

/-- THE SECOND FORM's CARD OF 'laws.FnUnnormalizedWords'. -/
def fnUnnormalizedWordsUptoCard : Claim7 := { stood := { row := fnUnnormalizedWordsUptoRow, standIns := [], harness := (true, "d3ba646d503fdb6566154b227e9583b409f64c94c60be158b0dfc53186f7cc2c"), looks := false }, kinds := [], alts := [], laidByText := true, laidKinds := [.data, .pinned, .pinned], laidTests := true, laidLooks := .later }
def FnUnnormalizedWordsUptoCardSaid : Prop := Claim7.holds Tryz.pinned (.plain (OpenSpec.upto fnUnnormalizedWordsSpec)) fnUnnormalizedWordsUptoCard

/-- THE SECOND FORM's CARD OF 'laws.FnForTypeNames'. -/
def fnForTypeNamesUptoCard : Claim7 := { stood := { row := fnForTypeNamesUptoRow, standIns := [], harness := (true, "d3ba646d503fdb6566154b227e9583b409f64c94c60be158b0dfc53186f7cc2c"), looks := false }, kinds := [], alts := [], laidByText := true, laidKinds := [.data, .pinned, .pinned], laidTests := true, laidLooks := .later }
def FnForTypeNamesUptoCardSaid : Prop := Claim7.holds Tryz.pinned (.plain (OpenSpec.upto fnForTypeNamesSpec)) fnForTypeNamesUptoCard

/-- THE SECOND FORM's CARD OF 'laws.FnForTypeSorts'. -/
def fnForTypeSortsUptoCard : Claim7 := { stood := { row := fnForTypeSortsUptoRow, standIns := [], harness := (true, "d3ba646d503fdb6566154b227e9583b409f64c94c60be158b0dfc53186f7cc2c"), looks := false }, kinds := [], alts := [], laidByText := true, laidKinds := [.data, .pinned, .pinned], laidTests := true, laidLooks := .later }
def FnForTypeSortsUptoCardSaid : Prop := Claim7.holds Tryz.pinned (.plain (OpenSpec.upto fnForTypeSortsSpec)) fnForTypeSortsUptoCard

/-- THE SECOND FORM's CARD OF 'laws.FnTrimmedNames'. -/
def fnTrimmedNamesUptoCard : Claim7 := { stood := { row := fnTrimmedNamesUptoRow, standIns := [], harness := (true, "d3ba646d503fdb6566154b227e9583b409f64c94c60be158b0dfc53186f7cc2c"), looks := false }, kinds := [], alts := [], laidByText := true, laidKinds := [.data, .pinned, .pinned], laidTests := true, laidLooks := .later }
def FnTrimmedNamesUptoCardSaid : Prop := Claim7.holds Tryz.pinned (.plain (OpenSpec.upto fnTrimmedNamesSpec)) fnTrimmedNamesUptoCard

/-- THE SECOND FORM's CARD OF 'laws.FnTrimmedSorts'. -/
def fnTrimmedSortsUptoCard : Claim7 := { stood := { row := fnTrimmedSortsUptoRow, standIns := [], harness := (true, "d3ba646d503fdb6566154b227e9583b409f64c94c60be158b0dfc53186f7cc2c"), looks := false }, kinds := [], alts := [], laidByText := true, laidKinds := [.data, .pinned, .pinned], laidTests := true, laidLooks := .later }
def FnTrimmedSortsUptoCardSaid : Prop := Claim7.holds Tryz.pinned (.plain (OpenSpec.upto fnTrimmedSortsSpec)) fnTrimmedSortsUptoCard

/-- THE SECOND FORM's CARD OF 'laws.FnResourceWords'. -/
def fnResourceWordsUptoCard : Claim7 := { stood := { row := fnResourceWordsUptoRow, standIns := [], harness := (true, "d3ba646d503fdb6566154b227e9583b409f64c94c60be158b0dfc53186f7cc2c"), looks := false }, kinds := [], alts := [], laidByText := true, laidKinds := [.data, .pinned, .pinned], laidTests := true, laidLooks := .later }
def FnResourceWordsUptoCardSaid : Prop := Claim7.holds Tryz.pinned (.plain (OpenSpec.upto fnResourceWordsSpec)) fnResourceWordsUptoCard
end Rows
end Go.Proofs.YtgcbfleafnoadaaGreatDoor
