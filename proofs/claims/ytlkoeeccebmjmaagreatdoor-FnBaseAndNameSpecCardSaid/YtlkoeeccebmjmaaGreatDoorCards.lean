/-
  DERIVED. GIVEN WITH THE SEED: THE CARDS: each row of YtlkoeeccebmjmaaGreatDoorRows.lean that lists a variable, with what it lists TIED to the program's text (the seventh form; the later family's looks); each row that meets fmt, with fmt's text TOLD by the authors' own Lean function (tested against real Go, not proved from fmt's source: count such statements apart). THE CARD IS WHAT COUNTS. Prove the row's statement (the work); the ties are given (YtlkoeeccebmjmaaGreatDoorTie.lean); close each card by the builder's one call (the guide's Derived/Test/ToyasCard.lean, 'card_holds'). Laid BY PROGRAM, IN A SANDBOX (cutbox-door.mjs). By AI agents, Wed Nov 11 2026. No macro, syntax, notation, axiom, sorry.
-/
import Derived.Test.YtlkoeeccebmjmaaGreatDoorRows
import GoSem.ClaimSeven
namespace Go.Proofs.YtlkoeeccebmjmaaGreatDoor
namespace Rows

/-- THE TIED CARD OF 'laws.FnBaseReTyped'. -/
def fnBaseReTypedCard : Claim7 := { stood := { row := fnBaseReTypedRow, standIns := [], harness := (true, "4ef556f0eaf86c6ba3f9210e75beeb41b1d25855c21d9b126a63307e0a0f8236"), looks := false }, kinds := [], alts := [], laidByText := true, laidKinds := [.data, .pinned, .pinned], laidTests := true, laidLooks := .later }
def FnBaseReTypedCardSaid : Prop := Claim7.holds Tryz.pinned (.plain (OpenSpec.ofChange fnBaseReTypedSpec)) fnBaseReTypedCard

/-- THE TIED CARD OF 'laws.FnBaseAndNameSpec'. -/
def fnBaseAndNameSpecCard : Claim7 := { stood := { row := fnBaseAndNameSpecRow, standIns := [], harness := (true, "4ef556f0eaf86c6ba3f9210e75beeb41b1d25855c21d9b126a63307e0a0f8236"), looks := false }, kinds := [], alts := [], laidByText := true, laidKinds := [.data, .pinned, .pinned], laidTests := true, laidLooks := .later }
def FnBaseAndNameSpecCardSaid : Prop := Claim7.holds Tryz.pinned (.plain (OpenSpec.ofChange fnBaseAndNameSpecSpec)) fnBaseAndNameSpecCard

/-- THE TIED CARD OF 'laws.FnUnnormalizedWords'. -/
def fnUnnormalizedWordsCard : Claim7 := { stood := { row := fnUnnormalizedWordsRow, standIns := [], harness := (true, "4ef556f0eaf86c6ba3f9210e75beeb41b1d25855c21d9b126a63307e0a0f8236"), looks := false }, kinds := [], alts := [], laidByText := true, laidKinds := [.data, .pinned, .pinned], laidTests := true, laidLooks := .later }
def FnUnnormalizedWordsCardSaid : Prop := Claim7.holds Tryz.pinned (.plain (OpenSpec.ofChange fnUnnormalizedWordsSpec)) fnUnnormalizedWordsCard

/-- THE TIED CARD OF 'laws.FnForTypeNames'. -/
def fnForTypeNamesCard : Claim7 := { stood := { row := fnForTypeNamesRow, standIns := [], harness := (true, "4ef556f0eaf86c6ba3f9210e75beeb41b1d25855c21d9b126a63307e0a0f8236"), looks := false }, kinds := [], alts := [], laidByText := true, laidKinds := [.data, .pinned, .pinned], laidTests := true, laidLooks := .later }
def FnForTypeNamesCardSaid : Prop := Claim7.holds Tryz.pinned (.plain (OpenSpec.ofChange fnForTypeNamesSpec)) fnForTypeNamesCard

/-- THE TIED CARD OF 'laws.FnForTypeSorts'. -/
def fnForTypeSortsCard : Claim7 := { stood := { row := fnForTypeSortsRow, standIns := [], harness := (true, "4ef556f0eaf86c6ba3f9210e75beeb41b1d25855c21d9b126a63307e0a0f8236"), looks := false }, kinds := [], alts := [], laidByText := true, laidKinds := [.data, .pinned, .pinned], laidTests := true, laidLooks := .later }
def FnForTypeSortsCardSaid : Prop := Claim7.holds Tryz.pinned (.plain (OpenSpec.ofChange fnForTypeSortsSpec)) fnForTypeSortsCard

/-- THE TIED CARD OF 'laws.FnTrimmedNames'. -/
def fnTrimmedNamesCard : Claim7 := { stood := { row := fnTrimmedNamesRow, standIns := [], harness := (true, "4ef556f0eaf86c6ba3f9210e75beeb41b1d25855c21d9b126a63307e0a0f8236"), looks := false }, kinds := [], alts := [], laidByText := true, laidKinds := [.data, .pinned, .pinned], laidTests := true, laidLooks := .later }
def FnTrimmedNamesCardSaid : Prop := Claim7.holds Tryz.pinned (.plain (OpenSpec.ofChange fnTrimmedNamesSpec)) fnTrimmedNamesCard

/-- THE TIED CARD OF 'laws.FnTrimmedSorts'. -/
def fnTrimmedSortsCard : Claim7 := { stood := { row := fnTrimmedSortsRow, standIns := [], harness := (true, "4ef556f0eaf86c6ba3f9210e75beeb41b1d25855c21d9b126a63307e0a0f8236"), looks := false }, kinds := [], alts := [], laidByText := true, laidKinds := [.data, .pinned, .pinned], laidTests := true, laidLooks := .later }
def FnTrimmedSortsCardSaid : Prop := Claim7.holds Tryz.pinned (.plain (OpenSpec.ofChange fnTrimmedSortsSpec)) fnTrimmedSortsCard

/-- THE TIED CARD OF 'laws.FnResourceWords'. -/
def fnResourceWordsCard : Claim7 := { stood := { row := fnResourceWordsRow, standIns := [], harness := (true, "4ef556f0eaf86c6ba3f9210e75beeb41b1d25855c21d9b126a63307e0a0f8236"), looks := false }, kinds := [], alts := [], laidByText := true, laidKinds := [.data, .pinned, .pinned], laidTests := true, laidLooks := .later }
def FnResourceWordsCardSaid : Prop := Claim7.holds Tryz.pinned (.plain (OpenSpec.ofChange fnResourceWordsSpec)) fnResourceWordsCard

/-- THE SECOND FORM's CARD OF 'laws.FnBaseReTyped'. -/
def fnBaseReTypedUptoCard : Claim7 := { stood := { row := fnBaseReTypedUptoRow, standIns := [], harness := (true, "4ef556f0eaf86c6ba3f9210e75beeb41b1d25855c21d9b126a63307e0a0f8236"), looks := false }, kinds := [], alts := [], laidByText := true, laidKinds := [.data, .pinned, .pinned], laidTests := true, laidLooks := .later }
def FnBaseReTypedUptoCardSaid : Prop := Claim7.holds Tryz.pinned (.plain (OpenSpec.upto fnBaseReTypedSpec)) fnBaseReTypedUptoCard

/-- THE SECOND FORM's CARD OF 'laws.FnBaseAndNameSpec'. -/
def fnBaseAndNameSpecUptoCard : Claim7 := { stood := { row := fnBaseAndNameSpecUptoRow, standIns := [], harness := (true, "4ef556f0eaf86c6ba3f9210e75beeb41b1d25855c21d9b126a63307e0a0f8236"), looks := false }, kinds := [], alts := [], laidByText := true, laidKinds := [.data, .pinned, .pinned], laidTests := true, laidLooks := .later }
def FnBaseAndNameSpecUptoCardSaid : Prop := Claim7.holds Tryz.pinned (.plain (OpenSpec.upto fnBaseAndNameSpecSpec)) fnBaseAndNameSpecUptoCard

/-- THE SECOND FORM's CARD OF 'laws.FnUnnormalizedWords'. -/
def fnUnnormalizedWordsUptoCard : Claim7 := { stood := { row := fnUnnormalizedWordsUptoRow, standIns := [], harness := (true, "4ef556f0eaf86c6ba3f9210e75beeb41b1d25855c21d9b126a63307e0a0f8236"), looks := false }, kinds := [], alts := [], laidByText := true, laidKinds := [.data, .pinned, .pinned], laidTests := true, laidLooks := .later }
def FnUnnormalizedWordsUptoCardSaid : Prop := Claim7.holds Tryz.pinned (.plain (OpenSpec.upto fnUnnormalizedWordsSpec)) fnUnnormalizedWordsUptoCard

/-- THE SECOND FORM's CARD OF 'laws.FnForTypeNames'. -/
def fnForTypeNamesUptoCard : Claim7 := { stood := { row := fnForTypeNamesUptoRow, standIns := [], harness := (true, "4ef556f0eaf86c6ba3f9210e75beeb41b1d25855c21d9b126a63307e0a0f8236"), looks := false }, kinds := [], alts := [], laidByText := true, laidKinds := [.data, .pinned, .pinned], laidTests := true, laidLooks := .later }
def FnForTypeNamesUptoCardSaid : Prop := Claim7.holds Tryz.pinned (.plain (OpenSpec.upto fnForTypeNamesSpec)) fnForTypeNamesUptoCard

/-- THE SECOND FORM's CARD OF 'laws.FnForTypeSorts'. -/
def fnForTypeSortsUptoCard : Claim7 := { stood := { row := fnForTypeSortsUptoRow, standIns := [], harness := (true, "4ef556f0eaf86c6ba3f9210e75beeb41b1d25855c21d9b126a63307e0a0f8236"), looks := false }, kinds := [], alts := [], laidByText := true, laidKinds := [.data, .pinned, .pinned], laidTests := true, laidLooks := .later }
def FnForTypeSortsUptoCardSaid : Prop := Claim7.holds Tryz.pinned (.plain (OpenSpec.upto fnForTypeSortsSpec)) fnForTypeSortsUptoCard

/-- THE SECOND FORM's CARD OF 'laws.FnTrimmedNames'. -/
def fnTrimmedNamesUptoCard : Claim7 := { stood := { row := fnTrimmedNamesUptoRow, standIns := [], harness := (true, "4ef556f0eaf86c6ba3f9210e75beeb41b1d25855c21d9b126a63307e0a0f8236"), looks := false }, kinds := [], alts := [], laidByText := true, laidKinds := [.data, .pinned, .pinned], laidTests := true, laidLooks := .later }
def FnTrimmedNamesUptoCardSaid : Prop := Claim7.holds Tryz.pinned (.plain (OpenSpec.upto fnTrimmedNamesSpec)) fnTrimmedNamesUptoCard

/-- THE SECOND FORM's CARD OF 'laws.FnTrimmedSorts'. -/
def fnTrimmedSortsUptoCard : Claim7 := { stood := { row := fnTrimmedSortsUptoRow, standIns := [], harness := (true, "4ef556f0eaf86c6ba3f9210e75beeb41b1d25855c21d9b126a63307e0a0f8236"), looks := false }, kinds := [], alts := [], laidByText := true, laidKinds := [.data, .pinned, .pinned], laidTests := true, laidLooks := .later }
def FnTrimmedSortsUptoCardSaid : Prop := Claim7.holds Tryz.pinned (.plain (OpenSpec.upto fnTrimmedSortsSpec)) fnTrimmedSortsUptoCard

/-- THE SECOND FORM's CARD OF 'laws.FnResourceWords'. -/
def fnResourceWordsUptoCard : Claim7 := { stood := { row := fnResourceWordsUptoRow, standIns := [], harness := (true, "4ef556f0eaf86c6ba3f9210e75beeb41b1d25855c21d9b126a63307e0a0f8236"), looks := false }, kinds := [], alts := [], laidByText := true, laidKinds := [.data, .pinned, .pinned], laidTests := true, laidLooks := .later }
def FnResourceWordsUptoCardSaid : Prop := Claim7.holds Tryz.pinned (.plain (OpenSpec.upto fnResourceWordsSpec)) fnResourceWordsUptoCard
end Rows
end Go.Proofs.YtlkoeeccebmjmaaGreatDoor
