/-
  DERIVED. GIVEN WITH THE SEED: THE CARDS: each row of YtcdgldnphhidlaaGreatDoorRows.lean that lists a variable, with what it lists TIED to the program's text (the seventh form; the later family's looks); each row that meets fmt, with fmt's text TOLD by the authors' own Lean function (tested against real Go, not proved from fmt's source: count such statements apart). THE CARD IS WHAT COUNTS. Prove the row's statement (the work); the ties are given (YtcdgldnphhidlaaGreatDoorTie.lean); close each card by the builder's one call (the guide's Derived/Test/ToyasCard.lean, 'card_holds'). Laid BY PROGRAM, IN A SANDBOX (cutbox-door.mjs). By AI agents, Wed Nov 11 2026. No macro, syntax, notation, axiom, sorry.
-/
import Derived.Test.YtcdgldnphhidlaaGreatDoorRows
import GoSem.ClaimSeven
namespace Go.Proofs.YtcdgldnphhidlaaGreatDoor
namespace Rows

/-- THE TIED CARD OF 'laws.FnBaseRel'. -/
def fnBaseRelCard : Claim7 := { stood := { row := fnBaseRelRow, standIns := [], harness := (true, "78fa74377b04f3325ded228e51a957120f0e8d609f99e92d6e63a952fa5ea399"), looks := false }, kinds := [], alts := [], laidByText := true, laidKinds := [.data, .pinned, .pinned], laidTests := true, laidLooks := .later }
def FnBaseRelCardSaid : Prop := Claim7.holds Tryz.pinned (.plain (OpenSpec.ofChange fnBaseRelSpec)) fnBaseRelCard

/-- THE TIED CARD OF 'laws.FnPathRel'. -/
def fnPathRelCard : Claim7 := { stood := { row := fnPathRelRow, standIns := [], harness := (true, "78fa74377b04f3325ded228e51a957120f0e8d609f99e92d6e63a952fa5ea399"), looks := false }, kinds := [], alts := [], laidByText := true, laidKinds := [.data, .pinned, .pinned], laidTests := true, laidLooks := .later }
def FnPathRelCardSaid : Prop := Claim7.holds Tryz.pinned (.plain (OpenSpec.ofChange fnPathRelSpec)) fnPathRelCard

/-- THE TIED CARD OF 'laws.FnBuiltBundle'. -/
def fnBuiltBundleCard : Claim7 := { stood := { row := fnBuiltBundleRow, standIns := [], harness := (true, "78fa74377b04f3325ded228e51a957120f0e8d609f99e92d6e63a952fa5ea399"), looks := false }, kinds := [], alts := [], laidByText := true, laidKinds := [.data, .pinned, .pinned], laidTests := true, laidLooks := .later }
def FnBuiltBundleCardSaid : Prop := Claim7.holds Tryz.pinned (.plain (OpenSpec.ofChange fnBuiltBundleSpec)) fnBuiltBundleCard

/-- THE TIED CARD OF 'laws.FnBuiltDisabled'. -/
def fnBuiltDisabledCard : Claim7 := { stood := { row := fnBuiltDisabledRow, standIns := [], harness := (true, "78fa74377b04f3325ded228e51a957120f0e8d609f99e92d6e63a952fa5ea399"), looks := false }, kinds := [], alts := [], laidByText := true, laidKinds := [.data, .pinned, .pinned], laidTests := true, laidLooks := .later }
def FnBuiltDisabledCardSaid : Prop := Claim7.holds Tryz.pinned (.plain (OpenSpec.ofChange fnBuiltDisabledSpec)) fnBuiltDisabledCard

/-- THE TIED CARD OF 'laws.FnBuiltFile'. -/
def fnBuiltFileCard : Claim7 := { stood := { row := fnBuiltFileRow, standIns := [], harness := (true, "78fa74377b04f3325ded228e51a957120f0e8d609f99e92d6e63a952fa5ea399"), looks := false }, kinds := [], alts := [], laidByText := true, laidKinds := [.data, .pinned, .pinned], laidTests := true, laidLooks := .later }
def FnBuiltFileCardSaid : Prop := Claim7.holds Tryz.pinned (.plain (OpenSpec.ofChange fnBuiltFileSpec)) fnBuiltFileCard

/-- THE TIED CARD OF 'laws.FnBuiltFormat'. -/
def fnBuiltFormatCard : Claim7 := { stood := { row := fnBuiltFormatRow, standIns := [], harness := (true, "78fa74377b04f3325ded228e51a957120f0e8d609f99e92d6e63a952fa5ea399"), looks := false }, kinds := [], alts := [], laidByText := true, laidKinds := [.data, .pinned, .pinned], laidTests := true, laidLooks := .later }
def FnBuiltFormatCardSaid : Prop := Claim7.holds Tryz.pinned (.plain (OpenSpec.ofChange fnBuiltFormatSpec)) fnBuiltFormatCard

/-- THE TIED CARD OF 'laws.FnBuiltWrapped'. -/
def fnBuiltWrappedCard : Claim7 := { stood := { row := fnBuiltWrappedRow, standIns := [], harness := (true, "78fa74377b04f3325ded228e51a957120f0e8d609f99e92d6e63a952fa5ea399"), looks := false }, kinds := [], alts := [], laidByText := true, laidKinds := [.data, .pinned, .pinned], laidTests := true, laidLooks := .later }
def FnBuiltWrappedCardSaid : Prop := Claim7.holds Tryz.pinned (.plain (OpenSpec.ofChange fnBuiltWrappedSpec)) fnBuiltWrappedCard

/-- THE TIED CARD OF 'laws.FnMoreContent'. -/
def fnMoreContentCard : Claim7 := { stood := { row := fnMoreContentRow, standIns := [], harness := (true, "78fa74377b04f3325ded228e51a957120f0e8d609f99e92d6e63a952fa5ea399"), looks := false }, kinds := [], alts := [], laidByText := true, laidKinds := [.data, .pinned, .pinned], laidTests := true, laidLooks := .later }
def FnMoreContentCardSaid : Prop := Claim7.holds Tryz.pinned (.plain (OpenSpec.ofChange fnMoreContentSpec)) fnMoreContentCard

/-- THE TIED CARD OF 'laws.FnMoreLanguages'. -/
def fnMoreLanguagesCard : Claim7 := { stood := { row := fnMoreLanguagesRow, standIns := [], harness := (true, "78fa74377b04f3325ded228e51a957120f0e8d609f99e92d6e63a952fa5ea399"), looks := false }, kinds := [], alts := [], laidByText := true, laidKinds := [.data, .pinned, .pinned], laidTests := true, laidLooks := .later }
def FnMoreLanguagesCardSaid : Prop := Claim7.holds Tryz.pinned (.plain (OpenSpec.ofChange fnMoreLanguagesSpec)) fnMoreLanguagesCard

/-- THE TIED CARD OF 'laws.FnNoLanguages'. -/
def fnNoLanguagesCard : Claim7 := { stood := { row := fnNoLanguagesRow, standIns := [], harness := (true, "78fa74377b04f3325ded228e51a957120f0e8d609f99e92d6e63a952fa5ea399"), looks := false }, kinds := [], alts := [], laidByText := true, laidKinds := [.data, .pinned, .pinned], laidTests := true, laidLooks := .later }
def FnNoLanguagesCardSaid : Prop := Claim7.holds Tryz.pinned (.plain (OpenSpec.ofChange fnNoLanguagesSpec)) fnNoLanguagesCard

/-- THE TIED CARD OF 'laws.FnParse'. -/
def fnParseCard : Claim7 := { stood := { row := fnParseRow, standIns := [], harness := (true, "78fa74377b04f3325ded228e51a957120f0e8d609f99e92d6e63a952fa5ea399"), looks := false }, kinds := [], alts := [], laidByText := true, laidKinds := [.data, .pinned, .pinned], laidTests := true, laidLooks := .later }
def FnParseCardSaid : Prop := Claim7.holds Tryz.pinned (.plain (OpenSpec.ofChange fnParseSpec)) fnParseCard

/-- THE TIED CARD OF 'laws.FnUnnormalizedSame'. -/
def fnUnnormalizedSameCard : Claim7 := { stood := { row := fnUnnormalizedSameRow, standIns := [], harness := (true, "78fa74377b04f3325ded228e51a957120f0e8d609f99e92d6e63a952fa5ea399"), looks := false }, kinds := [], alts := [], laidByText := true, laidKinds := [.data, .pinned, .pinned], laidTests := true, laidLooks := .later }
def FnUnnormalizedSameCardSaid : Prop := Claim7.holds Tryz.pinned (.plain (OpenSpec.ofChange fnUnnormalizedSameSpec)) fnUnnormalizedSameCard

/-- THE SECOND FORM's CARD OF 'laws.FnBaseRel'. -/
def fnBaseRelUptoCard : Claim7 := { stood := { row := fnBaseRelUptoRow, standIns := [], harness := (true, "78fa74377b04f3325ded228e51a957120f0e8d609f99e92d6e63a952fa5ea399"), looks := false }, kinds := [], alts := [], laidByText := true, laidKinds := [.data, .pinned, .pinned], laidTests := true, laidLooks := .later }
def FnBaseRelUptoCardSaid : Prop := Claim7.holds Tryz.pinned (.plain (OpenSpec.upto fnBaseRelSpec)) fnBaseRelUptoCard

/-- THE SECOND FORM's CARD OF 'laws.FnPathRel'. -/
def fnPathRelUptoCard : Claim7 := { stood := { row := fnPathRelUptoRow, standIns := [], harness := (true, "78fa74377b04f3325ded228e51a957120f0e8d609f99e92d6e63a952fa5ea399"), looks := false }, kinds := [], alts := [], laidByText := true, laidKinds := [.data, .pinned, .pinned], laidTests := true, laidLooks := .later }
def FnPathRelUptoCardSaid : Prop := Claim7.holds Tryz.pinned (.plain (OpenSpec.upto fnPathRelSpec)) fnPathRelUptoCard

/-- THE SECOND FORM's CARD OF 'laws.FnBuiltBundle'. -/
def fnBuiltBundleUptoCard : Claim7 := { stood := { row := fnBuiltBundleUptoRow, standIns := [], harness := (true, "78fa74377b04f3325ded228e51a957120f0e8d609f99e92d6e63a952fa5ea399"), looks := false }, kinds := [], alts := [], laidByText := true, laidKinds := [.data, .pinned, .pinned], laidTests := true, laidLooks := .later }
def FnBuiltBundleUptoCardSaid : Prop := Claim7.holds Tryz.pinned (.plain (OpenSpec.upto fnBuiltBundleSpec)) fnBuiltBundleUptoCard

/-- THE SECOND FORM's CARD OF 'laws.FnBuiltDisabled'. -/
def fnBuiltDisabledUptoCard : Claim7 := { stood := { row := fnBuiltDisabledUptoRow, standIns := [], harness := (true, "78fa74377b04f3325ded228e51a957120f0e8d609f99e92d6e63a952fa5ea399"), looks := false }, kinds := [], alts := [], laidByText := true, laidKinds := [.data, .pinned, .pinned], laidTests := true, laidLooks := .later }
def FnBuiltDisabledUptoCardSaid : Prop := Claim7.holds Tryz.pinned (.plain (OpenSpec.upto fnBuiltDisabledSpec)) fnBuiltDisabledUptoCard

/-- THE SECOND FORM's CARD OF 'laws.FnBuiltFile'. -/
def fnBuiltFileUptoCard : Claim7 := { stood := { row := fnBuiltFileUptoRow, standIns := [], harness := (true, "78fa74377b04f3325ded228e51a957120f0e8d609f99e92d6e63a952fa5ea399"), looks := false }, kinds := [], alts := [], laidByText := true, laidKinds := [.data, .pinned, .pinned], laidTests := true, laidLooks := .later }
def FnBuiltFileUptoCardSaid : Prop := Claim7.holds Tryz.pinned (.plain (OpenSpec.upto fnBuiltFileSpec)) fnBuiltFileUptoCard

/-- THE SECOND FORM's CARD OF 'laws.FnBuiltFormat'. -/
def fnBuiltFormatUptoCard : Claim7 := { stood := { row := fnBuiltFormatUptoRow, standIns := [], harness := (true, "78fa74377b04f3325ded228e51a957120f0e8d609f99e92d6e63a952fa5ea399"), looks := false }, kinds := [], alts := [], laidByText := true, laidKinds := [.data, .pinned, .pinned], laidTests := true, laidLooks := .later }
def FnBuiltFormatUptoCardSaid : Prop := Claim7.holds Tryz.pinned (.plain (OpenSpec.upto fnBuiltFormatSpec)) fnBuiltFormatUptoCard

/-- THE SECOND FORM's CARD OF 'laws.FnBuiltWrapped'. -/
def fnBuiltWrappedUptoCard : Claim7 := { stood := { row := fnBuiltWrappedUptoRow, standIns := [], harness := (true, "78fa74377b04f3325ded228e51a957120f0e8d609f99e92d6e63a952fa5ea399"), looks := false }, kinds := [], alts := [], laidByText := true, laidKinds := [.data, .pinned, .pinned], laidTests := true, laidLooks := .later }
def FnBuiltWrappedUptoCardSaid : Prop := Claim7.holds Tryz.pinned (.plain (OpenSpec.upto fnBuiltWrappedSpec)) fnBuiltWrappedUptoCard

/-- THE SECOND FORM's CARD OF 'laws.FnMoreContent'. -/
def fnMoreContentUptoCard : Claim7 := { stood := { row := fnMoreContentUptoRow, standIns := [], harness := (true, "78fa74377b04f3325ded228e51a957120f0e8d609f99e92d6e63a952fa5ea399"), looks := false }, kinds := [], alts := [], laidByText := true, laidKinds := [.data, .pinned, .pinned], laidTests := true, laidLooks := .later }
def FnMoreContentUptoCardSaid : Prop := Claim7.holds Tryz.pinned (.plain (OpenSpec.upto fnMoreContentSpec)) fnMoreContentUptoCard

/-- THE SECOND FORM's CARD OF 'laws.FnMoreLanguages'. -/
def fnMoreLanguagesUptoCard : Claim7 := { stood := { row := fnMoreLanguagesUptoRow, standIns := [], harness := (true, "78fa74377b04f3325ded228e51a957120f0e8d609f99e92d6e63a952fa5ea399"), looks := false }, kinds := [], alts := [], laidByText := true, laidKinds := [.data, .pinned, .pinned], laidTests := true, laidLooks := .later }
def FnMoreLanguagesUptoCardSaid : Prop := Claim7.holds Tryz.pinned (.plain (OpenSpec.upto fnMoreLanguagesSpec)) fnMoreLanguagesUptoCard

/-- THE SECOND FORM's CARD OF 'laws.FnNoLanguages'. -/
def fnNoLanguagesUptoCard : Claim7 := { stood := { row := fnNoLanguagesUptoRow, standIns := [], harness := (true, "78fa74377b04f3325ded228e51a957120f0e8d609f99e92d6e63a952fa5ea399"), looks := false }, kinds := [], alts := [], laidByText := true, laidKinds := [.data, .pinned, .pinned], laidTests := true, laidLooks := .later }
def FnNoLanguagesUptoCardSaid : Prop := Claim7.holds Tryz.pinned (.plain (OpenSpec.upto fnNoLanguagesSpec)) fnNoLanguagesUptoCard

/-- THE SECOND FORM's CARD OF 'laws.FnParse'. -/
def fnParseUptoCard : Claim7 := { stood := { row := fnParseUptoRow, standIns := [], harness := (true, "78fa74377b04f3325ded228e51a957120f0e8d609f99e92d6e63a952fa5ea399"), looks := false }, kinds := [], alts := [], laidByText := true, laidKinds := [.data, .pinned, .pinned], laidTests := true, laidLooks := .later }
def FnParseUptoCardSaid : Prop := Claim7.holds Tryz.pinned (.plain (OpenSpec.upto fnParseSpec)) fnParseUptoCard

/-- THE SECOND FORM's CARD OF 'laws.FnUnnormalizedSame'. -/
def fnUnnormalizedSameUptoCard : Claim7 := { stood := { row := fnUnnormalizedSameUptoRow, standIns := [], harness := (true, "78fa74377b04f3325ded228e51a957120f0e8d609f99e92d6e63a952fa5ea399"), looks := false }, kinds := [], alts := [], laidByText := true, laidKinds := [.data, .pinned, .pinned], laidTests := true, laidLooks := .later }
def FnUnnormalizedSameUptoCardSaid : Prop := Claim7.holds Tryz.pinned (.plain (OpenSpec.upto fnUnnormalizedSameSpec)) fnUnnormalizedSameUptoCard
end Rows
end Go.Proofs.YtcdgldnphhidlaaGreatDoor
