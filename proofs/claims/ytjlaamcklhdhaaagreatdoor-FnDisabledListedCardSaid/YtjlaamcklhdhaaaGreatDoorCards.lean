/-
  DERIVED. GIVEN WITH THE SEED: THE CARDS: each row of YtjlaamcklhdhaaaGreatDoorRows.lean that lists a variable, with what it lists TIED to the program's text (the seventh form; the later family's looks); each row that meets fmt, with fmt's text TOLD by the authors' own Lean function (tested against real Go, not proved from fmt's source: count such statements apart). THE CARD IS WHAT COUNTS. Prove the row's statement (the work); the ties are given (YtjlaamcklhdhaaaGreatDoorTie.lean); close each card by the builder's one call (the guide's Derived/Test/ToyasCard.lean, 'card_holds'). Laid BY PROGRAM, IN A SANDBOX (cutbox-door.mjs). By AI agents, Wed Nov 11 2026. No macro, syntax, notation, axiom, sorry.
-/
import Derived.Test.YtjlaamcklhdhaaaGreatDoorRows
import GoSem.ClaimSeven
namespace Go.Proofs.YtjlaamcklhdhaaaGreatDoor
namespace Rows

/-- THE TIED CARD OF 'laws.FnBaseFile'. -/
def fnBaseFileCard : Claim7 := { stood := { row := fnBaseFileRow, standIns := [], harness := (true, "2b3cad3ab231506729ba7e233f66a8a897f77ee774893bf61e12687f241ee40f"), looks := false }, kinds := [], alts := [], laidByText := true, laidKinds := [.data, .pinned, .pinned], laidTests := true, laidLooks := .later }
def FnBaseFileCardSaid : Prop := Claim7.holds Tryz.pinned (.plain (OpenSpec.ofChange fnBaseFileSpec)) fnBaseFileCard

/-- THE TIED CARD OF 'laws.FnHasExtension'. -/
def fnHasExtensionCard : Claim7 := { stood := { row := fnHasExtensionRow, standIns := [], harness := (true, "2b3cad3ab231506729ba7e233f66a8a897f77ee774893bf61e12687f241ee40f"), looks := false }, kinds := [], alts := [], laidByText := true, laidKinds := [.data, .pinned, .pinned], laidTests := true, laidLooks := .later }
def FnHasExtensionCardSaid : Prop := Claim7.holds Tryz.pinned (.plain (OpenSpec.ofChange fnHasExtensionSpec)) fnHasExtensionCard

/-- THE TIED CARD OF 'laws.FnBeforeBegins'. -/
def fnBeforeBeginsCard : Claim7 := { stood := { row := fnBeforeBeginsRow, standIns := [], harness := (true, "2b3cad3ab231506729ba7e233f66a8a897f77ee774893bf61e12687f241ee40f"), looks := false }, kinds := [], alts := [], laidByText := true, laidKinds := [.data, .pinned, .pinned], laidTests := true, laidLooks := .later }
def FnBeforeBeginsCardSaid : Prop := Claim7.holds Tryz.pinned (.plain (OpenSpec.ofChange fnBeforeBeginsSpec)) fnBeforeBeginsCard

/-- THE TIED CARD OF 'laws.FnCase'. -/
def fnCaseCard : Claim7 := { stood := { row := fnCaseRow, standIns := [], harness := (true, "2b3cad3ab231506729ba7e233f66a8a897f77ee774893bf61e12687f241ee40f"), looks := false }, kinds := [], alts := [], laidByText := true, laidKinds := [.data, .pinned, .pinned], laidTests := true, laidLooks := .later }
def FnCaseCardSaid : Prop := Claim7.holds Tryz.pinned (.plain (OpenSpec.ofChange fnCaseSpec)) fnCaseCard

/-- THE TIED CARD OF 'laws.FnDisabledListed'. -/
def fnDisabledListedCard : Claim7 := { stood := { row := fnDisabledListedRow, standIns := [], harness := (true, "2b3cad3ab231506729ba7e233f66a8a897f77ee774893bf61e12687f241ee40f"), looks := false }, kinds := [], alts := [], laidByText := true, laidKinds := [.data, .pinned, .pinned], laidTests := true, laidLooks := .later }
def FnDisabledListedCardSaid : Prop := Claim7.holds Tryz.pinned (.plain (OpenSpec.ofChange fnDisabledListedSpec)) fnDisabledListedCard

/-- THE TIED CARD OF 'laws.FnLangListed'. -/
def fnLangListedCard : Claim7 := { stood := { row := fnLangListedRow, standIns := [], harness := (true, "2b3cad3ab231506729ba7e233f66a8a897f77ee774893bf61e12687f241ee40f"), looks := false }, kinds := [], alts := [], laidByText := true, laidKinds := [.data, .pinned, .pinned], laidTests := true, laidLooks := .later }
def FnLangListedCardSaid : Prop := Claim7.holds Tryz.pinned (.plain (OpenSpec.ofChange fnLangListedSpec)) fnLangListedCard

/-- THE TIED CARD OF 'laws.FnNameExt'. -/
def fnNameExtCard : Claim7 := { stood := { row := fnNameExtRow, standIns := [], harness := (true, "2b3cad3ab231506729ba7e233f66a8a897f77ee774893bf61e12687f241ee40f"), looks := false }, kinds := [], alts := [], laidByText := true, laidKinds := [.data, .pinned, .pinned], laidTests := true, laidLooks := .later }
def FnNameExtCardSaid : Prop := Claim7.holds Tryz.pinned (.plain (OpenSpec.ofChange fnNameExtSpec)) fnNameExtCard

/-- THE TIED CARD OF 'laws.FnNamesLess'. -/
def fnNamesLessCard : Claim7 := { stood := { row := fnNamesLessRow, standIns := [], harness := (true, "2b3cad3ab231506729ba7e233f66a8a897f77ee774893bf61e12687f241ee40f"), looks := false }, kinds := [], alts := [], laidByText := true, laidKinds := [.data, .pinned, .pinned], laidTests := true, laidLooks := .later }
def FnNamesLessCardSaid : Prop := Claim7.holds Tryz.pinned (.plain (OpenSpec.ofChange fnNamesLessSpec)) fnNamesLessCard

/-- THE TIED CARD OF 'laws.FnOthers'. -/
def fnOthersCard : Claim7 := { stood := { row := fnOthersRow, standIns := [], harness := (true, "2b3cad3ab231506729ba7e233f66a8a897f77ee774893bf61e12687f241ee40f"), looks := false }, kinds := [], alts := [], laidByText := true, laidKinds := [.data, .pinned, .pinned], laidTests := true, laidLooks := .later }
def FnOthersCardSaid : Prop := Claim7.holds Tryz.pinned (.plain (OpenSpec.ofChange fnOthersSpec)) fnOthersCard

/-- THE TIED CARD OF 'laws.FnSectionFirst'. -/
def fnSectionFirstCard : Claim7 := { stood := { row := fnSectionFirstRow, standIns := [], harness := (true, "2b3cad3ab231506729ba7e233f66a8a897f77ee774893bf61e12687f241ee40f"), looks := false }, kinds := [], alts := [], laidByText := true, laidKinds := [.data, .pinned, .pinned], laidTests := true, laidLooks := .later }
def FnSectionFirstCardSaid : Prop := Claim7.holds Tryz.pinned (.plain (OpenSpec.ofChange fnSectionFirstSpec)) fnSectionFirstCard

/-- THE TIED CARD OF 'laws.FnSlashAhead'. -/
def fnSlashAheadCard : Claim7 := { stood := { row := fnSlashAheadRow, standIns := [], harness := (true, "2b3cad3ab231506729ba7e233f66a8a897f77ee774893bf61e12687f241ee40f"), looks := false }, kinds := [], alts := [], laidByText := true, laidKinds := [.data, .pinned, .pinned], laidTests := true, laidLooks := .later }
def FnSlashAheadCardSaid : Prop := Claim7.holds Tryz.pinned (.plain (OpenSpec.ofChange fnSlashAheadSpec)) fnSlashAheadCard

/-- THE TIED CARD OF 'laws.FnWordsThere'. -/
def fnWordsThereCard : Claim7 := { stood := { row := fnWordsThereRow, standIns := [], harness := (true, "2b3cad3ab231506729ba7e233f66a8a897f77ee774893bf61e12687f241ee40f"), looks := false }, kinds := [], alts := [], laidByText := true, laidKinds := [.data, .pinned, .pinned], laidTests := true, laidLooks := .later }
def FnWordsThereCardSaid : Prop := Claim7.holds Tryz.pinned (.plain (OpenSpec.ofChange fnWordsThereSpec)) fnWordsThereCard

/-- THE SECOND FORM's CARD OF 'laws.FnBaseFile'. -/
def fnBaseFileUptoCard : Claim7 := { stood := { row := fnBaseFileUptoRow, standIns := [], harness := (true, "2b3cad3ab231506729ba7e233f66a8a897f77ee774893bf61e12687f241ee40f"), looks := false }, kinds := [], alts := [], laidByText := true, laidKinds := [.data, .pinned, .pinned], laidTests := true, laidLooks := .later }
def FnBaseFileUptoCardSaid : Prop := Claim7.holds Tryz.pinned (.plain (OpenSpec.upto fnBaseFileSpec)) fnBaseFileUptoCard

/-- THE SECOND FORM's CARD OF 'laws.FnHasExtension'. -/
def fnHasExtensionUptoCard : Claim7 := { stood := { row := fnHasExtensionUptoRow, standIns := [], harness := (true, "2b3cad3ab231506729ba7e233f66a8a897f77ee774893bf61e12687f241ee40f"), looks := false }, kinds := [], alts := [], laidByText := true, laidKinds := [.data, .pinned, .pinned], laidTests := true, laidLooks := .later }
def FnHasExtensionUptoCardSaid : Prop := Claim7.holds Tryz.pinned (.plain (OpenSpec.upto fnHasExtensionSpec)) fnHasExtensionUptoCard

/-- THE SECOND FORM's CARD OF 'laws.FnBeforeBegins'. -/
def fnBeforeBeginsUptoCard : Claim7 := { stood := { row := fnBeforeBeginsUptoRow, standIns := [], harness := (true, "2b3cad3ab231506729ba7e233f66a8a897f77ee774893bf61e12687f241ee40f"), looks := false }, kinds := [], alts := [], laidByText := true, laidKinds := [.data, .pinned, .pinned], laidTests := true, laidLooks := .later }
def FnBeforeBeginsUptoCardSaid : Prop := Claim7.holds Tryz.pinned (.plain (OpenSpec.upto fnBeforeBeginsSpec)) fnBeforeBeginsUptoCard

/-- THE SECOND FORM's CARD OF 'laws.FnCase'. -/
def fnCaseUptoCard : Claim7 := { stood := { row := fnCaseUptoRow, standIns := [], harness := (true, "2b3cad3ab231506729ba7e233f66a8a897f77ee774893bf61e12687f241ee40f"), looks := false }, kinds := [], alts := [], laidByText := true, laidKinds := [.data, .pinned, .pinned], laidTests := true, laidLooks := .later }
def FnCaseUptoCardSaid : Prop := Claim7.holds Tryz.pinned (.plain (OpenSpec.upto fnCaseSpec)) fnCaseUptoCard

/-- THE SECOND FORM's CARD OF 'laws.FnDisabledListed'. -/
def fnDisabledListedUptoCard : Claim7 := { stood := { row := fnDisabledListedUptoRow, standIns := [], harness := (true, "2b3cad3ab231506729ba7e233f66a8a897f77ee774893bf61e12687f241ee40f"), looks := false }, kinds := [], alts := [], laidByText := true, laidKinds := [.data, .pinned, .pinned], laidTests := true, laidLooks := .later }
def FnDisabledListedUptoCardSaid : Prop := Claim7.holds Tryz.pinned (.plain (OpenSpec.upto fnDisabledListedSpec)) fnDisabledListedUptoCard

/-- THE SECOND FORM's CARD OF 'laws.FnLangListed'. -/
def fnLangListedUptoCard : Claim7 := { stood := { row := fnLangListedUptoRow, standIns := [], harness := (true, "2b3cad3ab231506729ba7e233f66a8a897f77ee774893bf61e12687f241ee40f"), looks := false }, kinds := [], alts := [], laidByText := true, laidKinds := [.data, .pinned, .pinned], laidTests := true, laidLooks := .later }
def FnLangListedUptoCardSaid : Prop := Claim7.holds Tryz.pinned (.plain (OpenSpec.upto fnLangListedSpec)) fnLangListedUptoCard

/-- THE SECOND FORM's CARD OF 'laws.FnNameExt'. -/
def fnNameExtUptoCard : Claim7 := { stood := { row := fnNameExtUptoRow, standIns := [], harness := (true, "2b3cad3ab231506729ba7e233f66a8a897f77ee774893bf61e12687f241ee40f"), looks := false }, kinds := [], alts := [], laidByText := true, laidKinds := [.data, .pinned, .pinned], laidTests := true, laidLooks := .later }
def FnNameExtUptoCardSaid : Prop := Claim7.holds Tryz.pinned (.plain (OpenSpec.upto fnNameExtSpec)) fnNameExtUptoCard

/-- THE SECOND FORM's CARD OF 'laws.FnNamesLess'. -/
def fnNamesLessUptoCard : Claim7 := { stood := { row := fnNamesLessUptoRow, standIns := [], harness := (true, "2b3cad3ab231506729ba7e233f66a8a897f77ee774893bf61e12687f241ee40f"), looks := false }, kinds := [], alts := [], laidByText := true, laidKinds := [.data, .pinned, .pinned], laidTests := true, laidLooks := .later }
def FnNamesLessUptoCardSaid : Prop := Claim7.holds Tryz.pinned (.plain (OpenSpec.upto fnNamesLessSpec)) fnNamesLessUptoCard

/-- THE SECOND FORM's CARD OF 'laws.FnOthers'. -/
def fnOthersUptoCard : Claim7 := { stood := { row := fnOthersUptoRow, standIns := [], harness := (true, "2b3cad3ab231506729ba7e233f66a8a897f77ee774893bf61e12687f241ee40f"), looks := false }, kinds := [], alts := [], laidByText := true, laidKinds := [.data, .pinned, .pinned], laidTests := true, laidLooks := .later }
def FnOthersUptoCardSaid : Prop := Claim7.holds Tryz.pinned (.plain (OpenSpec.upto fnOthersSpec)) fnOthersUptoCard

/-- THE SECOND FORM's CARD OF 'laws.FnSectionFirst'. -/
def fnSectionFirstUptoCard : Claim7 := { stood := { row := fnSectionFirstUptoRow, standIns := [], harness := (true, "2b3cad3ab231506729ba7e233f66a8a897f77ee774893bf61e12687f241ee40f"), looks := false }, kinds := [], alts := [], laidByText := true, laidKinds := [.data, .pinned, .pinned], laidTests := true, laidLooks := .later }
def FnSectionFirstUptoCardSaid : Prop := Claim7.holds Tryz.pinned (.plain (OpenSpec.upto fnSectionFirstSpec)) fnSectionFirstUptoCard

/-- THE SECOND FORM's CARD OF 'laws.FnSlashAhead'. -/
def fnSlashAheadUptoCard : Claim7 := { stood := { row := fnSlashAheadUptoRow, standIns := [], harness := (true, "2b3cad3ab231506729ba7e233f66a8a897f77ee774893bf61e12687f241ee40f"), looks := false }, kinds := [], alts := [], laidByText := true, laidKinds := [.data, .pinned, .pinned], laidTests := true, laidLooks := .later }
def FnSlashAheadUptoCardSaid : Prop := Claim7.holds Tryz.pinned (.plain (OpenSpec.upto fnSlashAheadSpec)) fnSlashAheadUptoCard

/-- THE SECOND FORM's CARD OF 'laws.FnWordsThere'. -/
def fnWordsThereUptoCard : Claim7 := { stood := { row := fnWordsThereUptoRow, standIns := [], harness := (true, "2b3cad3ab231506729ba7e233f66a8a897f77ee774893bf61e12687f241ee40f"), looks := false }, kinds := [], alts := [], laidByText := true, laidKinds := [.data, .pinned, .pinned], laidTests := true, laidLooks := .later }
def FnWordsThereUptoCardSaid : Prop := Claim7.holds Tryz.pinned (.plain (OpenSpec.upto fnWordsThereSpec)) fnWordsThereUptoCard
end Rows
end Go.Proofs.YtjlaamcklhdhaaaGreatDoor
