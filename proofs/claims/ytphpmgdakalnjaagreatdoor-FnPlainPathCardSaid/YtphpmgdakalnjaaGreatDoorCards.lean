/-
  DERIVED. GIVEN WITH THE SEED: THE CARDS: each row of YtphpmgdakalnjaaGreatDoorRows.lean that lists a variable, with what it lists TIED to the program's text (the seventh form; the later family's looks); each row that meets fmt, with fmt's text TOLD by the authors' own Lean function (tested against real Go, not proved from fmt's source: count such statements apart). THE CARD IS WHAT COUNTS. Prove the row's statement (the work); the ties are given (YtphpmgdakalnjaaGreatDoorTie.lean); close each card by the builder's one call (the guide's Derived/Test/ToyasCard.lean, 'card_holds'). Laid BY PROGRAM, IN A SANDBOX (cutbox-door.mjs). By AI agents, Wed Nov 11 2026. No macro, syntax, notation, axiom, sorry.
-/
import Derived.Test.YtphpmgdakalnjaaGreatDoorRows
import GoSem.ClaimSeven
namespace Go.Proofs.YtphpmgdakalnjaaGreatDoor
namespace Rows

/-- THE TIED CARD OF 'laws.FnHasExtension'. -/
def fnHasExtensionCard : Claim7 := { stood := { row := fnHasExtensionRow, standIns := [], harness := (true, "a994db99b9a84022d4f7e972cf8d7919b4f098358aa2f56efe4a20b832e08c02"), looks := false }, kinds := [], alts := [], laidByText := true, laidKinds := [.data, .pinned, .pinned], laidTests := true, laidLooks := .later }
def FnHasExtensionCardSaid : Prop := Claim7.holds Tryz.pinned (.plain (OpenSpec.ofChange fnHasExtensionSpec)) fnHasExtensionCard

/-- THE TIED CARD OF 'laws.FnBundleTypes'. -/
def fnBundleTypesCard : Claim7 := { stood := { row := fnBundleTypesRow, standIns := [], harness := (true, "a994db99b9a84022d4f7e972cf8d7919b4f098358aa2f56efe4a20b832e08c02"), looks := false }, kinds := [], alts := [], laidByText := true, laidKinds := [.data, .pinned, .pinned], laidTests := true, laidLooks := .later }
def FnBundleTypesCardSaid : Prop := Claim7.holds Tryz.pinned (.plain (OpenSpec.ofChange fnBundleTypesSpec)) fnBundleTypesCard

/-- THE TIED CARD OF 'laws.FnCase'. -/
def fnCaseCard : Claim7 := { stood := { row := fnCaseRow, standIns := [], harness := (true, "a994db99b9a84022d4f7e972cf8d7919b4f098358aa2f56efe4a20b832e08c02"), looks := false }, kinds := [], alts := [], laidByText := true, laidKinds := [.data, .pinned, .pinned], laidTests := true, laidLooks := .later }
def FnCaseCardSaid : Prop := Claim7.holds Tryz.pinned (.plain (OpenSpec.ofChange fnCaseSpec)) fnCaseCard

/-- THE TIED CARD OF 'laws.FnContainerAbove'. -/
def fnContainerAboveCard : Claim7 := { stood := { row := fnContainerAboveRow, standIns := [], harness := (true, "a994db99b9a84022d4f7e972cf8d7919b4f098358aa2f56efe4a20b832e08c02"), looks := false }, kinds := [], alts := [], laidByText := true, laidKinds := [.data, .pinned, .pinned], laidTests := true, laidLooks := .later }
def FnContainerAboveCardSaid : Prop := Claim7.holds Tryz.pinned (.plain (OpenSpec.ofChange fnContainerAboveSpec)) fnContainerAboveCard

/-- THE TIED CARD OF 'laws.FnDataName'. -/
def fnDataNameCard : Claim7 := { stood := { row := fnDataNameRow, standIns := [], harness := (true, "a994db99b9a84022d4f7e972cf8d7919b4f098358aa2f56efe4a20b832e08c02"), looks := false }, kinds := [], alts := [], laidByText := true, laidKinds := [.data, .pinned, .pinned], laidTests := true, laidLooks := .later }
def FnDataNameCardSaid : Prop := Claim7.holds Tryz.pinned (.plain (OpenSpec.ofChange fnDataNameSpec)) fnDataNameCard

/-- THE TIED CARD OF 'laws.FnLayoutsAlone'. -/
def fnLayoutsAloneCard : Claim7 := { stood := { row := fnLayoutsAloneRow, standIns := [], harness := (true, "a994db99b9a84022d4f7e972cf8d7919b4f098358aa2f56efe4a20b832e08c02"), looks := false }, kinds := [], alts := [], laidByText := true, laidKinds := [.data, .pinned, .pinned], laidTests := true, laidLooks := .later }
def FnLayoutsAloneCardSaid : Prop := Claim7.holds Tryz.pinned (.plain (OpenSpec.ofChange fnLayoutsAloneSpec)) fnLayoutsAloneCard

/-- THE TIED CARD OF 'laws.FnOthers'. -/
def fnOthersCard : Claim7 := { stood := { row := fnOthersRow, standIns := [], harness := (true, "a994db99b9a84022d4f7e972cf8d7919b4f098358aa2f56efe4a20b832e08c02"), looks := false }, kinds := [], alts := [], laidByText := true, laidKinds := [.data, .pinned, .pinned], laidTests := true, laidLooks := .later }
def FnOthersCardSaid : Prop := Claim7.holds Tryz.pinned (.plain (OpenSpec.ofChange fnOthersSpec)) fnOthersCard

/-- THE TIED CARD OF 'laws.FnPathJoined'. -/
def fnPathJoinedCard : Claim7 := { stood := { row := fnPathJoinedRow, standIns := [], harness := (true, "a994db99b9a84022d4f7e972cf8d7919b4f098358aa2f56efe4a20b832e08c02"), looks := false }, kinds := [], alts := [], laidByText := true, laidKinds := [.data, .pinned, .pinned], laidTests := true, laidLooks := .later }
def FnPathJoinedCardSaid : Prop := Claim7.holds Tryz.pinned (.plain (OpenSpec.ofChange fnPathJoinedSpec)) fnPathJoinedCard

/-- THE TIED CARD OF 'laws.FnPlainPath'. -/
def fnPlainPathCard : Claim7 := { stood := { row := fnPlainPathRow, standIns := [], harness := (true, "a994db99b9a84022d4f7e972cf8d7919b4f098358aa2f56efe4a20b832e08c02"), looks := false }, kinds := [], alts := [], laidByText := true, laidKinds := [.data, .pinned, .pinned], laidTests := true, laidLooks := .later }
def FnPlainPathCardSaid : Prop := Claim7.holds Tryz.pinned (.plain (OpenSpec.ofChange fnPlainPathSpec)) fnPlainPathCard

/-- THE TIED CARD OF 'laws.FnSlashAhead'. -/
def fnSlashAheadCard : Claim7 := { stood := { row := fnSlashAheadRow, standIns := [], harness := (true, "a994db99b9a84022d4f7e972cf8d7919b4f098358aa2f56efe4a20b832e08c02"), looks := false }, kinds := [], alts := [], laidByText := true, laidKinds := [.data, .pinned, .pinned], laidTests := true, laidLooks := .later }
def FnSlashAheadCardSaid : Prop := Claim7.holds Tryz.pinned (.plain (OpenSpec.ofChange fnSlashAheadSpec)) fnSlashAheadCard

/-- THE TIED CARD OF 'laws.FnForTypeOwn'. -/
def fnForTypeOwnCard : Claim7 := { stood := { row := fnForTypeOwnRow, standIns := [], harness := (true, "a994db99b9a84022d4f7e972cf8d7919b4f098358aa2f56efe4a20b832e08c02"), looks := false }, kinds := [], alts := [], laidByText := true, laidKinds := [.data, .pinned, .pinned], laidTests := true, laidLooks := .later }
def FnForTypeOwnCardSaid : Prop := Claim7.holds Tryz.pinned (.plain (OpenSpec.ofChange fnForTypeOwnSpec)) fnForTypeOwnCard

/-- THE TIED CARD OF 'laws.FnResourceType'. -/
def fnResourceTypeCard : Claim7 := { stood := { row := fnResourceTypeRow, standIns := [], harness := (true, "a994db99b9a84022d4f7e972cf8d7919b4f098358aa2f56efe4a20b832e08c02"), looks := false }, kinds := [], alts := [], laidByText := true, laidKinds := [.data, .pinned, .pinned], laidTests := true, laidLooks := .later }
def FnResourceTypeCardSaid : Prop := Claim7.holds Tryz.pinned (.plain (OpenSpec.ofChange fnResourceTypeSpec)) fnResourceTypeCard

/-- THE SECOND FORM's CARD OF 'laws.FnHasExtension'. -/
def fnHasExtensionUptoCard : Claim7 := { stood := { row := fnHasExtensionUptoRow, standIns := [], harness := (true, "a994db99b9a84022d4f7e972cf8d7919b4f098358aa2f56efe4a20b832e08c02"), looks := false }, kinds := [], alts := [], laidByText := true, laidKinds := [.data, .pinned, .pinned], laidTests := true, laidLooks := .later }
def FnHasExtensionUptoCardSaid : Prop := Claim7.holds Tryz.pinned (.plain (OpenSpec.upto fnHasExtensionSpec)) fnHasExtensionUptoCard

/-- THE SECOND FORM's CARD OF 'laws.FnBundleTypes'. -/
def fnBundleTypesUptoCard : Claim7 := { stood := { row := fnBundleTypesUptoRow, standIns := [], harness := (true, "a994db99b9a84022d4f7e972cf8d7919b4f098358aa2f56efe4a20b832e08c02"), looks := false }, kinds := [], alts := [], laidByText := true, laidKinds := [.data, .pinned, .pinned], laidTests := true, laidLooks := .later }
def FnBundleTypesUptoCardSaid : Prop := Claim7.holds Tryz.pinned (.plain (OpenSpec.upto fnBundleTypesSpec)) fnBundleTypesUptoCard

/-- THE SECOND FORM's CARD OF 'laws.FnCase'. -/
def fnCaseUptoCard : Claim7 := { stood := { row := fnCaseUptoRow, standIns := [], harness := (true, "a994db99b9a84022d4f7e972cf8d7919b4f098358aa2f56efe4a20b832e08c02"), looks := false }, kinds := [], alts := [], laidByText := true, laidKinds := [.data, .pinned, .pinned], laidTests := true, laidLooks := .later }
def FnCaseUptoCardSaid : Prop := Claim7.holds Tryz.pinned (.plain (OpenSpec.upto fnCaseSpec)) fnCaseUptoCard

/-- THE SECOND FORM's CARD OF 'laws.FnContainerAbove'. -/
def fnContainerAboveUptoCard : Claim7 := { stood := { row := fnContainerAboveUptoRow, standIns := [], harness := (true, "a994db99b9a84022d4f7e972cf8d7919b4f098358aa2f56efe4a20b832e08c02"), looks := false }, kinds := [], alts := [], laidByText := true, laidKinds := [.data, .pinned, .pinned], laidTests := true, laidLooks := .later }
def FnContainerAboveUptoCardSaid : Prop := Claim7.holds Tryz.pinned (.plain (OpenSpec.upto fnContainerAboveSpec)) fnContainerAboveUptoCard

/-- THE SECOND FORM's CARD OF 'laws.FnDataName'. -/
def fnDataNameUptoCard : Claim7 := { stood := { row := fnDataNameUptoRow, standIns := [], harness := (true, "a994db99b9a84022d4f7e972cf8d7919b4f098358aa2f56efe4a20b832e08c02"), looks := false }, kinds := [], alts := [], laidByText := true, laidKinds := [.data, .pinned, .pinned], laidTests := true, laidLooks := .later }
def FnDataNameUptoCardSaid : Prop := Claim7.holds Tryz.pinned (.plain (OpenSpec.upto fnDataNameSpec)) fnDataNameUptoCard

/-- THE SECOND FORM's CARD OF 'laws.FnLayoutsAlone'. -/
def fnLayoutsAloneUptoCard : Claim7 := { stood := { row := fnLayoutsAloneUptoRow, standIns := [], harness := (true, "a994db99b9a84022d4f7e972cf8d7919b4f098358aa2f56efe4a20b832e08c02"), looks := false }, kinds := [], alts := [], laidByText := true, laidKinds := [.data, .pinned, .pinned], laidTests := true, laidLooks := .later }
def FnLayoutsAloneUptoCardSaid : Prop := Claim7.holds Tryz.pinned (.plain (OpenSpec.upto fnLayoutsAloneSpec)) fnLayoutsAloneUptoCard

/-- THE SECOND FORM's CARD OF 'laws.FnOthers'. -/
def fnOthersUptoCard : Claim7 := { stood := { row := fnOthersUptoRow, standIns := [], harness := (true, "a994db99b9a84022d4f7e972cf8d7919b4f098358aa2f56efe4a20b832e08c02"), looks := false }, kinds := [], alts := [], laidByText := true, laidKinds := [.data, .pinned, .pinned], laidTests := true, laidLooks := .later }
def FnOthersUptoCardSaid : Prop := Claim7.holds Tryz.pinned (.plain (OpenSpec.upto fnOthersSpec)) fnOthersUptoCard

/-- THE SECOND FORM's CARD OF 'laws.FnPathJoined'. -/
def fnPathJoinedUptoCard : Claim7 := { stood := { row := fnPathJoinedUptoRow, standIns := [], harness := (true, "a994db99b9a84022d4f7e972cf8d7919b4f098358aa2f56efe4a20b832e08c02"), looks := false }, kinds := [], alts := [], laidByText := true, laidKinds := [.data, .pinned, .pinned], laidTests := true, laidLooks := .later }
def FnPathJoinedUptoCardSaid : Prop := Claim7.holds Tryz.pinned (.plain (OpenSpec.upto fnPathJoinedSpec)) fnPathJoinedUptoCard

/-- THE SECOND FORM's CARD OF 'laws.FnPlainPath'. -/
def fnPlainPathUptoCard : Claim7 := { stood := { row := fnPlainPathUptoRow, standIns := [], harness := (true, "a994db99b9a84022d4f7e972cf8d7919b4f098358aa2f56efe4a20b832e08c02"), looks := false }, kinds := [], alts := [], laidByText := true, laidKinds := [.data, .pinned, .pinned], laidTests := true, laidLooks := .later }
def FnPlainPathUptoCardSaid : Prop := Claim7.holds Tryz.pinned (.plain (OpenSpec.upto fnPlainPathSpec)) fnPlainPathUptoCard

/-- THE SECOND FORM's CARD OF 'laws.FnSlashAhead'. -/
def fnSlashAheadUptoCard : Claim7 := { stood := { row := fnSlashAheadUptoRow, standIns := [], harness := (true, "a994db99b9a84022d4f7e972cf8d7919b4f098358aa2f56efe4a20b832e08c02"), looks := false }, kinds := [], alts := [], laidByText := true, laidKinds := [.data, .pinned, .pinned], laidTests := true, laidLooks := .later }
def FnSlashAheadUptoCardSaid : Prop := Claim7.holds Tryz.pinned (.plain (OpenSpec.upto fnSlashAheadSpec)) fnSlashAheadUptoCard

/-- THE SECOND FORM's CARD OF 'laws.FnForTypeOwn'. -/
def fnForTypeOwnUptoCard : Claim7 := { stood := { row := fnForTypeOwnUptoRow, standIns := [], harness := (true, "a994db99b9a84022d4f7e972cf8d7919b4f098358aa2f56efe4a20b832e08c02"), looks := false }, kinds := [], alts := [], laidByText := true, laidKinds := [.data, .pinned, .pinned], laidTests := true, laidLooks := .later }
def FnForTypeOwnUptoCardSaid : Prop := Claim7.holds Tryz.pinned (.plain (OpenSpec.upto fnForTypeOwnSpec)) fnForTypeOwnUptoCard

/-- THE SECOND FORM's CARD OF 'laws.FnResourceType'. -/
def fnResourceTypeUptoCard : Claim7 := { stood := { row := fnResourceTypeUptoRow, standIns := [], harness := (true, "a994db99b9a84022d4f7e972cf8d7919b4f098358aa2f56efe4a20b832e08c02"), looks := false }, kinds := [], alts := [], laidByText := true, laidKinds := [.data, .pinned, .pinned], laidTests := true, laidLooks := .later }
def FnResourceTypeUptoCardSaid : Prop := Claim7.holds Tryz.pinned (.plain (OpenSpec.upto fnResourceTypeSpec)) fnResourceTypeUptoCard
end Rows
end Go.Proofs.YtphpmgdakalnjaaGreatDoor
