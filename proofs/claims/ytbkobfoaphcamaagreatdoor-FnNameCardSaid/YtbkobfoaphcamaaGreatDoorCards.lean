/-
  DERIVED. GIVEN WITH THE SEED: THE CARDS: each row of YtbkobfoaphcamaaGreatDoorRows.lean that lists a variable, with what it lists TIED to the program's text (the seventh form; the later family's looks); each row that meets fmt, with fmt's text TOLD by the authors' own Lean function (tested against real Go, not proved from fmt's source: count such statements apart). THE CARD IS WHAT COUNTS. Prove the row's statement (the work); the ties are given (YtbkobfoaphcamaaGreatDoorTie.lean); close each card by the builder's one call (the guide's Derived/Test/ToyasCard.lean, 'card_holds'). Laid BY PROGRAM, IN A SANDBOX (cutbox-door.mjs). By AI agents, Wed Nov 11 2026. No macro, syntax, notation, axiom, sorry.
-/
import Derived.Test.YtbkobfoaphcamaaGreatDoorRows
import GoSem.ClaimSeven
namespace Go.Proofs.YtbkobfoaphcamaaGreatDoor
namespace Rows

/-- THE TIED CARD OF 'laws.FnBaseNameNoIdentifier'. -/
def fnBaseNameNoIdentifierCard : Claim7 := { stood := { row := fnBaseNameNoIdentifierRow, standIns := [], harness := (true, "bbac16e5446246446d4b56098fed3971b4c1910750e37e7287c69ceefc9a2dc6"), looks := false }, kinds := [], alts := [], laidByText := true, laidKinds := [.data, .pinned, .pinned], laidTests := true, laidLooks := .later }
def FnBaseNameNoIdentifierCardSaid : Prop := Claim7.holds Tryz.pinned (.plain (OpenSpec.ofChange fnBaseNameNoIdentifierSpec)) fnBaseNameNoIdentifierCard

/-- THE TIED CARD OF 'laws.FnComponent'. -/
def fnComponentCard : Claim7 := { stood := { row := fnComponentRow, standIns := [], harness := (true, "bbac16e5446246446d4b56098fed3971b4c1910750e37e7287c69ceefc9a2dc6"), looks := false }, kinds := [], alts := [], laidByText := true, laidKinds := [.data, .pinned, .pinned], laidTests := true, laidLooks := .later }
def FnComponentCardSaid : Prop := Claim7.holds Tryz.pinned (.plain (OpenSpec.ofChange fnComponentSpec)) fnComponentCard

/-- THE TIED CARD OF 'laws.FnContainerDir'. -/
def fnContainerDirCard : Claim7 := { stood := { row := fnContainerDirRow, standIns := [], harness := (true, "bbac16e5446246446d4b56098fed3971b4c1910750e37e7287c69ceefc9a2dc6"), looks := false }, kinds := [], alts := [], laidByText := true, laidKinds := [.data, .pinned, .pinned], laidTests := true, laidLooks := .later }
def FnContainerDirCardSaid : Prop := Claim7.holds Tryz.pinned (.plain (OpenSpec.ofChange fnContainerDirSpec)) fnContainerDirCard

/-- THE TIED CARD OF 'laws.FnCustom'. -/
def fnCustomCard : Claim7 := { stood := { row := fnCustomRow, standIns := [], harness := (true, "bbac16e5446246446d4b56098fed3971b4c1910750e37e7287c69ceefc9a2dc6"), looks := false }, kinds := [], alts := [], laidByText := true, laidKinds := [.data, .pinned, .pinned], laidTests := true, laidLooks := .later }
def FnCustomCardSaid : Prop := Claim7.holds Tryz.pinned (.plain (OpenSpec.ofChange fnCustomSpec)) fnCustomCard

/-- THE TIED CARD OF 'laws.FnDir'. -/
def fnDirCard : Claim7 := { stood := { row := fnDirRow, standIns := [], harness := (true, "bbac16e5446246446d4b56098fed3971b4c1910750e37e7287c69ceefc9a2dc6"), looks := false }, kinds := [], alts := [], laidByText := true, laidKinds := [.data, .pinned, .pinned], laidTests := true, laidLooks := .later }
def FnDirCardSaid : Prop := Claim7.holds Tryz.pinned (.plain (OpenSpec.ofChange fnDirSpec)) fnDirCard

/-- THE TIED CARD OF 'laws.FnDisabled'. -/
def fnDisabledCard : Claim7 := { stood := { row := fnDisabledRow, standIns := [], harness := (true, "bbac16e5446246446d4b56098fed3971b4c1910750e37e7287c69ceefc9a2dc6"), looks := false }, kinds := [], alts := [], laidByText := true, laidKinds := [.data, .pinned, .pinned], laidTests := true, laidLooks := .later }
def FnDisabledCardSaid : Prop := Claim7.holds Tryz.pinned (.plain (OpenSpec.ofChange fnDisabledSpec)) fnDisabledCard

/-- THE TIED CARD OF 'laws.FnIdentifierBase'. -/
def fnIdentifierBaseCard : Claim7 := { stood := { row := fnIdentifierBaseRow, standIns := [], harness := (true, "bbac16e5446246446d4b56098fed3971b4c1910750e37e7287c69ceefc9a2dc6"), looks := false }, kinds := [], alts := [], laidByText := true, laidKinds := [.data, .pinned, .pinned], laidTests := true, laidLooks := .later }
def FnIdentifierBaseCardSaid : Prop := Claim7.holds Tryz.pinned (.plain (OpenSpec.ofChange fnIdentifierBaseSpec)) fnIdentifierBaseCard

/-- THE TIED CARD OF 'laws.FnIdentifiers'. -/
def fnIdentifiersCard : Claim7 := { stood := { row := fnIdentifiersRow, standIns := [], harness := (true, "bbac16e5446246446d4b56098fed3971b4c1910750e37e7287c69ceefc9a2dc6"), looks := false }, kinds := [], alts := [], laidByText := true, laidKinds := [.data, .pinned, .pinned], laidTests := true, laidLooks := .later }
def FnIdentifiersCardSaid : Prop := Claim7.holds Tryz.pinned (.plain (OpenSpec.ofChange fnIdentifiersSpec)) fnIdentifiersCard

/-- THE TIED CARD OF 'laws.FnIsBundle'. -/
def fnIsBundleCard : Claim7 := { stood := { row := fnIsBundleRow, standIns := [], harness := (true, "bbac16e5446246446d4b56098fed3971b4c1910750e37e7287c69ceefc9a2dc6"), looks := false }, kinds := [], alts := [], laidByText := true, laidKinds := [.data, .pinned, .pinned], laidTests := true, laidLooks := .later }
def FnIsBundleCardSaid : Prop := Claim7.holds Tryz.pinned (.plain (OpenSpec.ofChange fnIsBundleSpec)) fnIsBundleCard

/-- THE TIED CARD OF 'laws.FnIsLeaf'. -/
def fnIsLeafCard : Claim7 := { stood := { row := fnIsLeafRow, standIns := [], harness := (true, "bbac16e5446246446d4b56098fed3971b4c1910750e37e7287c69ceefc9a2dc6"), looks := false }, kinds := [], alts := [], laidByText := true, laidKinds := [.data, .pinned, .pinned], laidTests := true, laidLooks := .later }
def FnIsLeafCardSaid : Prop := Claim7.holds Tryz.pinned (.plain (OpenSpec.ofChange fnIsLeafSpec)) fnIsLeafCard

/-- THE TIED CARD OF 'laws.FnLayout'. -/
def fnLayoutCard : Claim7 := { stood := { row := fnLayoutRow, standIns := [], harness := (true, "bbac16e5446246446d4b56098fed3971b4c1910750e37e7287c69ceefc9a2dc6"), looks := false }, kinds := [], alts := [], laidByText := true, laidKinds := [.data, .pinned, .pinned], laidTests := true, laidLooks := .later }
def FnLayoutCardSaid : Prop := Claim7.holds Tryz.pinned (.plain (OpenSpec.ofChange fnLayoutSpec)) fnLayoutCard

/-- THE TIED CARD OF 'laws.FnName'. -/
def fnNameCard : Claim7 := { stood := { row := fnNameRow, standIns := [], harness := (true, "bbac16e5446246446d4b56098fed3971b4c1910750e37e7287c69ceefc9a2dc6"), looks := false }, kinds := [], alts := [], laidByText := true, laidKinds := [.data, .pinned, .pinned], laidTests := true, laidLooks := .later }
def FnNameCardSaid : Prop := Claim7.holds Tryz.pinned (.plain (OpenSpec.ofChange fnNameSpec)) fnNameCard

/-- THE SECOND FORM's CARD OF 'laws.FnBaseNameNoIdentifier'. -/
def fnBaseNameNoIdentifierUptoCard : Claim7 := { stood := { row := fnBaseNameNoIdentifierUptoRow, standIns := [], harness := (true, "bbac16e5446246446d4b56098fed3971b4c1910750e37e7287c69ceefc9a2dc6"), looks := false }, kinds := [], alts := [], laidByText := true, laidKinds := [.data, .pinned, .pinned], laidTests := true, laidLooks := .later }
def FnBaseNameNoIdentifierUptoCardSaid : Prop := Claim7.holds Tryz.pinned (.plain (OpenSpec.upto fnBaseNameNoIdentifierSpec)) fnBaseNameNoIdentifierUptoCard

/-- THE SECOND FORM's CARD OF 'laws.FnComponent'. -/
def fnComponentUptoCard : Claim7 := { stood := { row := fnComponentUptoRow, standIns := [], harness := (true, "bbac16e5446246446d4b56098fed3971b4c1910750e37e7287c69ceefc9a2dc6"), looks := false }, kinds := [], alts := [], laidByText := true, laidKinds := [.data, .pinned, .pinned], laidTests := true, laidLooks := .later }
def FnComponentUptoCardSaid : Prop := Claim7.holds Tryz.pinned (.plain (OpenSpec.upto fnComponentSpec)) fnComponentUptoCard

/-- THE SECOND FORM's CARD OF 'laws.FnContainerDir'. -/
def fnContainerDirUptoCard : Claim7 := { stood := { row := fnContainerDirUptoRow, standIns := [], harness := (true, "bbac16e5446246446d4b56098fed3971b4c1910750e37e7287c69ceefc9a2dc6"), looks := false }, kinds := [], alts := [], laidByText := true, laidKinds := [.data, .pinned, .pinned], laidTests := true, laidLooks := .later }
def FnContainerDirUptoCardSaid : Prop := Claim7.holds Tryz.pinned (.plain (OpenSpec.upto fnContainerDirSpec)) fnContainerDirUptoCard

/-- THE SECOND FORM's CARD OF 'laws.FnCustom'. -/
def fnCustomUptoCard : Claim7 := { stood := { row := fnCustomUptoRow, standIns := [], harness := (true, "bbac16e5446246446d4b56098fed3971b4c1910750e37e7287c69ceefc9a2dc6"), looks := false }, kinds := [], alts := [], laidByText := true, laidKinds := [.data, .pinned, .pinned], laidTests := true, laidLooks := .later }
def FnCustomUptoCardSaid : Prop := Claim7.holds Tryz.pinned (.plain (OpenSpec.upto fnCustomSpec)) fnCustomUptoCard

/-- THE SECOND FORM's CARD OF 'laws.FnDir'. -/
def fnDirUptoCard : Claim7 := { stood := { row := fnDirUptoRow, standIns := [], harness := (true, "bbac16e5446246446d4b56098fed3971b4c1910750e37e7287c69ceefc9a2dc6"), looks := false }, kinds := [], alts := [], laidByText := true, laidKinds := [.data, .pinned, .pinned], laidTests := true, laidLooks := .later }
def FnDirUptoCardSaid : Prop := Claim7.holds Tryz.pinned (.plain (OpenSpec.upto fnDirSpec)) fnDirUptoCard

/-- THE SECOND FORM's CARD OF 'laws.FnDisabled'. -/
def fnDisabledUptoCard : Claim7 := { stood := { row := fnDisabledUptoRow, standIns := [], harness := (true, "bbac16e5446246446d4b56098fed3971b4c1910750e37e7287c69ceefc9a2dc6"), looks := false }, kinds := [], alts := [], laidByText := true, laidKinds := [.data, .pinned, .pinned], laidTests := true, laidLooks := .later }
def FnDisabledUptoCardSaid : Prop := Claim7.holds Tryz.pinned (.plain (OpenSpec.upto fnDisabledSpec)) fnDisabledUptoCard

/-- THE SECOND FORM's CARD OF 'laws.FnIdentifierBase'. -/
def fnIdentifierBaseUptoCard : Claim7 := { stood := { row := fnIdentifierBaseUptoRow, standIns := [], harness := (true, "bbac16e5446246446d4b56098fed3971b4c1910750e37e7287c69ceefc9a2dc6"), looks := false }, kinds := [], alts := [], laidByText := true, laidKinds := [.data, .pinned, .pinned], laidTests := true, laidLooks := .later }
def FnIdentifierBaseUptoCardSaid : Prop := Claim7.holds Tryz.pinned (.plain (OpenSpec.upto fnIdentifierBaseSpec)) fnIdentifierBaseUptoCard

/-- THE SECOND FORM's CARD OF 'laws.FnIdentifiers'. -/
def fnIdentifiersUptoCard : Claim7 := { stood := { row := fnIdentifiersUptoRow, standIns := [], harness := (true, "bbac16e5446246446d4b56098fed3971b4c1910750e37e7287c69ceefc9a2dc6"), looks := false }, kinds := [], alts := [], laidByText := true, laidKinds := [.data, .pinned, .pinned], laidTests := true, laidLooks := .later }
def FnIdentifiersUptoCardSaid : Prop := Claim7.holds Tryz.pinned (.plain (OpenSpec.upto fnIdentifiersSpec)) fnIdentifiersUptoCard

/-- THE SECOND FORM's CARD OF 'laws.FnIsBundle'. -/
def fnIsBundleUptoCard : Claim7 := { stood := { row := fnIsBundleUptoRow, standIns := [], harness := (true, "bbac16e5446246446d4b56098fed3971b4c1910750e37e7287c69ceefc9a2dc6"), looks := false }, kinds := [], alts := [], laidByText := true, laidKinds := [.data, .pinned, .pinned], laidTests := true, laidLooks := .later }
def FnIsBundleUptoCardSaid : Prop := Claim7.holds Tryz.pinned (.plain (OpenSpec.upto fnIsBundleSpec)) fnIsBundleUptoCard

/-- THE SECOND FORM's CARD OF 'laws.FnIsLeaf'. -/
def fnIsLeafUptoCard : Claim7 := { stood := { row := fnIsLeafUptoRow, standIns := [], harness := (true, "bbac16e5446246446d4b56098fed3971b4c1910750e37e7287c69ceefc9a2dc6"), looks := false }, kinds := [], alts := [], laidByText := true, laidKinds := [.data, .pinned, .pinned], laidTests := true, laidLooks := .later }
def FnIsLeafUptoCardSaid : Prop := Claim7.holds Tryz.pinned (.plain (OpenSpec.upto fnIsLeafSpec)) fnIsLeafUptoCard

/-- THE SECOND FORM's CARD OF 'laws.FnLayout'. -/
def fnLayoutUptoCard : Claim7 := { stood := { row := fnLayoutUptoRow, standIns := [], harness := (true, "bbac16e5446246446d4b56098fed3971b4c1910750e37e7287c69ceefc9a2dc6"), looks := false }, kinds := [], alts := [], laidByText := true, laidKinds := [.data, .pinned, .pinned], laidTests := true, laidLooks := .later }
def FnLayoutUptoCardSaid : Prop := Claim7.holds Tryz.pinned (.plain (OpenSpec.upto fnLayoutSpec)) fnLayoutUptoCard

/-- THE SECOND FORM's CARD OF 'laws.FnName'. -/
def fnNameUptoCard : Claim7 := { stood := { row := fnNameUptoRow, standIns := [], harness := (true, "bbac16e5446246446d4b56098fed3971b4c1910750e37e7287c69ceefc9a2dc6"), looks := false }, kinds := [], alts := [], laidByText := true, laidKinds := [.data, .pinned, .pinned], laidTests := true, laidLooks := .later }
def FnNameUptoCardSaid : Prop := Claim7.holds Tryz.pinned (.plain (OpenSpec.upto fnNameSpec)) fnNameUptoCard
end Rows
end Go.Proofs.YtbkobfoaphcamaaGreatDoor
