/-
  DERIVED. GIVEN WITH THE SEED: THE CARDS: each row of YtlmhngnbmoahdaaDoorRows.lean that lists a variable, with what it lists TIED to the program's text (the seventh form; the later family's looks); each row that meets fmt, with fmt's text TOLD by the authors' own Lean function (tested against real Go, not proved from fmt's source: count such statements apart). THE CARD IS WHAT COUNTS. Prove the row's statement (the work); the ties are given (YtlmhngnbmoahdaaDoorTie.lean); close each card by the builder's one call (the guide's Derived/Test/ToyasCard.lean, 'card_holds'). Laid BY PROGRAM, IN A SANDBOX (cutbox-door.mjs). By AI agents, Wed Nov 11 2026. No macro, syntax, notation, axiom, sorry.
-/
import Derived.Test.YtlmhngnbmoahdaaDoorRows
import GoSem.ClaimSeven
namespace Go.Proofs.YtlmhngnbmoahdaaDoor
namespace Rows

/-- THE TIED CARD OF 'laws.FnNormalizeTwice'. -/
def fnNormalizeTwiceCard : Claim7 := { stood := { row := fnNormalizeTwiceRow, standIns := [], harness := (true, "ec8f6d6162a9188f97d6ac08d78aa6cc34a4de5cb688fec11b040289065c7a88"), looks := false }, kinds := [], alts := [], laidByText := true, laidKinds := [.data, .pinned, .pinned], laidTests := true, laidLooks := .later }
def FnNormalizeTwiceCardSaid : Prop := Claim7.holds Tryd.pinned (.plain (OpenSpec.ofChange fnNormalizeTwiceSpec)) fnNormalizeTwiceCard

/-- THE TIED CARD OF 'laws.FnValidIdentifier'. -/
def fnValidIdentifierCard : Claim7 := { stood := { row := fnValidIdentifierRow, standIns := [], harness := (true, "ec8f6d6162a9188f97d6ac08d78aa6cc34a4de5cb688fec11b040289065c7a88"), looks := false }, kinds := [], alts := [], laidByText := true, laidKinds := [.data, .pinned, .pinned], laidTests := true, laidLooks := .later }
def FnValidIdentifierCardSaid : Prop := Claim7.holds Tryd.pinned (.plain (OpenSpec.ofChange fnValidIdentifierSpec)) fnValidIdentifierCard

/-- THE SECOND FORM's CARD OF 'laws.FnNormalizeTwice'. -/
def fnNormalizeTwiceUptoCard : Claim7 := { stood := { row := fnNormalizeTwiceUptoRow, standIns := [], harness := (true, "ec8f6d6162a9188f97d6ac08d78aa6cc34a4de5cb688fec11b040289065c7a88"), looks := false }, kinds := [], alts := [], laidByText := true, laidKinds := [.data, .pinned, .pinned], laidTests := true, laidLooks := .later }
def FnNormalizeTwiceUptoCardSaid : Prop := Claim7.holds Tryd.pinned (.plain (OpenSpec.upto fnNormalizeTwiceSpec)) fnNormalizeTwiceUptoCard

/-- THE SECOND FORM's CARD OF 'laws.FnValidIdentifier'. -/
def fnValidIdentifierUptoCard : Claim7 := { stood := { row := fnValidIdentifierUptoRow, standIns := [], harness := (true, "ec8f6d6162a9188f97d6ac08d78aa6cc34a4de5cb688fec11b040289065c7a88"), looks := false }, kinds := [], alts := [], laidByText := true, laidKinds := [.data, .pinned, .pinned], laidTests := true, laidLooks := .later }
def FnValidIdentifierUptoCardSaid : Prop := Claim7.holds Tryd.pinned (.plain (OpenSpec.upto fnValidIdentifierSpec)) fnValidIdentifierUptoCard
end Rows
end Go.Proofs.YtlmhngnbmoahdaaDoor
