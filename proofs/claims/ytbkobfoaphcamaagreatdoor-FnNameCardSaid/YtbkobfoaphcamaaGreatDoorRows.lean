/-
  NARROWER THAN 'FOR EVERY INPUT', by the rows' own cells (each row's printed sentence says how): FnBaseNameNoIdentifier: laid · FnComponent: laid · FnContainerDir: laid · FnCustom: laid · FnDir: laid · FnDisabled: laid · FnIdentifierBase: laid · FnIdentifiers: laid · FnIsBundle: laid · FnIsLeaf: laid · FnLayout: laid · FnName: laid.
  DERIVED. THE GIVEN ROWS OF THIS SEAT. 12 by the template 'for every input the law returns true; each argument reads behind the call as it read before'; 0 by the template 'total and deterministic' (their statements: YtbkobfoaphcamaaGreatDoorTotals.lean).
  GIVEN WITH THE SEED: the statements are not yours to turn. If you find one false, say at which input.
  Laid BY PROGRAM, IN A SANDBOX (cutbox-rows.mjs): the forced cells as the released guide's own fill.sh prints them over the translation 352596fa4909857b… (all of the seat's roots in one cut). By AI agents, Wed Nov 11 2026. No macro, syntax, notation, axiom, sorry.
-/
import Derived.Test.YtbkobfoaphcamaaGreatDoorChecked
import GoSem.PinnedTables
import GoSem.Claim
import GoSem.ClaimJoined
import GoSem.ClaimMapViews
import Derived.JoinedTies
import Derived.KernelRfl
namespace Go.Proofs.YtbkobfoaphcamaaGreatDoor
/- THE CELL 'sum', in the pinned program and in every row, IS THE sha256 OF THE DUMP (.gsa) THAT YtbkobfoaphcamaaGreatDoorProg.lean LOADS. Nothing in Lean hashes anything: it is a label: what it is worth is what the hold of that sum in a sandbox is worth. -/
noncomputable def Tryz.pinned : Pinned := { name := "ytbkobfoaphcamaagreatdoor", sum := "352596fa4909857b08a47e5d8383dd56a2a99f945e5160caded22f32a1510322", checked := Tryz.checked }
namespace Rows
def none {H : Type} : Left H := { results := [], args := [] }

/- WHAT THE LISTED PACKAGE-LEVEL VARIABLES READ AS WHEN THE CALL BEGINS. Each datum BY PROGRAM (the guide's laid-datum.mjs) off the statement by which the dump's own 'gosem.cut.vars' lays the variable. In a bare row this is a premise. The card (YtbkobfoaphcamaaGreatDoorCards.lean) ties it to the program's text. -/
def laid_unicode_utf8_acceptRanges {H : Type} : DataW H := .agg [.agg [.lit (.int .u8 128), .lit (.int .u8 191)], .agg [.lit (.int .u8 160), .lit (.int .u8 191)], .agg [.lit (.int .u8 128), .lit (.int .u8 159)], .agg [.lit (.int .u8 144), .lit (.int .u8 191)], .agg [.lit (.int .u8 128), .lit (.int .u8 143)], .agg [.lit (.int .u8 0), .lit (.int .u8 0)], .agg [.lit (.int .u8 0), .lit (.int .u8 0)], .agg [.lit (.int .u8 0), .lit (.int .u8 0)], .agg [.lit (.int .u8 0), .lit (.int .u8 0)], .agg [.lit (.int .u8 0), .lit (.int .u8 0)], .agg [.lit (.int .u8 0), .lit (.int .u8 0)], .agg [.lit (.int .u8 0), .lit (.int .u8 0)], .agg [.lit (.int .u8 0), .lit (.int .u8 0)], .agg [.lit (.int .u8 0), .lit (.int .u8 0)], .agg [.lit (.int .u8 0), .lit (.int .u8 0)], .agg [.lit (.int .u8 0), .lit (.int .u8 0)]]
/-- One of Go's own tables, pinned by name: the form's constant. -/
def laid_unicode_CaseRanges : DataW Unit := Go.Pinned.caseRanges
/-- One of Go's own tables, pinned by name: the form's constant. -/
def laid_unicode_utf8_first : DataW Unit := Go.Pinned.utf8First

/-- 'laws.FnBaseNameNoIdentifier': WHATEVER THE INPUT: true; the input reads as it did. -/
def fnBaseNameNoIdentifierSpec : ChangeSpec := { name := "fnBaseNameNoIdentifier", fn := fun _ => fun
  | [d1, d2, d3] => { results := [.lit (.bool true)], args := [d1, d2, d3] }
  | _ => none }
def fnBaseNameNoIdentifierRow : OpenClaim := { program := "ytbkobfoaphcamaagreatdoor", sum := "352596fa4909857b08a47e5d8383dd56a2a99f945e5160caded22f32a1510322", func := "pub-trackway/laws.FnBaseNameNoIdentifier", spec := "fnBaseNameNoIdentifier", inPlace := ["internal/abi.NoEscape", "internal/bytealg.MakeNoZero"], unfollowed := true, recurses := true, named := ["unicode/utf8.first", "unicode/utf8.acceptRanges", "unicode.CaseRanges"], apart := false, laid := [("unicode/utf8.acceptRanges", laid_unicode_utf8_acceptRanges), ("unicode.CaseRanges", laid_unicode_CaseRanges), ("unicode/utf8.first", laid_unicode_utf8_first)] }
def FnBaseNameNoIdentifierSaid : Prop := fnBaseNameNoIdentifierRow.holds Tryz.pinned (OpenSpec.ofChange fnBaseNameNoIdentifierSpec)

/-- ITS FALSE NEIGHBOUR: 'it returns false'. Refute it at one input. -/
def fnBaseNameNoIdentifierWrong : ChangeSpec := { name := "fnBaseNameNoIdentifier", fn := fun _ => fun
  | [d1, d2, d3] => { results := [.lit (.bool false)], args := [d1, d2, d3] }
  | _ => none }
def FnBaseNameNoIdentifierWrongFalsely : Prop := fnBaseNameNoIdentifierRow.holds Tryz.pinned (OpenSpec.ofChange fnBaseNameNoIdentifierWrong)

/-- 'laws.FnComponent': WHATEVER THE INPUT: true; the input reads as it did. -/
def fnComponentSpec : ChangeSpec := { name := "fnComponent", fn := fun _ => fun
  | [d1, d2, d3] => { results := [.lit (.bool true)], args := [d1, d2, d3] }
  | _ => none }
def fnComponentRow : OpenClaim := { program := "ytbkobfoaphcamaagreatdoor", sum := "352596fa4909857b08a47e5d8383dd56a2a99f945e5160caded22f32a1510322", func := "pub-trackway/laws.FnComponent", spec := "fnComponent", inPlace := ["internal/abi.NoEscape", "internal/bytealg.MakeNoZero"], unfollowed := true, recurses := true, named := ["unicode/utf8.first", "unicode/utf8.acceptRanges", "unicode.CaseRanges"], apart := false, laid := [("unicode/utf8.acceptRanges", laid_unicode_utf8_acceptRanges), ("unicode.CaseRanges", laid_unicode_CaseRanges), ("unicode/utf8.first", laid_unicode_utf8_first)] }
def FnComponentSaid : Prop := fnComponentRow.holds Tryz.pinned (OpenSpec.ofChange fnComponentSpec)

/-- ITS FALSE NEIGHBOUR: 'it returns false'. Refute it at one input. -/
def fnComponentWrong : ChangeSpec := { name := "fnComponent", fn := fun _ => fun
  | [d1, d2, d3] => { results := [.lit (.bool false)], args := [d1, d2, d3] }
  | _ => none }
def FnComponentWrongFalsely : Prop := fnComponentRow.holds Tryz.pinned (OpenSpec.ofChange fnComponentWrong)

/-- 'laws.FnContainerDir': WHATEVER THE INPUT: true; the input reads as it did. -/
def fnContainerDirSpec : ChangeSpec := { name := "fnContainerDir", fn := fun _ => fun
  | [d1, d2, d3] => { results := [.lit (.bool true)], args := [d1, d2, d3] }
  | _ => none }
def fnContainerDirRow : OpenClaim := { program := "ytbkobfoaphcamaagreatdoor", sum := "352596fa4909857b08a47e5d8383dd56a2a99f945e5160caded22f32a1510322", func := "pub-trackway/laws.FnContainerDir", spec := "fnContainerDir", inPlace := ["internal/abi.NoEscape", "internal/bytealg.MakeNoZero"], unfollowed := true, recurses := true, named := ["unicode/utf8.first", "unicode/utf8.acceptRanges", "unicode.CaseRanges"], apart := false, laid := [("unicode/utf8.acceptRanges", laid_unicode_utf8_acceptRanges), ("unicode.CaseRanges", laid_unicode_CaseRanges), ("unicode/utf8.first", laid_unicode_utf8_first)] }
def FnContainerDirSaid : Prop := fnContainerDirRow.holds Tryz.pinned (OpenSpec.ofChange fnContainerDirSpec)

/-- ITS FALSE NEIGHBOUR: 'it returns false'. Refute it at one input. -/
def fnContainerDirWrong : ChangeSpec := { name := "fnContainerDir", fn := fun _ => fun
  | [d1, d2, d3] => { results := [.lit (.bool false)], args := [d1, d2, d3] }
  | _ => none }
def FnContainerDirWrongFalsely : Prop := fnContainerDirRow.holds Tryz.pinned (OpenSpec.ofChange fnContainerDirWrong)

/-- 'laws.FnCustom': WHATEVER THE INPUT: true; the input reads as it did. -/
def fnCustomSpec : ChangeSpec := { name := "fnCustom", fn := fun _ => fun
  | [d1, d2, d3] => { results := [.lit (.bool true)], args := [d1, d2, d3] }
  | _ => none }
def fnCustomRow : OpenClaim := { program := "ytbkobfoaphcamaagreatdoor", sum := "352596fa4909857b08a47e5d8383dd56a2a99f945e5160caded22f32a1510322", func := "pub-trackway/laws.FnCustom", spec := "fnCustom", inPlace := ["internal/abi.NoEscape", "internal/bytealg.MakeNoZero"], unfollowed := true, recurses := true, named := ["unicode/utf8.first", "unicode/utf8.acceptRanges", "unicode.CaseRanges"], apart := false, laid := [("unicode/utf8.acceptRanges", laid_unicode_utf8_acceptRanges), ("unicode.CaseRanges", laid_unicode_CaseRanges), ("unicode/utf8.first", laid_unicode_utf8_first)] }
def FnCustomSaid : Prop := fnCustomRow.holds Tryz.pinned (OpenSpec.ofChange fnCustomSpec)

/-- ITS FALSE NEIGHBOUR: 'it returns false'. Refute it at one input. -/
def fnCustomWrong : ChangeSpec := { name := "fnCustom", fn := fun _ => fun
  | [d1, d2, d3] => { results := [.lit (.bool false)], args := [d1, d2, d3] }
  | _ => none }
def FnCustomWrongFalsely : Prop := fnCustomRow.holds Tryz.pinned (OpenSpec.ofChange fnCustomWrong)

/-- 'laws.FnDir': WHATEVER THE INPUT: true; the input reads as it did. -/
def fnDirSpec : ChangeSpec := { name := "fnDir", fn := fun _ => fun
  | [d1, d2, d3] => { results := [.lit (.bool true)], args := [d1, d2, d3] }
  | _ => none }
def fnDirRow : OpenClaim := { program := "ytbkobfoaphcamaagreatdoor", sum := "352596fa4909857b08a47e5d8383dd56a2a99f945e5160caded22f32a1510322", func := "pub-trackway/laws.FnDir", spec := "fnDir", inPlace := ["internal/abi.NoEscape", "internal/bytealg.MakeNoZero"], unfollowed := true, recurses := true, named := ["unicode/utf8.first", "unicode/utf8.acceptRanges", "unicode.CaseRanges"], apart := false, laid := [("unicode/utf8.acceptRanges", laid_unicode_utf8_acceptRanges), ("unicode.CaseRanges", laid_unicode_CaseRanges), ("unicode/utf8.first", laid_unicode_utf8_first)] }
def FnDirSaid : Prop := fnDirRow.holds Tryz.pinned (OpenSpec.ofChange fnDirSpec)

/-- ITS FALSE NEIGHBOUR: 'it returns false'. Refute it at one input. -/
def fnDirWrong : ChangeSpec := { name := "fnDir", fn := fun _ => fun
  | [d1, d2, d3] => { results := [.lit (.bool false)], args := [d1, d2, d3] }
  | _ => none }
def FnDirWrongFalsely : Prop := fnDirRow.holds Tryz.pinned (OpenSpec.ofChange fnDirWrong)

/-- 'laws.FnDisabled': WHATEVER THE INPUT: true; the input reads as it did. -/
def fnDisabledSpec : ChangeSpec := { name := "fnDisabled", fn := fun _ => fun
  | [d1, d2, d3] => { results := [.lit (.bool true)], args := [d1, d2, d3] }
  | _ => none }
def fnDisabledRow : OpenClaim := { program := "ytbkobfoaphcamaagreatdoor", sum := "352596fa4909857b08a47e5d8383dd56a2a99f945e5160caded22f32a1510322", func := "pub-trackway/laws.FnDisabled", spec := "fnDisabled", inPlace := ["internal/abi.NoEscape", "internal/bytealg.MakeNoZero"], unfollowed := true, recurses := true, named := ["unicode/utf8.first", "unicode/utf8.acceptRanges", "unicode.CaseRanges"], apart := false, laid := [("unicode/utf8.acceptRanges", laid_unicode_utf8_acceptRanges), ("unicode.CaseRanges", laid_unicode_CaseRanges), ("unicode/utf8.first", laid_unicode_utf8_first)] }
def FnDisabledSaid : Prop := fnDisabledRow.holds Tryz.pinned (OpenSpec.ofChange fnDisabledSpec)

/-- ITS FALSE NEIGHBOUR: 'it returns false'. Refute it at one input. -/
def fnDisabledWrong : ChangeSpec := { name := "fnDisabled", fn := fun _ => fun
  | [d1, d2, d3] => { results := [.lit (.bool false)], args := [d1, d2, d3] }
  | _ => none }
def FnDisabledWrongFalsely : Prop := fnDisabledRow.holds Tryz.pinned (OpenSpec.ofChange fnDisabledWrong)

/-- 'laws.FnIdentifierBase': WHATEVER THE INPUT: true; the input reads as it did. -/
def fnIdentifierBaseSpec : ChangeSpec := { name := "fnIdentifierBase", fn := fun _ => fun
  | [d1, d2, d3] => { results := [.lit (.bool true)], args := [d1, d2, d3] }
  | _ => none }
def fnIdentifierBaseRow : OpenClaim := { program := "ytbkobfoaphcamaagreatdoor", sum := "352596fa4909857b08a47e5d8383dd56a2a99f945e5160caded22f32a1510322", func := "pub-trackway/laws.FnIdentifierBase", spec := "fnIdentifierBase", inPlace := ["internal/abi.NoEscape", "internal/bytealg.MakeNoZero"], unfollowed := true, recurses := true, named := ["unicode/utf8.first", "unicode/utf8.acceptRanges", "unicode.CaseRanges"], apart := false, laid := [("unicode/utf8.acceptRanges", laid_unicode_utf8_acceptRanges), ("unicode.CaseRanges", laid_unicode_CaseRanges), ("unicode/utf8.first", laid_unicode_utf8_first)] }
def FnIdentifierBaseSaid : Prop := fnIdentifierBaseRow.holds Tryz.pinned (OpenSpec.ofChange fnIdentifierBaseSpec)

/-- ITS FALSE NEIGHBOUR: 'it returns false'. Refute it at one input. -/
def fnIdentifierBaseWrong : ChangeSpec := { name := "fnIdentifierBase", fn := fun _ => fun
  | [d1, d2, d3] => { results := [.lit (.bool false)], args := [d1, d2, d3] }
  | _ => none }
def FnIdentifierBaseWrongFalsely : Prop := fnIdentifierBaseRow.holds Tryz.pinned (OpenSpec.ofChange fnIdentifierBaseWrong)

/-- 'laws.FnIdentifiers': WHATEVER THE INPUT: true; the input reads as it did. -/
def fnIdentifiersSpec : ChangeSpec := { name := "fnIdentifiers", fn := fun _ => fun
  | [d1, d2, d3] => { results := [.lit (.bool true)], args := [d1, d2, d3] }
  | _ => none }
def fnIdentifiersRow : OpenClaim := { program := "ytbkobfoaphcamaagreatdoor", sum := "352596fa4909857b08a47e5d8383dd56a2a99f945e5160caded22f32a1510322", func := "pub-trackway/laws.FnIdentifiers", spec := "fnIdentifiers", inPlace := ["internal/abi.NoEscape", "internal/bytealg.MakeNoZero"], unfollowed := true, recurses := true, named := ["unicode/utf8.first", "unicode/utf8.acceptRanges", "unicode.CaseRanges"], apart := false, laid := [("unicode/utf8.acceptRanges", laid_unicode_utf8_acceptRanges), ("unicode.CaseRanges", laid_unicode_CaseRanges), ("unicode/utf8.first", laid_unicode_utf8_first)] }
def FnIdentifiersSaid : Prop := fnIdentifiersRow.holds Tryz.pinned (OpenSpec.ofChange fnIdentifiersSpec)

/-- ITS FALSE NEIGHBOUR: 'it returns false'. Refute it at one input. -/
def fnIdentifiersWrong : ChangeSpec := { name := "fnIdentifiers", fn := fun _ => fun
  | [d1, d2, d3] => { results := [.lit (.bool false)], args := [d1, d2, d3] }
  | _ => none }
def FnIdentifiersWrongFalsely : Prop := fnIdentifiersRow.holds Tryz.pinned (OpenSpec.ofChange fnIdentifiersWrong)

/-- 'laws.FnIsBundle': WHATEVER THE INPUT: true; the input reads as it did. -/
def fnIsBundleSpec : ChangeSpec := { name := "fnIsBundle", fn := fun _ => fun
  | [d1, d2, d3] => { results := [.lit (.bool true)], args := [d1, d2, d3] }
  | _ => none }
def fnIsBundleRow : OpenClaim := { program := "ytbkobfoaphcamaagreatdoor", sum := "352596fa4909857b08a47e5d8383dd56a2a99f945e5160caded22f32a1510322", func := "pub-trackway/laws.FnIsBundle", spec := "fnIsBundle", inPlace := ["internal/abi.NoEscape", "internal/bytealg.MakeNoZero"], unfollowed := true, recurses := true, named := ["unicode/utf8.first", "unicode/utf8.acceptRanges", "unicode.CaseRanges"], apart := false, laid := [("unicode/utf8.acceptRanges", laid_unicode_utf8_acceptRanges), ("unicode.CaseRanges", laid_unicode_CaseRanges), ("unicode/utf8.first", laid_unicode_utf8_first)] }
def FnIsBundleSaid : Prop := fnIsBundleRow.holds Tryz.pinned (OpenSpec.ofChange fnIsBundleSpec)

/-- ITS FALSE NEIGHBOUR: 'it returns false'. Refute it at one input. -/
def fnIsBundleWrong : ChangeSpec := { name := "fnIsBundle", fn := fun _ => fun
  | [d1, d2, d3] => { results := [.lit (.bool false)], args := [d1, d2, d3] }
  | _ => none }
def FnIsBundleWrongFalsely : Prop := fnIsBundleRow.holds Tryz.pinned (OpenSpec.ofChange fnIsBundleWrong)

/-- 'laws.FnIsLeaf': WHATEVER THE INPUT: true; the input reads as it did. -/
def fnIsLeafSpec : ChangeSpec := { name := "fnIsLeaf", fn := fun _ => fun
  | [d1, d2, d3] => { results := [.lit (.bool true)], args := [d1, d2, d3] }
  | _ => none }
def fnIsLeafRow : OpenClaim := { program := "ytbkobfoaphcamaagreatdoor", sum := "352596fa4909857b08a47e5d8383dd56a2a99f945e5160caded22f32a1510322", func := "pub-trackway/laws.FnIsLeaf", spec := "fnIsLeaf", inPlace := ["internal/abi.NoEscape", "internal/bytealg.MakeNoZero"], unfollowed := true, recurses := true, named := ["unicode/utf8.first", "unicode/utf8.acceptRanges", "unicode.CaseRanges"], apart := false, laid := [("unicode/utf8.acceptRanges", laid_unicode_utf8_acceptRanges), ("unicode.CaseRanges", laid_unicode_CaseRanges), ("unicode/utf8.first", laid_unicode_utf8_first)] }
def FnIsLeafSaid : Prop := fnIsLeafRow.holds Tryz.pinned (OpenSpec.ofChange fnIsLeafSpec)

/-- ITS FALSE NEIGHBOUR: 'it returns false'. Refute it at one input. -/
def fnIsLeafWrong : ChangeSpec := { name := "fnIsLeaf", fn := fun _ => fun
  | [d1, d2, d3] => { results := [.lit (.bool false)], args := [d1, d2, d3] }
  | _ => none }
def FnIsLeafWrongFalsely : Prop := fnIsLeafRow.holds Tryz.pinned (OpenSpec.ofChange fnIsLeafWrong)

/-- 'laws.FnLayout': WHATEVER THE INPUT: true; the input reads as it did. -/
def fnLayoutSpec : ChangeSpec := { name := "fnLayout", fn := fun _ => fun
  | [d1, d2, d3] => { results := [.lit (.bool true)], args := [d1, d2, d3] }
  | _ => none }
def fnLayoutRow : OpenClaim := { program := "ytbkobfoaphcamaagreatdoor", sum := "352596fa4909857b08a47e5d8383dd56a2a99f945e5160caded22f32a1510322", func := "pub-trackway/laws.FnLayout", spec := "fnLayout", inPlace := ["internal/abi.NoEscape", "internal/bytealg.MakeNoZero"], unfollowed := true, recurses := true, named := ["unicode/utf8.first", "unicode/utf8.acceptRanges", "unicode.CaseRanges"], apart := false, laid := [("unicode/utf8.acceptRanges", laid_unicode_utf8_acceptRanges), ("unicode.CaseRanges", laid_unicode_CaseRanges), ("unicode/utf8.first", laid_unicode_utf8_first)] }
def FnLayoutSaid : Prop := fnLayoutRow.holds Tryz.pinned (OpenSpec.ofChange fnLayoutSpec)

/-- ITS FALSE NEIGHBOUR: 'it returns false'. Refute it at one input. -/
def fnLayoutWrong : ChangeSpec := { name := "fnLayout", fn := fun _ => fun
  | [d1, d2, d3] => { results := [.lit (.bool false)], args := [d1, d2, d3] }
  | _ => none }
def FnLayoutWrongFalsely : Prop := fnLayoutRow.holds Tryz.pinned (OpenSpec.ofChange fnLayoutWrong)

/-- 'laws.FnName': WHATEVER THE INPUT: true; the input reads as it did. -/
def fnNameSpec : ChangeSpec := { name := "fnName", fn := fun _ => fun
  | [d1, d2, d3] => { results := [.lit (.bool true)], args := [d1, d2, d3] }
  | _ => none }
def fnNameRow : OpenClaim := { program := "ytbkobfoaphcamaagreatdoor", sum := "352596fa4909857b08a47e5d8383dd56a2a99f945e5160caded22f32a1510322", func := "pub-trackway/laws.FnName", spec := "fnName", inPlace := ["internal/abi.NoEscape", "internal/bytealg.MakeNoZero"], unfollowed := true, recurses := true, named := ["unicode/utf8.first", "unicode/utf8.acceptRanges", "unicode.CaseRanges"], apart := false, laid := [("unicode/utf8.acceptRanges", laid_unicode_utf8_acceptRanges), ("unicode.CaseRanges", laid_unicode_CaseRanges), ("unicode/utf8.first", laid_unicode_utf8_first)] }
def FnNameSaid : Prop := fnNameRow.holds Tryz.pinned (OpenSpec.ofChange fnNameSpec)

/-- ITS FALSE NEIGHBOUR: 'it returns false'. Refute it at one input. -/
def fnNameWrong : ChangeSpec := { name := "fnName", fn := fun _ => fun
  | [d1, d2, d3] => { results := [.lit (.bool false)], args := [d1, d2, d3] }
  | _ => none }
def FnNameWrongFalsely : Prop := fnNameRow.holds Tryz.pinned (OpenSpec.ofChange fnNameWrong)

/- THE SECOND FORM. 'bulk': how many values and letters a reading holds, each counted each time it is reached (what is shared counts as often as it is met; a slice's spare places count too). A statement '..UptoSaid' is the law's where the arguments, and the package variables that the reading takes, are together of bulk at most 1048576: NARROWER than '..Said'. Prove '..Said' where nothing that the law and all that it calls make is longer than what came in: it says more and counts as full. Else prove '..UptoSaid'. A law counts once. -/
mutual
def uptoBulk {H : Type} : DataW H → Nat
  | .lit (.string bytes) => bytes.length + 1
  | .lit _ => 1
  | .nil => 1
  | .ptr d => uptoBulk d + 1
  | .slice elems spare => uptoBulkAll elems + uptoBulkAll spare + 1
  | .agg parts => uptoBulkAll parts + 1
  | .iface _ d => uptoBulk d + 1
  | .map entries => uptoBulkEntries entries + 1
  | .held _ => 1
def uptoBulkAll {H : Type} : List (DataW H) → Nat
  | [] => 0
  | d :: r => uptoBulk d + uptoBulkAll r
def uptoBulkEntries {H : Type} : List (Lit × DataW H) → Nat
  | [] => 0
  | x :: r => uptoBulkEntry x + uptoBulkEntries r
def uptoBulkEntry {H : Type} : Lit × DataW H → Nat
  | (.string bytes, d) => bytes.length + uptoBulk d + 1
  | (_, d) => uptoBulk d + 1
 end
def uptoSmall : (H : Type) → List (DataW H) → Bool := fun _ ds => decide (uptoBulkAll ds ≤ 1048576)
def OpenSpec.upto (s : _root_.Go.ChangeSpec) : _root_.Go.OpenSpec := { _root_.Go.OpenSpec.ofChange s with cond := some uptoSmall }

/-- 'laws.FnBaseNameNoIdentifier', WHERE WHAT IT READS IS OF BULK AT MOST 1048576: true; the input reads as it did. -/
def fnBaseNameNoIdentifierUptoRow : OpenClaim := { program := "ytbkobfoaphcamaagreatdoor", sum := "352596fa4909857b08a47e5d8383dd56a2a99f945e5160caded22f32a1510322", func := "pub-trackway/laws.FnBaseNameNoIdentifier", spec := "fnBaseNameNoIdentifier", inPlace := ["internal/abi.NoEscape", "internal/bytealg.MakeNoZero"], unfollowed := true, recurses := true, named := ["unicode/utf8.first", "unicode/utf8.acceptRanges", "unicode.CaseRanges"], apart := false, laid := [("unicode/utf8.acceptRanges", laid_unicode_utf8_acceptRanges), ("unicode.CaseRanges", laid_unicode_CaseRanges), ("unicode/utf8.first", laid_unicode_utf8_first)], narrowed := true }
def FnBaseNameNoIdentifierUptoSaid : Prop := fnBaseNameNoIdentifierUptoRow.holds Tryz.pinned (OpenSpec.upto fnBaseNameNoIdentifierSpec)

/-- 'laws.FnComponent', WHERE WHAT IT READS IS OF BULK AT MOST 1048576: true; the input reads as it did. -/
def fnComponentUptoRow : OpenClaim := { program := "ytbkobfoaphcamaagreatdoor", sum := "352596fa4909857b08a47e5d8383dd56a2a99f945e5160caded22f32a1510322", func := "pub-trackway/laws.FnComponent", spec := "fnComponent", inPlace := ["internal/abi.NoEscape", "internal/bytealg.MakeNoZero"], unfollowed := true, recurses := true, named := ["unicode/utf8.first", "unicode/utf8.acceptRanges", "unicode.CaseRanges"], apart := false, laid := [("unicode/utf8.acceptRanges", laid_unicode_utf8_acceptRanges), ("unicode.CaseRanges", laid_unicode_CaseRanges), ("unicode/utf8.first", laid_unicode_utf8_first)], narrowed := true }
def FnComponentUptoSaid : Prop := fnComponentUptoRow.holds Tryz.pinned (OpenSpec.upto fnComponentSpec)

/-- 'laws.FnContainerDir', WHERE WHAT IT READS IS OF BULK AT MOST 1048576: true; the input reads as it did. -/
def fnContainerDirUptoRow : OpenClaim := { program := "ytbkobfoaphcamaagreatdoor", sum := "352596fa4909857b08a47e5d8383dd56a2a99f945e5160caded22f32a1510322", func := "pub-trackway/laws.FnContainerDir", spec := "fnContainerDir", inPlace := ["internal/abi.NoEscape", "internal/bytealg.MakeNoZero"], unfollowed := true, recurses := true, named := ["unicode/utf8.first", "unicode/utf8.acceptRanges", "unicode.CaseRanges"], apart := false, laid := [("unicode/utf8.acceptRanges", laid_unicode_utf8_acceptRanges), ("unicode.CaseRanges", laid_unicode_CaseRanges), ("unicode/utf8.first", laid_unicode_utf8_first)], narrowed := true }
def FnContainerDirUptoSaid : Prop := fnContainerDirUptoRow.holds Tryz.pinned (OpenSpec.upto fnContainerDirSpec)

/-- 'laws.FnCustom', WHERE WHAT IT READS IS OF BULK AT MOST 1048576: true; the input reads as it did. -/
def fnCustomUptoRow : OpenClaim := { program := "ytbkobfoaphcamaagreatdoor", sum := "352596fa4909857b08a47e5d8383dd56a2a99f945e5160caded22f32a1510322", func := "pub-trackway/laws.FnCustom", spec := "fnCustom", inPlace := ["internal/abi.NoEscape", "internal/bytealg.MakeNoZero"], unfollowed := true, recurses := true, named := ["unicode/utf8.first", "unicode/utf8.acceptRanges", "unicode.CaseRanges"], apart := false, laid := [("unicode/utf8.acceptRanges", laid_unicode_utf8_acceptRanges), ("unicode.CaseRanges", laid_unicode_CaseRanges), ("unicode/utf8.first", laid_unicode_utf8_first)], narrowed := true }
def FnCustomUptoSaid : Prop := fnCustomUptoRow.holds Tryz.pinned (OpenSpec.upto fnCustomSpec)

/-- 'laws.FnDir', WHERE WHAT IT READS IS OF BULK AT MOST 1048576: true; the input reads as it did. -/
def fnDirUptoRow : OpenClaim := { program := "ytbkobfoaphcamaagreatdoor", sum := "352596fa4909857b08a47e5d8383dd56a2a99f945e5160caded22f32a1510322", func := "pub-trackway/laws.FnDir", spec := "fnDir", inPlace := ["internal/abi.NoEscape", "internal/bytealg.MakeNoZero"], unfollowed := true, recurses := true, named := ["unicode/utf8.first", "unicode/utf8.acceptRanges", "unicode.CaseRanges"], apart := false, laid := [("unicode/utf8.acceptRanges", laid_unicode_utf8_acceptRanges), ("unicode.CaseRanges", laid_unicode_CaseRanges), ("unicode/utf8.first", laid_unicode_utf8_first)], narrowed := true }
def FnDirUptoSaid : Prop := fnDirUptoRow.holds Tryz.pinned (OpenSpec.upto fnDirSpec)

/-- 'laws.FnDisabled', WHERE WHAT IT READS IS OF BULK AT MOST 1048576: true; the input reads as it did. -/
def fnDisabledUptoRow : OpenClaim := { program := "ytbkobfoaphcamaagreatdoor", sum := "352596fa4909857b08a47e5d8383dd56a2a99f945e5160caded22f32a1510322", func := "pub-trackway/laws.FnDisabled", spec := "fnDisabled", inPlace := ["internal/abi.NoEscape", "internal/bytealg.MakeNoZero"], unfollowed := true, recurses := true, named := ["unicode/utf8.first", "unicode/utf8.acceptRanges", "unicode.CaseRanges"], apart := false, laid := [("unicode/utf8.acceptRanges", laid_unicode_utf8_acceptRanges), ("unicode.CaseRanges", laid_unicode_CaseRanges), ("unicode/utf8.first", laid_unicode_utf8_first)], narrowed := true }
def FnDisabledUptoSaid : Prop := fnDisabledUptoRow.holds Tryz.pinned (OpenSpec.upto fnDisabledSpec)

/-- 'laws.FnIdentifierBase', WHERE WHAT IT READS IS OF BULK AT MOST 1048576: true; the input reads as it did. -/
def fnIdentifierBaseUptoRow : OpenClaim := { program := "ytbkobfoaphcamaagreatdoor", sum := "352596fa4909857b08a47e5d8383dd56a2a99f945e5160caded22f32a1510322", func := "pub-trackway/laws.FnIdentifierBase", spec := "fnIdentifierBase", inPlace := ["internal/abi.NoEscape", "internal/bytealg.MakeNoZero"], unfollowed := true, recurses := true, named := ["unicode/utf8.first", "unicode/utf8.acceptRanges", "unicode.CaseRanges"], apart := false, laid := [("unicode/utf8.acceptRanges", laid_unicode_utf8_acceptRanges), ("unicode.CaseRanges", laid_unicode_CaseRanges), ("unicode/utf8.first", laid_unicode_utf8_first)], narrowed := true }
def FnIdentifierBaseUptoSaid : Prop := fnIdentifierBaseUptoRow.holds Tryz.pinned (OpenSpec.upto fnIdentifierBaseSpec)

/-- 'laws.FnIdentifiers', WHERE WHAT IT READS IS OF BULK AT MOST 1048576: true; the input reads as it did. -/
def fnIdentifiersUptoRow : OpenClaim := { program := "ytbkobfoaphcamaagreatdoor", sum := "352596fa4909857b08a47e5d8383dd56a2a99f945e5160caded22f32a1510322", func := "pub-trackway/laws.FnIdentifiers", spec := "fnIdentifiers", inPlace := ["internal/abi.NoEscape", "internal/bytealg.MakeNoZero"], unfollowed := true, recurses := true, named := ["unicode/utf8.first", "unicode/utf8.acceptRanges", "unicode.CaseRanges"], apart := false, laid := [("unicode/utf8.acceptRanges", laid_unicode_utf8_acceptRanges), ("unicode.CaseRanges", laid_unicode_CaseRanges), ("unicode/utf8.first", laid_unicode_utf8_first)], narrowed := true }
def FnIdentifiersUptoSaid : Prop := fnIdentifiersUptoRow.holds Tryz.pinned (OpenSpec.upto fnIdentifiersSpec)

/-- 'laws.FnIsBundle', WHERE WHAT IT READS IS OF BULK AT MOST 1048576: true; the input reads as it did. -/
def fnIsBundleUptoRow : OpenClaim := { program := "ytbkobfoaphcamaagreatdoor", sum := "352596fa4909857b08a47e5d8383dd56a2a99f945e5160caded22f32a1510322", func := "pub-trackway/laws.FnIsBundle", spec := "fnIsBundle", inPlace := ["internal/abi.NoEscape", "internal/bytealg.MakeNoZero"], unfollowed := true, recurses := true, named := ["unicode/utf8.first", "unicode/utf8.acceptRanges", "unicode.CaseRanges"], apart := false, laid := [("unicode/utf8.acceptRanges", laid_unicode_utf8_acceptRanges), ("unicode.CaseRanges", laid_unicode_CaseRanges), ("unicode/utf8.first", laid_unicode_utf8_first)], narrowed := true }
def FnIsBundleUptoSaid : Prop := fnIsBundleUptoRow.holds Tryz.pinned (OpenSpec.upto fnIsBundleSpec)

/-- 'laws.FnIsLeaf', WHERE WHAT IT READS IS OF BULK AT MOST 1048576: true; the input reads as it did. -/
def fnIsLeafUptoRow : OpenClaim := { program := "ytbkobfoaphcamaagreatdoor", sum := "352596fa4909857b08a47e5d8383dd56a2a99f945e5160caded22f32a1510322", func := "pub-trackway/laws.FnIsLeaf", spec := "fnIsLeaf", inPlace := ["internal/abi.NoEscape", "internal/bytealg.MakeNoZero"], unfollowed := true, recurses := true, named := ["unicode/utf8.first", "unicode/utf8.acceptRanges", "unicode.CaseRanges"], apart := false, laid := [("unicode/utf8.acceptRanges", laid_unicode_utf8_acceptRanges), ("unicode.CaseRanges", laid_unicode_CaseRanges), ("unicode/utf8.first", laid_unicode_utf8_first)], narrowed := true }
def FnIsLeafUptoSaid : Prop := fnIsLeafUptoRow.holds Tryz.pinned (OpenSpec.upto fnIsLeafSpec)

/-- 'laws.FnLayout', WHERE WHAT IT READS IS OF BULK AT MOST 1048576: true; the input reads as it did. -/
def fnLayoutUptoRow : OpenClaim := { program := "ytbkobfoaphcamaagreatdoor", sum := "352596fa4909857b08a47e5d8383dd56a2a99f945e5160caded22f32a1510322", func := "pub-trackway/laws.FnLayout", spec := "fnLayout", inPlace := ["internal/abi.NoEscape", "internal/bytealg.MakeNoZero"], unfollowed := true, recurses := true, named := ["unicode/utf8.first", "unicode/utf8.acceptRanges", "unicode.CaseRanges"], apart := false, laid := [("unicode/utf8.acceptRanges", laid_unicode_utf8_acceptRanges), ("unicode.CaseRanges", laid_unicode_CaseRanges), ("unicode/utf8.first", laid_unicode_utf8_first)], narrowed := true }
def FnLayoutUptoSaid : Prop := fnLayoutUptoRow.holds Tryz.pinned (OpenSpec.upto fnLayoutSpec)

/-- 'laws.FnName', WHERE WHAT IT READS IS OF BULK AT MOST 1048576: true; the input reads as it did. -/
def fnNameUptoRow : OpenClaim := { program := "ytbkobfoaphcamaagreatdoor", sum := "352596fa4909857b08a47e5d8383dd56a2a99f945e5160caded22f32a1510322", func := "pub-trackway/laws.FnName", spec := "fnName", inPlace := ["internal/abi.NoEscape", "internal/bytealg.MakeNoZero"], unfollowed := true, recurses := true, named := ["unicode/utf8.first", "unicode/utf8.acceptRanges", "unicode.CaseRanges"], apart := false, laid := [("unicode/utf8.acceptRanges", laid_unicode_utf8_acceptRanges), ("unicode.CaseRanges", laid_unicode_CaseRanges), ("unicode/utf8.first", laid_unicode_utf8_first)], narrowed := true }
def FnNameUptoSaid : Prop := fnNameUptoRow.holds Tryz.pinned (OpenSpec.upto fnNameSpec)

end Rows
end Go.Proofs.YtbkobfoaphcamaaGreatDoor
