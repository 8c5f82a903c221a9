/-
  NARROWER THAN 'FOR EVERY INPUT', by the rows' own cells (each row's printed sentence says how): FnHasExtension: laid · FnBundleTypes: laid · FnCase: laid · FnContainerAbove: laid · FnDataName: laid · FnLayoutsAlone: laid · FnOthers: laid · FnPathJoined: laid · FnPlainPath: laid · FnSlashAhead: laid · FnForTypeOwn: laid · FnResourceType: laid.
  DERIVED. THE GIVEN ROWS OF THIS SEAT. 12 by the template 'for every input the law returns true; each argument reads behind the call as it read before'; 0 by the template 'total and deterministic' (their statements: YtphpmgdakalnjaaGreatDoorTotals.lean).
  GIVEN WITH THE SEED: the statements are not yours to turn. If you find one false, say at which input.
  Laid BY PROGRAM, IN A SANDBOX (cutbox-rows.mjs): the forced cells as the released guide's own fill.sh prints them over the translation 43e71ecbc2152703… (all of the seat's roots in one cut). By AI agents, Wed Nov 11 2026. No macro, syntax, notation, axiom, sorry.
-/
import Derived.Test.YtphpmgdakalnjaaGreatDoorChecked
import GoSem.PinnedTables
import GoSem.Claim
import GoSem.ClaimJoined
import GoSem.ClaimMapViews
import Derived.JoinedTies
import Derived.KernelRfl
namespace Go.Proofs.YtphpmgdakalnjaaGreatDoor
/- THE CELL 'sum', in the pinned program and in every row, IS THE sha256 OF THE DUMP (.gsa) THAT YtphpmgdakalnjaaGreatDoorProg.lean LOADS. Nothing in Lean hashes anything: it is a label: what it is worth is what the hold of that sum in a sandbox is worth. -/
noncomputable def Tryz.pinned : Pinned := { name := "ytphpmgdakalnjaagreatdoor", sum := "43e71ecbc2152703c3e5ec4efe4d2ccc96cbffe2644eff0dedc74ddcfbf8e635", checked := Tryz.checked }
namespace Rows
def none {H : Type} : Left H := { results := [], args := [] }

/- WHAT THE LISTED PACKAGE-LEVEL VARIABLES READ AS WHEN THE CALL BEGINS. Each datum BY PROGRAM (the guide's laid-datum.mjs) off the statement by which the dump's own 'gosem.cut.vars' lays the variable. In a bare row this is a premise. The card (YtphpmgdakalnjaaGreatDoorCards.lean) ties it to the program's text. -/
def laid_unicode_utf8_acceptRanges {H : Type} : DataW H := .agg [.agg [.lit (.int .u8 128), .lit (.int .u8 191)], .agg [.lit (.int .u8 160), .lit (.int .u8 191)], .agg [.lit (.int .u8 128), .lit (.int .u8 159)], .agg [.lit (.int .u8 144), .lit (.int .u8 191)], .agg [.lit (.int .u8 128), .lit (.int .u8 143)], .agg [.lit (.int .u8 0), .lit (.int .u8 0)], .agg [.lit (.int .u8 0), .lit (.int .u8 0)], .agg [.lit (.int .u8 0), .lit (.int .u8 0)], .agg [.lit (.int .u8 0), .lit (.int .u8 0)], .agg [.lit (.int .u8 0), .lit (.int .u8 0)], .agg [.lit (.int .u8 0), .lit (.int .u8 0)], .agg [.lit (.int .u8 0), .lit (.int .u8 0)], .agg [.lit (.int .u8 0), .lit (.int .u8 0)], .agg [.lit (.int .u8 0), .lit (.int .u8 0)], .agg [.lit (.int .u8 0), .lit (.int .u8 0)], .agg [.lit (.int .u8 0), .lit (.int .u8 0)]]
/-- One of Go's own tables, pinned by name: the form's constant. -/
def laid_unicode_CaseRanges : DataW Unit := Go.Pinned.caseRanges
/-- One of Go's own tables, pinned by name: the form's constant. -/
def laid_unicode_utf8_first : DataW Unit := Go.Pinned.utf8First

/-- 'laws.FnHasExtension': WHATEVER THE INPUT: true; the input reads as it did. -/
def fnHasExtensionSpec : ChangeSpec := { name := "fnHasExtension", fn := fun _ => fun
  | [d1, d2, d3] => { results := [.lit (.bool true)], args := [d1, d2, d3] }
  | _ => none }
def fnHasExtensionRow : OpenClaim := { program := "ytphpmgdakalnjaagreatdoor", sum := "43e71ecbc2152703c3e5ec4efe4d2ccc96cbffe2644eff0dedc74ddcfbf8e635", func := "pub-trackway/laws.FnHasExtension", spec := "fnHasExtension", inPlace := ["internal/abi.NoEscape", "internal/bytealg.MakeNoZero"], unfollowed := true, recurses := true, named := ["unicode/utf8.first", "unicode/utf8.acceptRanges", "unicode.CaseRanges"], apart := false, laid := [("unicode/utf8.acceptRanges", laid_unicode_utf8_acceptRanges), ("unicode.CaseRanges", laid_unicode_CaseRanges), ("unicode/utf8.first", laid_unicode_utf8_first)] }
def FnHasExtensionSaid : Prop := fnHasExtensionRow.holds Tryz.pinned (OpenSpec.ofChange fnHasExtensionSpec)

/-- ITS FALSE NEIGHBOUR: 'it returns false'. Refute it at one input. -/
def fnHasExtensionWrong : ChangeSpec := { name := "fnHasExtension", fn := fun _ => fun
  | [d1, d2, d3] => { results := [.lit (.bool false)], args := [d1, d2, d3] }
  | _ => none }
def FnHasExtensionWrongFalsely : Prop := fnHasExtensionRow.holds Tryz.pinned (OpenSpec.ofChange fnHasExtensionWrong)

/-- 'laws.FnBundleTypes': WHATEVER THE INPUT: true; the input reads as it did. -/
def fnBundleTypesSpec : ChangeSpec := { name := "fnBundleTypes", fn := fun _ => fun
  | [d1, d2, d3] => { results := [.lit (.bool true)], args := [d1, d2, d3] }
  | _ => none }
def fnBundleTypesRow : OpenClaim := { program := "ytphpmgdakalnjaagreatdoor", sum := "43e71ecbc2152703c3e5ec4efe4d2ccc96cbffe2644eff0dedc74ddcfbf8e635", func := "pub-trackway/laws.FnBundleTypes", spec := "fnBundleTypes", inPlace := ["internal/abi.NoEscape", "internal/bytealg.MakeNoZero"], unfollowed := true, recurses := true, named := ["unicode/utf8.first", "unicode/utf8.acceptRanges", "unicode.CaseRanges"], apart := false, laid := [("unicode/utf8.acceptRanges", laid_unicode_utf8_acceptRanges), ("unicode.CaseRanges", laid_unicode_CaseRanges), ("unicode/utf8.first", laid_unicode_utf8_first)] }
def FnBundleTypesSaid : Prop := fnBundleTypesRow.holds Tryz.pinned (OpenSpec.ofChange fnBundleTypesSpec)

/-- ITS FALSE NEIGHBOUR: 'it returns false'. Refute it at one input. -/
def fnBundleTypesWrong : ChangeSpec := { name := "fnBundleTypes", fn := fun _ => fun
  | [d1, d2, d3] => { results := [.lit (.bool false)], args := [d1, d2, d3] }
  | _ => none }
def FnBundleTypesWrongFalsely : Prop := fnBundleTypesRow.holds Tryz.pinned (OpenSpec.ofChange fnBundleTypesWrong)

/-- 'laws.FnCase': WHATEVER THE INPUT: true; the input reads as it did. -/
def fnCaseSpec : ChangeSpec := { name := "fnCase", fn := fun _ => fun
  | [d1, d2, d3] => { results := [.lit (.bool true)], args := [d1, d2, d3] }
  | _ => none }
def fnCaseRow : OpenClaim := { program := "ytphpmgdakalnjaagreatdoor", sum := "43e71ecbc2152703c3e5ec4efe4d2ccc96cbffe2644eff0dedc74ddcfbf8e635", func := "pub-trackway/laws.FnCase", spec := "fnCase", inPlace := ["internal/abi.NoEscape", "internal/bytealg.MakeNoZero"], unfollowed := true, recurses := true, named := ["unicode/utf8.first", "unicode/utf8.acceptRanges", "unicode.CaseRanges"], apart := false, laid := [("unicode/utf8.acceptRanges", laid_unicode_utf8_acceptRanges), ("unicode.CaseRanges", laid_unicode_CaseRanges), ("unicode/utf8.first", laid_unicode_utf8_first)] }
def FnCaseSaid : Prop := fnCaseRow.holds Tryz.pinned (OpenSpec.ofChange fnCaseSpec)

/-- ITS FALSE NEIGHBOUR: 'it returns false'. Refute it at one input. -/
def fnCaseWrong : ChangeSpec := { name := "fnCase", fn := fun _ => fun
  | [d1, d2, d3] => { results := [.lit (.bool false)], args := [d1, d2, d3] }
  | _ => none }
def FnCaseWrongFalsely : Prop := fnCaseRow.holds Tryz.pinned (OpenSpec.ofChange fnCaseWrong)

/-- 'laws.FnContainerAbove': WHATEVER THE INPUT: true; the input reads as it did. -/
def fnContainerAboveSpec : ChangeSpec := { name := "fnContainerAbove", fn := fun _ => fun
  | [d1, d2, d3] => { results := [.lit (.bool true)], args := [d1, d2, d3] }
  | _ => none }
def fnContainerAboveRow : OpenClaim := { program := "ytphpmgdakalnjaagreatdoor", sum := "43e71ecbc2152703c3e5ec4efe4d2ccc96cbffe2644eff0dedc74ddcfbf8e635", func := "pub-trackway/laws.FnContainerAbove", spec := "fnContainerAbove", inPlace := ["internal/abi.NoEscape", "internal/bytealg.MakeNoZero"], unfollowed := true, recurses := true, named := ["unicode/utf8.first", "unicode/utf8.acceptRanges", "unicode.CaseRanges"], apart := false, laid := [("unicode/utf8.acceptRanges", laid_unicode_utf8_acceptRanges), ("unicode.CaseRanges", laid_unicode_CaseRanges), ("unicode/utf8.first", laid_unicode_utf8_first)] }
def FnContainerAboveSaid : Prop := fnContainerAboveRow.holds Tryz.pinned (OpenSpec.ofChange fnContainerAboveSpec)

/-- ITS FALSE NEIGHBOUR: 'it returns false'. Refute it at one input. -/
def fnContainerAboveWrong : ChangeSpec := { name := "fnContainerAbove", fn := fun _ => fun
  | [d1, d2, d3] => { results := [.lit (.bool false)], args := [d1, d2, d3] }
  | _ => none }
def FnContainerAboveWrongFalsely : Prop := fnContainerAboveRow.holds Tryz.pinned (OpenSpec.ofChange fnContainerAboveWrong)

/-- 'laws.FnDataName': WHATEVER THE INPUT: true; the input reads as it did. -/
def fnDataNameSpec : ChangeSpec := { name := "fnDataName", fn := fun _ => fun
  | [d1, d2, d3] => { results := [.lit (.bool true)], args := [d1, d2, d3] }
  | _ => none }
def fnDataNameRow : OpenClaim := { program := "ytphpmgdakalnjaagreatdoor", sum := "43e71ecbc2152703c3e5ec4efe4d2ccc96cbffe2644eff0dedc74ddcfbf8e635", func := "pub-trackway/laws.FnDataName", spec := "fnDataName", inPlace := ["internal/abi.NoEscape", "internal/bytealg.MakeNoZero"], unfollowed := true, recurses := true, named := ["unicode/utf8.first", "unicode/utf8.acceptRanges", "unicode.CaseRanges"], apart := false, laid := [("unicode/utf8.acceptRanges", laid_unicode_utf8_acceptRanges), ("unicode.CaseRanges", laid_unicode_CaseRanges), ("unicode/utf8.first", laid_unicode_utf8_first)] }
def FnDataNameSaid : Prop := fnDataNameRow.holds Tryz.pinned (OpenSpec.ofChange fnDataNameSpec)

/-- ITS FALSE NEIGHBOUR: 'it returns false'. Refute it at one input. -/
def fnDataNameWrong : ChangeSpec := { name := "fnDataName", fn := fun _ => fun
  | [d1, d2, d3] => { results := [.lit (.bool false)], args := [d1, d2, d3] }
  | _ => none }
def FnDataNameWrongFalsely : Prop := fnDataNameRow.holds Tryz.pinned (OpenSpec.ofChange fnDataNameWrong)

/-- 'laws.FnLayoutsAlone': WHATEVER THE INPUT: true; the input reads as it did. -/
def fnLayoutsAloneSpec : ChangeSpec := { name := "fnLayoutsAlone", fn := fun _ => fun
  | [d1, d2, d3] => { results := [.lit (.bool true)], args := [d1, d2, d3] }
  | _ => none }
def fnLayoutsAloneRow : OpenClaim := { program := "ytphpmgdakalnjaagreatdoor", sum := "43e71ecbc2152703c3e5ec4efe4d2ccc96cbffe2644eff0dedc74ddcfbf8e635", func := "pub-trackway/laws.FnLayoutsAlone", spec := "fnLayoutsAlone", inPlace := ["internal/abi.NoEscape", "internal/bytealg.MakeNoZero"], unfollowed := true, recurses := true, named := ["unicode/utf8.first", "unicode/utf8.acceptRanges", "unicode.CaseRanges"], apart := false, laid := [("unicode/utf8.acceptRanges", laid_unicode_utf8_acceptRanges), ("unicode.CaseRanges", laid_unicode_CaseRanges), ("unicode/utf8.first", laid_unicode_utf8_first)] }
def FnLayoutsAloneSaid : Prop := fnLayoutsAloneRow.holds Tryz.pinned (OpenSpec.ofChange fnLayoutsAloneSpec)

/-- ITS FALSE NEIGHBOUR: 'it returns false'. Refute it at one input. -/
def fnLayoutsAloneWrong : ChangeSpec := { name := "fnLayoutsAlone", fn := fun _ => fun
  | [d1, d2, d3] => { results := [.lit (.bool false)], args := [d1, d2, d3] }
  | _ => none }
def FnLayoutsAloneWrongFalsely : Prop := fnLayoutsAloneRow.holds Tryz.pinned (OpenSpec.ofChange fnLayoutsAloneWrong)

/-- 'laws.FnOthers': WHATEVER THE INPUT: true; the input reads as it did. -/
def fnOthersSpec : ChangeSpec := { name := "fnOthers", fn := fun _ => fun
  | [d1, d2, d3] => { results := [.lit (.bool true)], args := [d1, d2, d3] }
  | _ => none }
def fnOthersRow : OpenClaim := { program := "ytphpmgdakalnjaagreatdoor", sum := "43e71ecbc2152703c3e5ec4efe4d2ccc96cbffe2644eff0dedc74ddcfbf8e635", func := "pub-trackway/laws.FnOthers", spec := "fnOthers", inPlace := ["internal/abi.NoEscape", "internal/bytealg.MakeNoZero"], unfollowed := true, recurses := true, named := ["unicode/utf8.first", "unicode/utf8.acceptRanges", "unicode.CaseRanges"], apart := false, laid := [("unicode/utf8.acceptRanges", laid_unicode_utf8_acceptRanges), ("unicode.CaseRanges", laid_unicode_CaseRanges), ("unicode/utf8.first", laid_unicode_utf8_first)] }
def FnOthersSaid : Prop := fnOthersRow.holds Tryz.pinned (OpenSpec.ofChange fnOthersSpec)

/-- ITS FALSE NEIGHBOUR: 'it returns false'. Refute it at one input. -/
def fnOthersWrong : ChangeSpec := { name := "fnOthers", fn := fun _ => fun
  | [d1, d2, d3] => { results := [.lit (.bool false)], args := [d1, d2, d3] }
  | _ => none }
def FnOthersWrongFalsely : Prop := fnOthersRow.holds Tryz.pinned (OpenSpec.ofChange fnOthersWrong)

/-- 'laws.FnPathJoined': WHATEVER THE INPUT: true; the input reads as it did. -/
def fnPathJoinedSpec : ChangeSpec := { name := "fnPathJoined", fn := fun _ => fun
  | [d1, d2, d3] => { results := [.lit (.bool true)], args := [d1, d2, d3] }
  | _ => none }
def fnPathJoinedRow : OpenClaim := { program := "ytphpmgdakalnjaagreatdoor", sum := "43e71ecbc2152703c3e5ec4efe4d2ccc96cbffe2644eff0dedc74ddcfbf8e635", func := "pub-trackway/laws.FnPathJoined", spec := "fnPathJoined", inPlace := ["internal/abi.NoEscape", "internal/bytealg.MakeNoZero"], unfollowed := true, recurses := true, named := ["unicode/utf8.first", "unicode/utf8.acceptRanges", "unicode.CaseRanges"], apart := false, laid := [("unicode/utf8.acceptRanges", laid_unicode_utf8_acceptRanges), ("unicode.CaseRanges", laid_unicode_CaseRanges), ("unicode/utf8.first", laid_unicode_utf8_first)] }
def FnPathJoinedSaid : Prop := fnPathJoinedRow.holds Tryz.pinned (OpenSpec.ofChange fnPathJoinedSpec)

/-- ITS FALSE NEIGHBOUR: 'it returns false'. Refute it at one input. -/
def fnPathJoinedWrong : ChangeSpec := { name := "fnPathJoined", fn := fun _ => fun
  | [d1, d2, d3] => { results := [.lit (.bool false)], args := [d1, d2, d3] }
  | _ => none }
def FnPathJoinedWrongFalsely : Prop := fnPathJoinedRow.holds Tryz.pinned (OpenSpec.ofChange fnPathJoinedWrong)

/-- 'laws.FnPlainPath': WHATEVER THE INPUT: true; the input reads as it did. -/
def fnPlainPathSpec : ChangeSpec := { name := "fnPlainPath", fn := fun _ => fun
  | [d1, d2, d3] => { results := [.lit (.bool true)], args := [d1, d2, d3] }
  | _ => none }
def fnPlainPathRow : OpenClaim := { program := "ytphpmgdakalnjaagreatdoor", sum := "43e71ecbc2152703c3e5ec4efe4d2ccc96cbffe2644eff0dedc74ddcfbf8e635", func := "pub-trackway/laws.FnPlainPath", spec := "fnPlainPath", inPlace := ["internal/abi.NoEscape", "internal/bytealg.MakeNoZero"], unfollowed := true, recurses := true, named := ["unicode/utf8.first", "unicode/utf8.acceptRanges", "unicode.CaseRanges"], apart := false, laid := [("unicode/utf8.acceptRanges", laid_unicode_utf8_acceptRanges), ("unicode.CaseRanges", laid_unicode_CaseRanges), ("unicode/utf8.first", laid_unicode_utf8_first)] }
def FnPlainPathSaid : Prop := fnPlainPathRow.holds Tryz.pinned (OpenSpec.ofChange fnPlainPathSpec)

/-- ITS FALSE NEIGHBOUR: 'it returns false'. Refute it at one input. -/
def fnPlainPathWrong : ChangeSpec := { name := "fnPlainPath", fn := fun _ => fun
  | [d1, d2, d3] => { results := [.lit (.bool false)], args := [d1, d2, d3] }
  | _ => none }
def FnPlainPathWrongFalsely : Prop := fnPlainPathRow.holds Tryz.pinned (OpenSpec.ofChange fnPlainPathWrong)

/-- 'laws.FnSlashAhead': WHATEVER THE INPUT: true; the input reads as it did. -/
def fnSlashAheadSpec : ChangeSpec := { name := "fnSlashAhead", fn := fun _ => fun
  | [d1, d2, d3] => { results := [.lit (.bool true)], args := [d1, d2, d3] }
  | _ => none }
def fnSlashAheadRow : OpenClaim := { program := "ytphpmgdakalnjaagreatdoor", sum := "43e71ecbc2152703c3e5ec4efe4d2ccc96cbffe2644eff0dedc74ddcfbf8e635", func := "pub-trackway/laws.FnSlashAhead", spec := "fnSlashAhead", inPlace := ["internal/abi.NoEscape", "internal/bytealg.MakeNoZero"], unfollowed := true, recurses := true, named := ["unicode/utf8.first", "unicode/utf8.acceptRanges", "unicode.CaseRanges"], apart := false, laid := [("unicode/utf8.acceptRanges", laid_unicode_utf8_acceptRanges), ("unicode.CaseRanges", laid_unicode_CaseRanges), ("unicode/utf8.first", laid_unicode_utf8_first)] }
def FnSlashAheadSaid : Prop := fnSlashAheadRow.holds Tryz.pinned (OpenSpec.ofChange fnSlashAheadSpec)

/-- ITS FALSE NEIGHBOUR: 'it returns false'. Refute it at one input. -/
def fnSlashAheadWrong : ChangeSpec := { name := "fnSlashAhead", fn := fun _ => fun
  | [d1, d2, d3] => { results := [.lit (.bool false)], args := [d1, d2, d3] }
  | _ => none }
def FnSlashAheadWrongFalsely : Prop := fnSlashAheadRow.holds Tryz.pinned (OpenSpec.ofChange fnSlashAheadWrong)

/-- 'laws.FnForTypeOwn': WHATEVER THE INPUT: true; the input reads as it did. -/
def fnForTypeOwnSpec : ChangeSpec := { name := "fnForTypeOwn", fn := fun _ => fun
  | [d1, d2, d3] => { results := [.lit (.bool true)], args := [d1, d2, d3] }
  | _ => none }
def fnForTypeOwnRow : OpenClaim := { program := "ytphpmgdakalnjaagreatdoor", sum := "43e71ecbc2152703c3e5ec4efe4d2ccc96cbffe2644eff0dedc74ddcfbf8e635", func := "pub-trackway/laws.FnForTypeOwn", spec := "fnForTypeOwn", inPlace := ["internal/abi.NoEscape", "internal/bytealg.MakeNoZero"], unfollowed := true, recurses := true, named := ["unicode/utf8.first", "unicode/utf8.acceptRanges", "unicode.CaseRanges"], apart := false, laid := [("unicode/utf8.acceptRanges", laid_unicode_utf8_acceptRanges), ("unicode.CaseRanges", laid_unicode_CaseRanges), ("unicode/utf8.first", laid_unicode_utf8_first)] }
def FnForTypeOwnSaid : Prop := fnForTypeOwnRow.holds Tryz.pinned (OpenSpec.ofChange fnForTypeOwnSpec)

/-- ITS FALSE NEIGHBOUR: 'it returns false'. Refute it at one input. -/
def fnForTypeOwnWrong : ChangeSpec := { name := "fnForTypeOwn", fn := fun _ => fun
  | [d1, d2, d3] => { results := [.lit (.bool false)], args := [d1, d2, d3] }
  | _ => none }
def FnForTypeOwnWrongFalsely : Prop := fnForTypeOwnRow.holds Tryz.pinned (OpenSpec.ofChange fnForTypeOwnWrong)

/-- 'laws.FnResourceType': WHATEVER THE INPUT: true; the input reads as it did. -/
def fnResourceTypeSpec : ChangeSpec := { name := "fnResourceType", fn := fun _ => fun
  | [d1, d2, d3] => { results := [.lit (.bool true)], args := [d1, d2, d3] }
  | _ => none }
def fnResourceTypeRow : OpenClaim := { program := "ytphpmgdakalnjaagreatdoor", sum := "43e71ecbc2152703c3e5ec4efe4d2ccc96cbffe2644eff0dedc74ddcfbf8e635", func := "pub-trackway/laws.FnResourceType", spec := "fnResourceType", inPlace := ["internal/abi.NoEscape", "internal/bytealg.MakeNoZero"], unfollowed := true, recurses := true, named := ["unicode/utf8.first", "unicode/utf8.acceptRanges", "unicode.CaseRanges"], apart := false, laid := [("unicode/utf8.acceptRanges", laid_unicode_utf8_acceptRanges), ("unicode.CaseRanges", laid_unicode_CaseRanges), ("unicode/utf8.first", laid_unicode_utf8_first)] }
def FnResourceTypeSaid : Prop := fnResourceTypeRow.holds Tryz.pinned (OpenSpec.ofChange fnResourceTypeSpec)

/-- ITS FALSE NEIGHBOUR: 'it returns false'. Refute it at one input. -/
def fnResourceTypeWrong : ChangeSpec := { name := "fnResourceType", fn := fun _ => fun
  | [d1, d2, d3] => { results := [.lit (.bool false)], args := [d1, d2, d3] }
  | _ => none }
def FnResourceTypeWrongFalsely : Prop := fnResourceTypeRow.holds Tryz.pinned (OpenSpec.ofChange fnResourceTypeWrong)

/- THE SECOND FORM. 'bulk': how many values and letters a reading holds, each counted each time it is reached (what is shared counts as often as it is met; a slice's spare places count too). A statement '..UptoSaid' is the law's where the arguments, and the package variables that the reading takes, are together of bulk at most 1048576: NARROWER than '..Said'. Prove '..Said' where nothing that the law and all that it calls make is longer than what came in: it says more and counts as full. Else prove '..UptoSaid'. A law counts once. -/
mutual
def uptoBulk {H : Type} : DataW H → Nat
  | .lit (.string bytes) => bytes.length + 1
  | .lit _ => 1
  | .nil => 1
  | .ptr d => uptoBulk d + 1
  | .slice elems spare => uptoBulkAll elems + uptoBulkAll spare + 1
  | .agg parts => uptoBulkAll parts + 1
  | .iface _ d => uptoBulk d + 1
  | .map entries => uptoBulkEntries entries + 1
  | .held _ => 1
def uptoBulkAll {H : Type} : List (DataW H) → Nat
  | [] => 0
  | d :: r => uptoBulk d + uptoBulkAll r
def uptoBulkEntries {H : Type} : List (Lit × DataW H) → Nat
  | [] => 0
  | x :: r => uptoBulkEntry x + uptoBulkEntries r
def uptoBulkEntry {H : Type} : Lit × DataW H → Nat
  | (.string bytes, d) => bytes.length + uptoBulk d + 1
  | (_, d) => uptoBulk d + 1
 end
def uptoSmall : (H : Type) → List (DataW H) → Bool := fun _ ds => decide (uptoBulkAll ds ≤ 1048576)
def OpenSpec.upto (s : _root_.Go.ChangeSpec) : _root_.Go.OpenSpec := { _root_.Go.OpenSpec.ofChange s with cond := some uptoSmall }

/-- 'laws.FnHasExtension', WHERE WHAT IT READS IS OF BULK AT MOST 1048576: true; the input reads as it did. -/
def fnHasExtensionUptoRow : OpenClaim := { program := "ytphpmgdakalnjaagreatdoor", sum := "43e71ecbc2152703c3e5ec4efe4d2ccc96cbffe2644eff0dedc74ddcfbf8e635", func := "pub-trackway/laws.FnHasExtension", spec := "fnHasExtension", inPlace := ["internal/abi.NoEscape", "internal/bytealg.MakeNoZero"], unfollowed := true, recurses := true, named := ["unicode/utf8.first", "unicode/utf8.acceptRanges", "unicode.CaseRanges"], apart := false, laid := [("unicode/utf8.acceptRanges", laid_unicode_utf8_acceptRanges), ("unicode.CaseRanges", laid_unicode_CaseRanges), ("unicode/utf8.first", laid_unicode_utf8_first)], narrowed := true }
def FnHasExtensionUptoSaid : Prop := fnHasExtensionUptoRow.holds Tryz.pinned (OpenSpec.upto fnHasExtensionSpec)

/-- 'laws.FnBundleTypes', WHERE WHAT IT READS IS OF BULK AT MOST 1048576: true; the input reads as it did. -/
def fnBundleTypesUptoRow : OpenClaim := { program := "ytphpmgdakalnjaagreatdoor", sum := "43e71ecbc2152703c3e5ec4efe4d2ccc96cbffe2644eff0dedc74ddcfbf8e635", func := "pub-trackway/laws.FnBundleTypes", spec := "fnBundleTypes", inPlace := ["internal/abi.NoEscape", "internal/bytealg.MakeNoZero"], unfollowed := true, recurses := true, named := ["unicode/utf8.first", "unicode/utf8.acceptRanges", "unicode.CaseRanges"], apart := false, laid := [("unicode/utf8.acceptRanges", laid_unicode_utf8_acceptRanges), ("unicode.CaseRanges", laid_unicode_CaseRanges), ("unicode/utf8.first", laid_unicode_utf8_first)], narrowed := true }
def FnBundleTypesUptoSaid : Prop := fnBundleTypesUptoRow.holds Tryz.pinned (OpenSpec.upto fnBundleTypesSpec)

/-- 'laws.FnCase', WHERE WHAT IT READS IS OF BULK AT MOST 1048576: true; the input reads as it did. -/
def fnCaseUptoRow : OpenClaim := { program := "ytphpmgdakalnjaagreatdoor", sum := "43e71ecbc2152703c3e5ec4efe4d2ccc96cbffe2644eff0dedc74ddcfbf8e635", func := "pub-trackway/laws.FnCase", spec := "fnCase", inPlace := ["internal/abi.NoEscape", "internal/bytealg.MakeNoZero"], unfollowed := true, recurses := true, named := ["unicode/utf8.first", "unicode/utf8.acceptRanges", "unicode.CaseRanges"], apart := false, laid := [("unicode/utf8.acceptRanges", laid_unicode_utf8_acceptRanges), ("unicode.CaseRanges", laid_unicode_CaseRanges), ("unicode/utf8.first", laid_unicode_utf8_first)], narrowed := true }
def FnCaseUptoSaid : Prop := fnCaseUptoRow.holds Tryz.pinned (OpenSpec.upto fnCaseSpec)

/-- 'laws.FnContainerAbove', WHERE WHAT IT READS IS OF BULK AT MOST 1048576: true; the input reads as it did. -/
def fnContainerAboveUptoRow : OpenClaim := { program := "ytphpmgdakalnjaagreatdoor", sum := "43e71ecbc2152703c3e5ec4efe4d2ccc96cbffe2644eff0dedc74ddcfbf8e635", func := "pub-trackway/laws.FnContainerAbove", spec := "fnContainerAbove", inPlace := ["internal/abi.NoEscape", "internal/bytealg.MakeNoZero"], unfollowed := true, recurses := true, named := ["unicode/utf8.first", "unicode/utf8.acceptRanges", "unicode.CaseRanges"], apart := false, laid := [("unicode/utf8.acceptRanges", laid_unicode_utf8_acceptRanges), ("unicode.CaseRanges", laid_unicode_CaseRanges), ("unicode/utf8.first", laid_unicode_utf8_first)], narrowed := true }
def FnContainerAboveUptoSaid : Prop := fnContainerAboveUptoRow.holds Tryz.pinned (OpenSpec.upto fnContainerAboveSpec)

/-- 'laws.FnDataName', WHERE WHAT IT READS IS OF BULK AT MOST 1048576: true; the input reads as it did. -/
def fnDataNameUptoRow : OpenClaim := { program := "ytphpmgdakalnjaagreatdoor", sum := "43e71ecbc2152703c3e5ec4efe4d2ccc96cbffe2644eff0dedc74ddcfbf8e635", func := "pub-trackway/laws.FnDataName", spec := "fnDataName", inPlace := ["internal/abi.NoEscape", "internal/bytealg.MakeNoZero"], unfollowed := true, recurses := true, named := ["unicode/utf8.first", "unicode/utf8.acceptRanges", "unicode.CaseRanges"], apart := false, laid := [("unicode/utf8.acceptRanges", laid_unicode_utf8_acceptRanges), ("unicode.CaseRanges", laid_unicode_CaseRanges), ("unicode/utf8.first", laid_unicode_utf8_first)], narrowed := true }
def FnDataNameUptoSaid : Prop := fnDataNameUptoRow.holds Tryz.pinned (OpenSpec.upto fnDataNameSpec)

/-- 'laws.FnLayoutsAlone', WHERE WHAT IT READS IS OF BULK AT MOST 1048576: true; the input reads as it did. -/
def fnLayoutsAloneUptoRow : OpenClaim := { program := "ytphpmgdakalnjaagreatdoor", sum := "43e71ecbc2152703c3e5ec4efe4d2ccc96cbffe2644eff0dedc74ddcfbf8e635", func := "pub-trackway/laws.FnLayoutsAlone", spec := "fnLayoutsAlone", inPlace := ["internal/abi.NoEscape", "internal/bytealg.MakeNoZero"], unfollowed := true, recurses := true, named := ["unicode/utf8.first", "unicode/utf8.acceptRanges", "unicode.CaseRanges"], apart := false, laid := [("unicode/utf8.acceptRanges", laid_unicode_utf8_acceptRanges), ("unicode.CaseRanges", laid_unicode_CaseRanges), ("unicode/utf8.first", laid_unicode_utf8_first)], narrowed := true }
def FnLayoutsAloneUptoSaid : Prop := fnLayoutsAloneUptoRow.holds Tryz.pinned (OpenSpec.upto fnLayoutsAloneSpec)

/-- 'laws.FnOthers', WHERE WHAT IT READS IS OF BULK AT MOST 1048576: true; the input reads as it did. -/
def fnOthersUptoRow : OpenClaim := { program := "ytphpmgdakalnjaagreatdoor", sum := "43e71ecbc2152703c3e5ec4efe4d2ccc96cbffe2644eff0dedc74ddcfbf8e635", func := "pub-trackway/laws.FnOthers", spec := "fnOthers", inPlace := ["internal/abi.NoEscape", "internal/bytealg.MakeNoZero"], unfollowed := true, recurses := true, named := ["unicode/utf8.first", "unicode/utf8.acceptRanges", "unicode.CaseRanges"], apart := false, laid := [("unicode/utf8.acceptRanges", laid_unicode_utf8_acceptRanges), ("unicode.CaseRanges", laid_unicode_CaseRanges), ("unicode/utf8.first", laid_unicode_utf8_first)], narrowed := true }
def FnOthersUptoSaid : Prop := fnOthersUptoRow.holds Tryz.pinned (OpenSpec.upto fnOthersSpec)

/-- 'laws.FnPathJoined', WHERE WHAT IT READS IS OF BULK AT MOST 1048576: true; the input reads as it did. -/
def fnPathJoinedUptoRow : OpenClaim := { program := "ytphpmgdakalnjaagreatdoor", sum := "43e71ecbc2152703c3e5ec4efe4d2ccc96cbffe2644eff0dedc74ddcfbf8e635", func := "pub-trackway/laws.FnPathJoined", spec := "fnPathJoined", inPlace := ["internal/abi.NoEscape", "internal/bytealg.MakeNoZero"], unfollowed := true, recurses := true, named := ["unicode/utf8.first", "unicode/utf8.acceptRanges", "unicode.CaseRanges"], apart := false, laid := [("unicode/utf8.acceptRanges", laid_unicode_utf8_acceptRanges), ("unicode.CaseRanges", laid_unicode_CaseRanges), ("unicode/utf8.first", laid_unicode_utf8_first)], narrowed := true }
def FnPathJoinedUptoSaid : Prop := fnPathJoinedUptoRow.holds Tryz.pinned (OpenSpec.upto fnPathJoinedSpec)

/-- 'laws.FnPlainPath', WHERE WHAT IT READS IS OF BULK AT MOST 1048576: true; the input reads as it did. -/
def fnPlainPathUptoRow : OpenClaim := { program := "ytphpmgdakalnjaagreatdoor", sum := "43e71ecbc2152703c3e5ec4efe4d2ccc96cbffe2644eff0dedc74ddcfbf8e635", func := "pub-trackway/laws.FnPlainPath", spec := "fnPlainPath", inPlace := ["internal/abi.NoEscape", "internal/bytealg.MakeNoZero"], unfollowed := true, recurses := true, named := ["unicode/utf8.first", "unicode/utf8.acceptRanges", "unicode.CaseRanges"], apart := false, laid := [("unicode/utf8.acceptRanges", laid_unicode_utf8_acceptRanges), ("unicode.CaseRanges", laid_unicode_CaseRanges), ("unicode/utf8.first", laid_unicode_utf8_first)], narrowed := true }
def FnPlainPathUptoSaid : Prop := fnPlainPathUptoRow.holds Tryz.pinned (OpenSpec.upto fnPlainPathSpec)

/-- 'laws.FnSlashAhead', WHERE WHAT IT READS IS OF BULK AT MOST 1048576: true; the input reads as it did. -/
def fnSlashAheadUptoRow : OpenClaim := { program := "ytphpmgdakalnjaagreatdoor", sum := "43e71ecbc2152703c3e5ec4efe4d2ccc96cbffe2644eff0dedc74ddcfbf8e635", func := "pub-trackway/laws.FnSlashAhead", spec := "fnSlashAhead", inPlace := ["internal/abi.NoEscape", "internal/bytealg.MakeNoZero"], unfollowed := true, recurses := true, named := ["unicode/utf8.first", "unicode/utf8.acceptRanges", "unicode.CaseRanges"], apart := false, laid := [("unicode/utf8.acceptRanges", laid_unicode_utf8_acceptRanges), ("unicode.CaseRanges", laid_unicode_CaseRanges), ("unicode/utf8.first", laid_unicode_utf8_first)], narrowed := true }
def FnSlashAheadUptoSaid : Prop := fnSlashAheadUptoRow.holds Tryz.pinned (OpenSpec.upto fnSlashAheadSpec)

/-- 'laws.FnForTypeOwn', WHERE WHAT IT READS IS OF BULK AT MOST 1048576: true; the input reads as it did. -/
def fnForTypeOwnUptoRow : OpenClaim := { program := "ytphpmgdakalnjaagreatdoor", sum := "43e71ecbc2152703c3e5ec4efe4d2ccc96cbffe2644eff0dedc74ddcfbf8e635", func := "pub-trackway/laws.FnForTypeOwn", spec := "fnForTypeOwn", inPlace := ["internal/abi.NoEscape", "internal/bytealg.MakeNoZero"], unfollowed := true, recurses := true, named := ["unicode/utf8.first", "unicode/utf8.acceptRanges", "unicode.CaseRanges"], apart := false, laid := [("unicode/utf8.acceptRanges", laid_unicode_utf8_acceptRanges), ("unicode.CaseRanges", laid_unicode_CaseRanges), ("unicode/utf8.first", laid_unicode_utf8_first)], narrowed := true }
def FnForTypeOwnUptoSaid : Prop := fnForTypeOwnUptoRow.holds Tryz.pinned (OpenSpec.upto fnForTypeOwnSpec)

/-- 'laws.FnResourceType', WHERE WHAT IT READS IS OF BULK AT MOST 1048576: true; the input reads as it did. -/
def fnResourceTypeUptoRow : OpenClaim := { program := "ytphpmgdakalnjaagreatdoor", sum := "43e71ecbc2152703c3e5ec4efe4d2ccc96cbffe2644eff0dedc74ddcfbf8e635", func := "pub-trackway/laws.FnResourceType", spec := "fnResourceType", inPlace := ["internal/abi.NoEscape", "internal/bytealg.MakeNoZero"], unfollowed := true, recurses := true, named := ["unicode/utf8.first", "unicode/utf8.acceptRanges", "unicode.CaseRanges"], apart := false, laid := [("unicode/utf8.acceptRanges", laid_unicode_utf8_acceptRanges), ("unicode.CaseRanges", laid_unicode_CaseRanges), ("unicode/utf8.first", laid_unicode_utf8_first)], narrowed := true }
def FnResourceTypeUptoSaid : Prop := fnResourceTypeUptoRow.holds Tryz.pinned (OpenSpec.upto fnResourceTypeSpec)

end Rows
end Go.Proofs.YtphpmgdakalnjaaGreatDoor
