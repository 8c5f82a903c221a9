/-
  NARROWER THAN 'FOR EVERY INPUT', by the rows' own cells (each row's printed sentence says how): FnBaseRel: laid · FnPathRel: laid · FnBuiltBundle: laid · FnBuiltDisabled: laid · FnBuiltFile: laid · FnBuiltFormat: laid · FnBuiltWrapped: laid · FnMoreContent: laid · FnMoreLanguages: laid · FnNoLanguages: laid · FnParse: laid · FnUnnormalizedSame: laid.
  DERIVED. THE GIVEN ROWS OF THIS SEAT. 12 by the template 'for every input the law returns true; each argument reads behind the call as it read before'; 0 by the template 'total and deterministic' (their statements: YtcdgldnphhidlaaGreatDoorTotals.lean).
  GIVEN WITH THE SEED: the statements are not yours to turn. If you find one false, say at which input.
  Laid BY PROGRAM, IN A SANDBOX (cutbox-rows.mjs): the forced cells as the released guide's own fill.sh prints them over the translation 7fe849b5b5f76a4a… (all of the seat's roots in one cut). By AI agents, Wed Nov 11 2026. No macro, syntax, notation, axiom, sorry.
-/
import Derived.Test.YtcdgldnphhidlaaGreatDoorChecked
import GoSem.PinnedTables
import GoSem.Claim
import GoSem.ClaimJoined
import GoSem.ClaimMapViews
import Derived.JoinedTies
import Derived.KernelRfl
namespace Go.Proofs.YtcdgldnphhidlaaGreatDoor
/- THE CELL 'sum', in the pinned program and in every row, IS THE sha256 OF THE DUMP (.gsa) THAT YtcdgldnphhidlaaGreatDoorProg.lean LOADS. Nothing in Lean hashes anything: it is a label: what it is worth is what the hold of that sum in a sandbox is worth. -/
noncomputable def Tryz.pinned : Pinned := { name := "ytcdgldnphhidlaagreatdoor", sum := "7fe849b5b5f76a4a269bd47d9138ac17eb9db958ab351c7be901ba0be54e3e2c", checked := Tryz.checked }
namespace Rows
def none {H : Type} : Left H := { results := [], args := [] }

/- WHAT THE LISTED PACKAGE-LEVEL VARIABLES READ AS WHEN THE CALL BEGINS. Each datum BY PROGRAM (the guide's laid-datum.mjs) off the statement by which the dump's own 'gosem.cut.vars' lays the variable. In a bare row this is a premise. The card (YtcdgldnphhidlaaGreatDoorCards.lean) ties it to the program's text. -/
def laid_unicode_utf8_acceptRanges {H : Type} : DataW H := .agg [.agg [.lit (.int .u8 128), .lit (.int .u8 191)], .agg [.lit (.int .u8 160), .lit (.int .u8 191)], .agg [.lit (.int .u8 128), .lit (.int .u8 159)], .agg [.lit (.int .u8 144), .lit (.int .u8 191)], .agg [.lit (.int .u8 128), .lit (.int .u8 143)], .agg [.lit (.int .u8 0), .lit (.int .u8 0)], .agg [.lit (.int .u8 0), .lit (.int .u8 0)], .agg [.lit (.int .u8 0), .lit (.int .u8 0)], .agg [.lit (.int .u8 0), .lit (.int .u8 0)], .agg [.lit (.int .u8 0), .lit (.int .u8 0)], .agg [.lit (.int .u8 0), .lit (.int .u8 0)], .agg [.lit (.int .u8 0), .lit (.int .u8 0)], .agg [.lit (.int .u8 0), .lit (.int .u8 0)], .agg [.lit (.int .u8 0), .lit (.int .u8 0)], .agg [.lit (.int .u8 0), .lit (.int .u8 0)], .agg [.lit (.int .u8 0), .lit (.int .u8 0)]]
/-- One of Go's own tables, pinned by name: the form's constant. -/
def laid_unicode_CaseRanges : DataW Unit := Go.Pinned.caseRanges
/-- One of Go's own tables, pinned by name: the form's constant. -/
def laid_unicode_utf8_first : DataW Unit := Go.Pinned.utf8First

/-- 'laws.FnBaseRel': WHATEVER THE INPUT: true; the input reads as it did. -/
def fnBaseRelSpec : ChangeSpec := { name := "fnBaseRel", fn := fun _ => fun
  | [d1, d2, d3, d4] => { results := [.lit (.bool true)], args := [d1, d2, d3, d4] }
  | _ => none }
def fnBaseRelRow : OpenClaim := { program := "ytcdgldnphhidlaagreatdoor", sum := "7fe849b5b5f76a4a269bd47d9138ac17eb9db958ab351c7be901ba0be54e3e2c", func := "pub-trackway/laws.FnBaseRel", spec := "fnBaseRel", inPlace := ["internal/abi.NoEscape", "internal/bytealg.MakeNoZero"], unfollowed := true, recurses := true, named := ["unicode/utf8.first", "unicode/utf8.acceptRanges", "unicode.CaseRanges"], apart := false, laid := [("unicode/utf8.acceptRanges", laid_unicode_utf8_acceptRanges), ("unicode.CaseRanges", laid_unicode_CaseRanges), ("unicode/utf8.first", laid_unicode_utf8_first)] }
def FnBaseRelSaid : Prop := fnBaseRelRow.holds Tryz.pinned (OpenSpec.ofChange fnBaseRelSpec)

/-- ITS FALSE NEIGHBOUR: 'it returns false'. Refute it at one input. -/
def fnBaseRelWrong : ChangeSpec := { name := "fnBaseRel", fn := fun _ => fun
  | [d1, d2, d3, d4] => { results := [.lit (.bool false)], args := [d1, d2, d3, d4] }
  | _ => none }
def FnBaseRelWrongFalsely : Prop := fnBaseRelRow.holds Tryz.pinned (OpenSpec.ofChange fnBaseRelWrong)

/-- 'laws.FnPathRel': WHATEVER THE INPUT: true; the input reads as it did. -/
def fnPathRelSpec : ChangeSpec := { name := "fnPathRel", fn := fun _ => fun
  | [d1, d2, d3, d4] => { results := [.lit (.bool true)], args := [d1, d2, d3, d4] }
  | _ => none }
def fnPathRelRow : OpenClaim := { program := "ytcdgldnphhidlaagreatdoor", sum := "7fe849b5b5f76a4a269bd47d9138ac17eb9db958ab351c7be901ba0be54e3e2c", func := "pub-trackway/laws.FnPathRel", spec := "fnPathRel", inPlace := ["internal/abi.NoEscape", "internal/bytealg.MakeNoZero"], unfollowed := true, recurses := true, named := ["unicode/utf8.first", "unicode/utf8.acceptRanges", "unicode.CaseRanges"], apart := false, laid := [("unicode/utf8.acceptRanges", laid_unicode_utf8_acceptRanges), ("unicode.CaseRanges", laid_unicode_CaseRanges), ("unicode/utf8.first", laid_unicode_utf8_first)] }
def FnPathRelSaid : Prop := fnPathRelRow.holds Tryz.pinned (OpenSpec.ofChange fnPathRelSpec)

/-- ITS FALSE NEIGHBOUR: 'it returns false'. Refute it at one input. -/
def fnPathRelWrong : ChangeSpec := { name := "fnPathRel", fn := fun _ => fun
  | [d1, d2, d3, d4] => { results := [.lit (.bool false)], args := [d1, d2, d3, d4] }
  | _ => none }
def FnPathRelWrongFalsely : Prop := fnPathRelRow.holds Tryz.pinned (OpenSpec.ofChange fnPathRelWrong)

/-- 'laws.FnBuiltBundle': WHATEVER THE INPUT: true; the input reads as it did. -/
def fnBuiltBundleSpec : ChangeSpec := { name := "fnBuiltBundle", fn := fun _ => fun
  | [d1, d2, d3, d4, d5] => { results := [.lit (.bool true)], args := [d1, d2, d3, d4, d5] }
  | _ => none }
def fnBuiltBundleRow : OpenClaim := { program := "ytcdgldnphhidlaagreatdoor", sum := "7fe849b5b5f76a4a269bd47d9138ac17eb9db958ab351c7be901ba0be54e3e2c", func := "pub-trackway/laws.FnBuiltBundle", spec := "fnBuiltBundle", inPlace := ["internal/abi.NoEscape", "internal/bytealg.MakeNoZero"], unfollowed := true, recurses := true, named := ["unicode/utf8.first", "unicode/utf8.acceptRanges", "unicode.CaseRanges"], apart := false, laid := [("unicode/utf8.acceptRanges", laid_unicode_utf8_acceptRanges), ("unicode.CaseRanges", laid_unicode_CaseRanges), ("unicode/utf8.first", laid_unicode_utf8_first)] }
def FnBuiltBundleSaid : Prop := fnBuiltBundleRow.holds Tryz.pinned (OpenSpec.ofChange fnBuiltBundleSpec)

/-- ITS FALSE NEIGHBOUR: 'it returns false'. Refute it at one input. -/
def fnBuiltBundleWrong : ChangeSpec := { name := "fnBuiltBundle", fn := fun _ => fun
  | [d1, d2, d3, d4, d5] => { results := [.lit (.bool false)], args := [d1, d2, d3, d4, d5] }
  | _ => none }
def FnBuiltBundleWrongFalsely : Prop := fnBuiltBundleRow.holds Tryz.pinned (OpenSpec.ofChange fnBuiltBundleWrong)

/-- 'laws.FnBuiltDisabled': WHATEVER THE INPUT: true; the input reads as it did. -/
def fnBuiltDisabledSpec : ChangeSpec := { name := "fnBuiltDisabled", fn := fun _ => fun
  | [d1, d2, d3, d4, d5] => { results := [.lit (.bool true)], args := [d1, d2, d3, d4, d5] }
  | _ => none }
def fnBuiltDisabledRow : OpenClaim := { program := "ytcdgldnphhidlaagreatdoor", sum := "7fe849b5b5f76a4a269bd47d9138ac17eb9db958ab351c7be901ba0be54e3e2c", func := "pub-trackway/laws.FnBuiltDisabled", spec := "fnBuiltDisabled", inPlace := ["internal/abi.NoEscape", "internal/bytealg.MakeNoZero"], unfollowed := true, recurses := true, named := ["unicode/utf8.first", "unicode/utf8.acceptRanges", "unicode.CaseRanges"], apart := false, laid := [("unicode/utf8.acceptRanges", laid_unicode_utf8_acceptRanges), ("unicode.CaseRanges", laid_unicode_CaseRanges), ("unicode/utf8.first", laid_unicode_utf8_first)] }
def FnBuiltDisabledSaid : Prop := fnBuiltDisabledRow.holds Tryz.pinned (OpenSpec.ofChange fnBuiltDisabledSpec)

/-- ITS FALSE NEIGHBOUR: 'it returns false'. Refute it at one input. -/
def fnBuiltDisabledWrong : ChangeSpec := { name := "fnBuiltDisabled", fn := fun _ => fun
  | [d1, d2, d3, d4, d5] => { results := [.lit (.bool false)], args := [d1, d2, d3, d4, d5] }
  | _ => none }
def FnBuiltDisabledWrongFalsely : Prop := fnBuiltDisabledRow.holds Tryz.pinned (OpenSpec.ofChange fnBuiltDisabledWrong)

/-- 'laws.FnBuiltFile': WHATEVER THE INPUT: true; the input reads as it did. -/
def fnBuiltFileSpec : ChangeSpec := { name := "fnBuiltFile", fn := fun _ => fun
  | [d1, d2, d3, d4, d5] => { results := [.lit (.bool true)], args := [d1, d2, d3, d4, d5] }
  | _ => none }
def fnBuiltFileRow : OpenClaim := { program := "ytcdgldnphhidlaagreatdoor", sum := "7fe849b5b5f76a4a269bd47d9138ac17eb9db958ab351c7be901ba0be54e3e2c", func := "pub-trackway/laws.FnBuiltFile", spec := "fnBuiltFile", inPlace := ["internal/abi.NoEscape", "internal/bytealg.MakeNoZero"], unfollowed := true, recurses := true, named := ["unicode/utf8.first", "unicode/utf8.acceptRanges", "unicode.CaseRanges"], apart := false, laid := [("unicode/utf8.acceptRanges", laid_unicode_utf8_acceptRanges), ("unicode.CaseRanges", laid_unicode_CaseRanges), ("unicode/utf8.first", laid_unicode_utf8_first)] }
def FnBuiltFileSaid : Prop := fnBuiltFileRow.holds Tryz.pinned (OpenSpec.ofChange fnBuiltFileSpec)

/-- ITS FALSE NEIGHBOUR: 'it returns false'. Refute it at one input. -/
def fnBuiltFileWrong : ChangeSpec := { name := "fnBuiltFile", fn := fun _ => fun
  | [d1, d2, d3, d4, d5] => { results := [.lit (.bool false)], args := [d1, d2, d3, d4, d5] }
  | _ => none }
def FnBuiltFileWrongFalsely : Prop := fnBuiltFileRow.holds Tryz.pinned (OpenSpec.ofChange fnBuiltFileWrong)

/-- 'laws.FnBuiltFormat': WHATEVER THE INPUT: true; the input reads as it did. -/
def fnBuiltFormatSpec : ChangeSpec := { name := "fnBuiltFormat", fn := fun _ => fun
  | [d1, d2, d3, d4] => { results := [.lit (.bool true)], args := [d1, d2, d3, d4] }
  | _ => none }
def fnBuiltFormatRow : OpenClaim := { program := "ytcdgldnphhidlaagreatdoor", sum := "7fe849b5b5f76a4a269bd47d9138ac17eb9db958ab351c7be901ba0be54e3e2c", func := "pub-trackway/laws.FnBuiltFormat", spec := "fnBuiltFormat", inPlace := ["internal/abi.NoEscape", "internal/bytealg.MakeNoZero"], unfollowed := true, recurses := true, named := ["unicode/utf8.first", "unicode/utf8.acceptRanges", "unicode.CaseRanges"], apart := false, laid := [("unicode/utf8.acceptRanges", laid_unicode_utf8_acceptRanges), ("unicode.CaseRanges", laid_unicode_CaseRanges), ("unicode/utf8.first", laid_unicode_utf8_first)] }
def FnBuiltFormatSaid : Prop := fnBuiltFormatRow.holds Tryz.pinned (OpenSpec.ofChange fnBuiltFormatSpec)

/-- ITS FALSE NEIGHBOUR: 'it returns false'. Refute it at one input. -/
def fnBuiltFormatWrong : ChangeSpec := { name := "fnBuiltFormat", fn := fun _ => fun
  | [d1, d2, d3, d4] => { results := [.lit (.bool false)], args := [d1, d2, d3, d4] }
  | _ => none }
def FnBuiltFormatWrongFalsely : Prop := fnBuiltFormatRow.holds Tryz.pinned (OpenSpec.ofChange fnBuiltFormatWrong)

/-- 'laws.FnBuiltWrapped': WHATEVER THE INPUT: true; the input reads as it did. -/
def fnBuiltWrappedSpec : ChangeSpec := { name := "fnBuiltWrapped", fn := fun _ => fun
  | [d1, d2, d3, d4, d5, d6] => { results := [.lit (.bool true)], args := [d1, d2, d3, d4, d5, d6] }
  | _ => none }
def fnBuiltWrappedRow : OpenClaim := { program := "ytcdgldnphhidlaagreatdoor", sum := "7fe849b5b5f76a4a269bd47d9138ac17eb9db958ab351c7be901ba0be54e3e2c", func := "pub-trackway/laws.FnBuiltWrapped", spec := "fnBuiltWrapped", inPlace := ["internal/abi.NoEscape", "internal/bytealg.MakeNoZero"], unfollowed := true, recurses := true, named := ["unicode/utf8.first", "unicode/utf8.acceptRanges", "unicode.CaseRanges"], apart := false, laid := [("unicode/utf8.acceptRanges", laid_unicode_utf8_acceptRanges), ("unicode.CaseRanges", laid_unicode_CaseRanges), ("unicode/utf8.first", laid_unicode_utf8_first)] }
def FnBuiltWrappedSaid : Prop := fnBuiltWrappedRow.holds Tryz.pinned (OpenSpec.ofChange fnBuiltWrappedSpec)

/-- ITS FALSE NEIGHBOUR: 'it returns false'. Refute it at one input. -/
def fnBuiltWrappedWrong : ChangeSpec := { name := "fnBuiltWrapped", fn := fun _ => fun
  | [d1, d2, d3, d4, d5, d6] => { results := [.lit (.bool false)], args := [d1, d2, d3, d4, d5, d6] }
  | _ => none }
def FnBuiltWrappedWrongFalsely : Prop := fnBuiltWrappedRow.holds Tryz.pinned (OpenSpec.ofChange fnBuiltWrappedWrong)

/-- 'laws.FnMoreContent': WHATEVER THE INPUT: true; the input reads as it did. -/
def fnMoreContentSpec : ChangeSpec := { name := "fnMoreContent", fn := fun _ => fun
  | [d1, d2, d3, d4] => { results := [.lit (.bool true)], args := [d1, d2, d3, d4] }
  | _ => none }
def fnMoreContentRow : OpenClaim := { program := "ytcdgldnphhidlaagreatdoor", sum := "7fe849b5b5f76a4a269bd47d9138ac17eb9db958ab351c7be901ba0be54e3e2c", func := "pub-trackway/laws.FnMoreContent", spec := "fnMoreContent", inPlace := ["internal/abi.NoEscape", "internal/bytealg.MakeNoZero"], unfollowed := true, recurses := true, named := ["unicode/utf8.first", "unicode/utf8.acceptRanges", "unicode.CaseRanges"], apart := false, laid := [("unicode/utf8.acceptRanges", laid_unicode_utf8_acceptRanges), ("unicode.CaseRanges", laid_unicode_CaseRanges), ("unicode/utf8.first", laid_unicode_utf8_first)] }
def FnMoreContentSaid : Prop := fnMoreContentRow.holds Tryz.pinned (OpenSpec.ofChange fnMoreContentSpec)

/-- ITS FALSE NEIGHBOUR: 'it returns false'. Refute it at one input. -/
def fnMoreContentWrong : ChangeSpec := { name := "fnMoreContent", fn := fun _ => fun
  | [d1, d2, d3, d4] => { results := [.lit (.bool false)], args := [d1, d2, d3, d4] }
  | _ => none }
def FnMoreContentWrongFalsely : Prop := fnMoreContentRow.holds Tryz.pinned (OpenSpec.ofChange fnMoreContentWrong)

/-- 'laws.FnMoreLanguages': WHATEVER THE INPUT: true; the input reads as it did. -/
def fnMoreLanguagesSpec : ChangeSpec := { name := "fnMoreLanguages", fn := fun _ => fun
  | [d1, d2, d3, d4, d5] => { results := [.lit (.bool true)], args := [d1, d2, d3, d4, d5] }
  | _ => none }
def fnMoreLanguagesRow : OpenClaim := { program := "ytcdgldnphhidlaagreatdoor", sum := "7fe849b5b5f76a4a269bd47d9138ac17eb9db958ab351c7be901ba0be54e3e2c", func := "pub-trackway/laws.FnMoreLanguages", spec := "fnMoreLanguages", inPlace := ["internal/abi.NoEscape", "internal/bytealg.MakeNoZero"], unfollowed := true, recurses := true, named := ["unicode/utf8.first", "unicode/utf8.acceptRanges", "unicode.CaseRanges"], apart := false, laid := [("unicode/utf8.acceptRanges", laid_unicode_utf8_acceptRanges), ("unicode.CaseRanges", laid_unicode_CaseRanges), ("unicode/utf8.first", laid_unicode_utf8_first)] }
def FnMoreLanguagesSaid : Prop := fnMoreLanguagesRow.holds Tryz.pinned (OpenSpec.ofChange fnMoreLanguagesSpec)

/-- ITS FALSE NEIGHBOUR: 'it returns false'. Refute it at one input. -/
def fnMoreLanguagesWrong : ChangeSpec := { name := "fnMoreLanguages", fn := fun _ => fun
  | [d1, d2, d3, d4, d5] => { results := [.lit (.bool false)], args := [d1, d2, d3, d4, d5] }
  | _ => none }
def FnMoreLanguagesWrongFalsely : Prop := fnMoreLanguagesRow.holds Tryz.pinned (OpenSpec.ofChange fnMoreLanguagesWrong)

/-- 'laws.FnNoLanguages': WHATEVER THE INPUT: true; the input reads as it did. -/
def fnNoLanguagesSpec : ChangeSpec := { name := "fnNoLanguages", fn := fun _ => fun
  | [d1, d2, d3] => { results := [.lit (.bool true)], args := [d1, d2, d3] }
  | _ => none }
def fnNoLanguagesRow : OpenClaim := { program := "ytcdgldnphhidlaagreatdoor", sum := "7fe849b5b5f76a4a269bd47d9138ac17eb9db958ab351c7be901ba0be54e3e2c", func := "pub-trackway/laws.FnNoLanguages", spec := "fnNoLanguages", inPlace := ["internal/abi.NoEscape", "internal/bytealg.MakeNoZero"], unfollowed := true, recurses := true, named := ["unicode/utf8.first", "unicode/utf8.acceptRanges", "unicode.CaseRanges"], apart := false, laid := [("unicode/utf8.acceptRanges", laid_unicode_utf8_acceptRanges), ("unicode.CaseRanges", laid_unicode_CaseRanges), ("unicode/utf8.first", laid_unicode_utf8_first)] }
def FnNoLanguagesSaid : Prop := fnNoLanguagesRow.holds Tryz.pinned (OpenSpec.ofChange fnNoLanguagesSpec)

/-- ITS FALSE NEIGHBOUR: 'it returns false'. Refute it at one input. -/
def fnNoLanguagesWrong : ChangeSpec := { name := "fnNoLanguages", fn := fun _ => fun
  | [d1, d2, d3] => { results := [.lit (.bool false)], args := [d1, d2, d3] }
  | _ => none }
def FnNoLanguagesWrongFalsely : Prop := fnNoLanguagesRow.holds Tryz.pinned (OpenSpec.ofChange fnNoLanguagesWrong)

/-- 'laws.FnParse': WHATEVER THE INPUT: true; the input reads as it did. -/
def fnParseSpec : ChangeSpec := { name := "fnParse", fn := fun _ => fun
  | [d1, d2, d3] => { results := [.lit (.bool true)], args := [d1, d2, d3] }
  | _ => none }
def fnParseRow : OpenClaim := { program := "ytcdgldnphhidlaagreatdoor", sum := "7fe849b5b5f76a4a269bd47d9138ac17eb9db958ab351c7be901ba0be54e3e2c", func := "pub-trackway/laws.FnParse", spec := "fnParse", inPlace := ["internal/abi.NoEscape", "internal/bytealg.MakeNoZero"], unfollowed := true, recurses := true, named := ["unicode/utf8.first", "unicode/utf8.acceptRanges", "unicode.CaseRanges"], apart := false, laid := [("unicode/utf8.acceptRanges", laid_unicode_utf8_acceptRanges), ("unicode.CaseRanges", laid_unicode_CaseRanges), ("unicode/utf8.first", laid_unicode_utf8_first)] }
def FnParseSaid : Prop := fnParseRow.holds Tryz.pinned (OpenSpec.ofChange fnParseSpec)

/-- ITS FALSE NEIGHBOUR: 'it returns false'. Refute it at one input. -/
def fnParseWrong : ChangeSpec := { name := "fnParse", fn := fun _ => fun
  | [d1, d2, d3] => { results := [.lit (.bool false)], args := [d1, d2, d3] }
  | _ => none }
def FnParseWrongFalsely : Prop := fnParseRow.holds Tryz.pinned (OpenSpec.ofChange fnParseWrong)

/-- 'laws.FnUnnormalizedSame': WHATEVER THE INPUT: true; the input reads as it did. -/
def fnUnnormalizedSameSpec : ChangeSpec := { name := "fnUnnormalizedSame", fn := fun _ => fun
  | [d1, d2, d3] => { results := [.lit (.bool true)], args := [d1, d2, d3] }
  | _ => none }
def fnUnnormalizedSameRow : OpenClaim := { program := "ytcdgldnphhidlaagreatdoor", sum := "7fe849b5b5f76a4a269bd47d9138ac17eb9db958ab351c7be901ba0be54e3e2c", func := "pub-trackway/laws.FnUnnormalizedSame", spec := "fnUnnormalizedSame", inPlace := ["internal/abi.NoEscape", "internal/bytealg.MakeNoZero"], unfollowed := true, recurses := true, named := ["unicode/utf8.first", "unicode/utf8.acceptRanges", "unicode.CaseRanges"], apart := false, laid := [("unicode/utf8.acceptRanges", laid_unicode_utf8_acceptRanges), ("unicode.CaseRanges", laid_unicode_CaseRanges), ("unicode/utf8.first", laid_unicode_utf8_first)] }
def FnUnnormalizedSameSaid : Prop := fnUnnormalizedSameRow.holds Tryz.pinned (OpenSpec.ofChange fnUnnormalizedSameSpec)

/-- ITS FALSE NEIGHBOUR: 'it returns false'. Refute it at one input. -/
def fnUnnormalizedSameWrong : ChangeSpec := { name := "fnUnnormalizedSame", fn := fun _ => fun
  | [d1, d2, d3] => { results := [.lit (.bool false)], args := [d1, d2, d3] }
  | _ => none }
def FnUnnormalizedSameWrongFalsely : Prop := fnUnnormalizedSameRow.holds Tryz.pinned (OpenSpec.ofChange fnUnnormalizedSameWrong)

/- THE SECOND FORM. 'bulk': how many values and letters a reading holds, each counted each time it is reached (what is shared counts as often as it is met; a slice's spare places count too). A statement '..UptoSaid' is the law's where the arguments, and the package variables that the reading takes, are together of bulk at most 1048576: NARROWER than '..Said'. Prove '..Said' where nothing that the law and all that it calls make is longer than what came in: it says more and counts as full. Else prove '..UptoSaid'. A law counts once. -/
mutual
def uptoBulk {H : Type} : DataW H → Nat
  | .lit (.string bytes) => bytes.length + 1
  | .lit _ => 1
  | .nil => 1
  | .ptr d => uptoBulk d + 1
  | .slice elems spare => uptoBulkAll elems + uptoBulkAll spare + 1
  | .agg parts => uptoBulkAll parts + 1
  | .iface _ d => uptoBulk d + 1
  | .map entries => uptoBulkEntries entries + 1
  | .held _ => 1
def uptoBulkAll {H : Type} : List (DataW H) → Nat
  | [] => 0
  | d :: r => uptoBulk d + uptoBulkAll r
def uptoBulkEntries {H : Type} : List (Lit × DataW H) → Nat
  | [] => 0
  | x :: r => uptoBulkEntry x + uptoBulkEntries r
def uptoBulkEntry {H : Type} : Lit × DataW H → Nat
  | (.string bytes, d) => bytes.length + uptoBulk d + 1
  | (_, d) => uptoBulk d + 1
 end
def uptoSmall : (H : Type) → List (DataW H) → Bool := fun _ ds => decide (uptoBulkAll ds ≤ 1048576)
def OpenSpec.upto (s : _root_.Go.ChangeSpec) : _root_.Go.OpenSpec := { _root_.Go.OpenSpec.ofChange s with cond := some uptoSmall }

/-- 'laws.FnBaseRel', WHERE WHAT IT READS IS OF BULK AT MOST 1048576: true; the input reads as it did. -/
def fnBaseRelUptoRow : OpenClaim := { program := "ytcdgldnphhidlaagreatdoor", sum := "7fe849b5b5f76a4a269bd47d9138ac17eb9db958ab351c7be901ba0be54e3e2c", func := "pub-trackway/laws.FnBaseRel", spec := "fnBaseRel", inPlace := ["internal/abi.NoEscape", "internal/bytealg.MakeNoZero"], unfollowed := true, recurses := true, named := ["unicode/utf8.first", "unicode/utf8.acceptRanges", "unicode.CaseRanges"], apart := false, laid := [("unicode/utf8.acceptRanges", laid_unicode_utf8_acceptRanges), ("unicode.CaseRanges", laid_unicode_CaseRanges), ("unicode/utf8.first", laid_unicode_utf8_first)], narrowed := true }
def FnBaseRelUptoSaid : Prop := fnBaseRelUptoRow.holds Tryz.pinned (OpenSpec.upto fnBaseRelSpec)

/-- 'laws.FnPathRel', WHERE WHAT IT READS IS OF BULK AT MOST 1048576: true; the input reads as it did. -/
def fnPathRelUptoRow : OpenClaim := { program := "ytcdgldnphhidlaagreatdoor", sum := "7fe849b5b5f76a4a269bd47d9138ac17eb9db958ab351c7be901ba0be54e3e2c", func := "pub-trackway/laws.FnPathRel", spec := "fnPathRel", inPlace := ["internal/abi.NoEscape", "internal/bytealg.MakeNoZero"], unfollowed := true, recurses := true, named := ["unicode/utf8.first", "unicode/utf8.acceptRanges", "unicode.CaseRanges"], apart := false, laid := [("unicode/utf8.acceptRanges", laid_unicode_utf8_acceptRanges), ("unicode.CaseRanges", laid_unicode_CaseRanges), ("unicode/utf8.first", laid_unicode_utf8_first)], narrowed := true }
def FnPathRelUptoSaid : Prop := fnPathRelUptoRow.holds Tryz.pinned (OpenSpec.upto fnPathRelSpec)

/-- 'laws.FnBuiltBundle', WHERE WHAT IT READS IS OF BULK AT MOST 1048576: true; the input reads as it did. -/
def fnBuiltBundleUptoRow : OpenClaim := { program := "ytcdgldnphhidlaagreatdoor", sum := "7fe849b5b5f76a4a269bd47d9138ac17eb9db958ab351c7be901ba0be54e3e2c", func := "pub-trackway/laws.FnBuiltBundle", spec := "fnBuiltBundle", inPlace := ["internal/abi.NoEscape", "internal/bytealg.MakeNoZero"], unfollowed := true, recurses := true, named := ["unicode/utf8.first", "unicode/utf8.acceptRanges", "unicode.CaseRanges"], apart := false, laid := [("unicode/utf8.acceptRanges", laid_unicode_utf8_acceptRanges), ("unicode.CaseRanges", laid_unicode_CaseRanges), ("unicode/utf8.first", laid_unicode_utf8_first)], narrowed := true }
def FnBuiltBundleUptoSaid : Prop := fnBuiltBundleUptoRow.holds Tryz.pinned (OpenSpec.upto fnBuiltBundleSpec)

/-- 'laws.FnBuiltDisabled', WHERE WHAT IT READS IS OF BULK AT MOST 1048576: true; the input reads as it did. -/
def fnBuiltDisabledUptoRow : OpenClaim := { program := "ytcdgldnphhidlaagreatdoor", sum := "7fe849b5b5f76a4a269bd47d9138ac17eb9db958ab351c7be901ba0be54e3e2c", func := "pub-trackway/laws.FnBuiltDisabled", spec := "fnBuiltDisabled", inPlace := ["internal/abi.NoEscape", "internal/bytealg.MakeNoZero"], unfollowed := true, recurses := true, named := ["unicode/utf8.first", "unicode/utf8.acceptRanges", "unicode.CaseRanges"], apart := false, laid := [("unicode/utf8.acceptRanges", laid_unicode_utf8_acceptRanges), ("unicode.CaseRanges", laid_unicode_CaseRanges), ("unicode/utf8.first", laid_unicode_utf8_first)], narrowed := true }
def FnBuiltDisabledUptoSaid : Prop := fnBuiltDisabledUptoRow.holds Tryz.pinned (OpenSpec.upto fnBuiltDisabledSpec)

/-- 'laws.FnBuiltFile', WHERE WHAT IT READS IS OF BULK AT MOST 1048576: true; the input reads as it did. -/
def fnBuiltFileUptoRow : OpenClaim := { program := "ytcdgldnphhidlaagreatdoor", sum := "7fe849b5b5f76a4a269bd47d9138ac17eb9db958ab351c7be901ba0be54e3e2c", func := "pub-trackway/laws.FnBuiltFile", spec := "fnBuiltFile", inPlace := ["internal/abi.NoEscape", "internal/bytealg.MakeNoZero"], unfollowed := true, recurses := true, named := ["unicode/utf8.first", "unicode/utf8.acceptRanges", "unicode.CaseRanges"], apart := false, laid := [("unicode/utf8.acceptRanges", laid_unicode_utf8_acceptRanges), ("unicode.CaseRanges", laid_unicode_CaseRanges), ("unicode/utf8.first", laid_unicode_utf8_first)], narrowed := true }
def FnBuiltFileUptoSaid : Prop := fnBuiltFileUptoRow.holds Tryz.pinned (OpenSpec.upto fnBuiltFileSpec)

/-- 'laws.FnBuiltFormat', WHERE WHAT IT READS IS OF BULK AT MOST 1048576: true; the input reads as it did. -/
def fnBuiltFormatUptoRow : OpenClaim := { program := "ytcdgldnphhidlaagreatdoor", sum := "7fe849b5b5f76a4a269bd47d9138ac17eb9db958ab351c7be901ba0be54e3e2c", func := "pub-trackway/laws.FnBuiltFormat", spec := "fnBuiltFormat", inPlace := ["internal/abi.NoEscape", "internal/bytealg.MakeNoZero"], unfollowed := true, recurses := true, named := ["unicode/utf8.first", "unicode/utf8.acceptRanges", "unicode.CaseRanges"], apart := false, laid := [("unicode/utf8.acceptRanges", laid_unicode_utf8_acceptRanges), ("unicode.CaseRanges", laid_unicode_CaseRanges), ("unicode/utf8.first", laid_unicode_utf8_first)], narrowed := true }
def FnBuiltFormatUptoSaid : Prop := fnBuiltFormatUptoRow.holds Tryz.pinned (OpenSpec.upto fnBuiltFormatSpec)

/-- 'laws.FnBuiltWrapped', WHERE WHAT IT READS IS OF BULK AT MOST 1048576: true; the input reads as it did. -/
def fnBuiltWrappedUptoRow : OpenClaim := { program := "ytcdgldnphhidlaagreatdoor", sum := "7fe849b5b5f76a4a269bd47d9138ac17eb9db958ab351c7be901ba0be54e3e2c", func := "pub-trackway/laws.FnBuiltWrapped", spec := "fnBuiltWrapped", inPlace := ["internal/abi.NoEscape", "internal/bytealg.MakeNoZero"], unfollowed := true, recurses := true, named := ["unicode/utf8.first", "unicode/utf8.acceptRanges", "unicode.CaseRanges"], apart := false, laid := [("unicode/utf8.acceptRanges", laid_unicode_utf8_acceptRanges), ("unicode.CaseRanges", laid_unicode_CaseRanges), ("unicode/utf8.first", laid_unicode_utf8_first)], narrowed := true }
def FnBuiltWrappedUptoSaid : Prop := fnBuiltWrappedUptoRow.holds Tryz.pinned (OpenSpec.upto fnBuiltWrappedSpec)

/-- 'laws.FnMoreContent', WHERE WHAT IT READS IS OF BULK AT MOST 1048576: true; the input reads as it did. -/
def fnMoreContentUptoRow : OpenClaim := { program := "ytcdgldnphhidlaagreatdoor", sum := "7fe849b5b5f76a4a269bd47d9138ac17eb9db958ab351c7be901ba0be54e3e2c", func := "pub-trackway/laws.FnMoreContent", spec := "fnMoreContent", inPlace := ["internal/abi.NoEscape", "internal/bytealg.MakeNoZero"], unfollowed := true, recurses := true, named := ["unicode/utf8.first", "unicode/utf8.acceptRanges", "unicode.CaseRanges"], apart := false, laid := [("unicode/utf8.acceptRanges", laid_unicode_utf8_acceptRanges), ("unicode.CaseRanges", laid_unicode_CaseRanges), ("unicode/utf8.first", laid_unicode_utf8_first)], narrowed := true }
def FnMoreContentUptoSaid : Prop := fnMoreContentUptoRow.holds Tryz.pinned (OpenSpec.upto fnMoreContentSpec)

/-- 'laws.FnMoreLanguages', WHERE WHAT IT READS IS OF BULK AT MOST 1048576: true; the input reads as it did. -/
def fnMoreLanguagesUptoRow : OpenClaim := { program := "ytcdgldnphhidlaagreatdoor", sum := "7fe849b5b5f76a4a269bd47d9138ac17eb9db958ab351c7be901ba0be54e3e2c", func := "pub-trackway/laws.FnMoreLanguages", spec := "fnMoreLanguages", inPlace := ["internal/abi.NoEscape", "internal/bytealg.MakeNoZero"], unfollowed := true, recurses := true, named := ["unicode/utf8.first", "unicode/utf8.acceptRanges", "unicode.CaseRanges"], apart := false, laid := [("unicode/utf8.acceptRanges", laid_unicode_utf8_acceptRanges), ("unicode.CaseRanges", laid_unicode_CaseRanges), ("unicode/utf8.first", laid_unicode_utf8_first)], narrowed := true }
def FnMoreLanguagesUptoSaid : Prop := fnMoreLanguagesUptoRow.holds Tryz.pinned (OpenSpec.upto fnMoreLanguagesSpec)

/-- 'laws.FnNoLanguages', WHERE WHAT IT READS IS OF BULK AT MOST 1048576: true; the input reads as it did. -/
def fnNoLanguagesUptoRow : OpenClaim := { program := "ytcdgldnphhidlaagreatdoor", sum := "7fe849b5b5f76a4a269bd47d9138ac17eb9db958ab351c7be901ba0be54e3e2c", func := "pub-trackway/laws.FnNoLanguages", spec := "fnNoLanguages", inPlace := ["internal/abi.NoEscape", "internal/bytealg.MakeNoZero"], unfollowed := true, recurses := true, named := ["unicode/utf8.first", "unicode/utf8.acceptRanges", "unicode.CaseRanges"], apart := false, laid := [("unicode/utf8.acceptRanges", laid_unicode_utf8_acceptRanges), ("unicode.CaseRanges", laid_unicode_CaseRanges), ("unicode/utf8.first", laid_unicode_utf8_first)], narrowed := true }
def FnNoLanguagesUptoSaid : Prop := fnNoLanguagesUptoRow.holds Tryz.pinned (OpenSpec.upto fnNoLanguagesSpec)

/-- 'laws.FnParse', WHERE WHAT IT READS IS OF BULK AT MOST 1048576: true; the input reads as it did. -/
def fnParseUptoRow : OpenClaim := { program := "ytcdgldnphhidlaagreatdoor", sum := "7fe849b5b5f76a4a269bd47d9138ac17eb9db958ab351c7be901ba0be54e3e2c", func := "pub-trackway/laws.FnParse", spec := "fnParse", inPlace := ["internal/abi.NoEscape", "internal/bytealg.MakeNoZero"], unfollowed := true, recurses := true, named := ["unicode/utf8.first", "unicode/utf8.acceptRanges", "unicode.CaseRanges"], apart := false, laid := [("unicode/utf8.acceptRanges", laid_unicode_utf8_acceptRanges), ("unicode.CaseRanges", laid_unicode_CaseRanges), ("unicode/utf8.first", laid_unicode_utf8_first)], narrowed := true }
def FnParseUptoSaid : Prop := fnParseUptoRow.holds Tryz.pinned (OpenSpec.upto fnParseSpec)

/-- 'laws.FnUnnormalizedSame', WHERE WHAT IT READS IS OF BULK AT MOST 1048576: true; the input reads as it did. -/
def fnUnnormalizedSameUptoRow : OpenClaim := { program := "ytcdgldnphhidlaagreatdoor", sum := "7fe849b5b5f76a4a269bd47d9138ac17eb9db958ab351c7be901ba0be54e3e2c", func := "pub-trackway/laws.FnUnnormalizedSame", spec := "fnUnnormalizedSame", inPlace := ["internal/abi.NoEscape", "internal/bytealg.MakeNoZero"], unfollowed := true, recurses := true, named := ["unicode/utf8.first", "unicode/utf8.acceptRanges", "unicode.CaseRanges"], apart := false, laid := [("unicode/utf8.acceptRanges", laid_unicode_utf8_acceptRanges), ("unicode.CaseRanges", laid_unicode_CaseRanges), ("unicode/utf8.first", laid_unicode_utf8_first)], narrowed := true }
def FnUnnormalizedSameUptoSaid : Prop := fnUnnormalizedSameUptoRow.holds Tryz.pinned (OpenSpec.upto fnUnnormalizedSameSpec)

end Rows
end Go.Proofs.YtcdgldnphhidlaaGreatDoor
