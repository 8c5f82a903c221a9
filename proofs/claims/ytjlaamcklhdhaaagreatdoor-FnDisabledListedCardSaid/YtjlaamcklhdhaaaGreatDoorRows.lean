/-
  NARROWER THAN 'FOR EVERY INPUT', by the rows' own cells (each row's printed sentence says how): FnBaseFile: laid · FnHasExtension: laid · FnBeforeBegins: laid · FnCase: laid · FnDisabledListed: laid · FnLangListed: laid · FnNameExt: laid · FnNamesLess: laid · FnOthers: laid · FnSectionFirst: laid · FnSlashAhead: laid · FnWordsThere: laid.
  DERIVED. THE GIVEN ROWS OF THIS SEAT. 12 by the template 'for every input the law returns true; each argument reads behind the call as it read before'; 0 by the template 'total and deterministic' (their statements: YtjlaamcklhdhaaaGreatDoorTotals.lean).
  GIVEN WITH THE SEED: the statements are not yours to turn. If you find one false, say at which input.
  Laid BY PROGRAM, IN A SANDBOX (cutbox-rows.mjs): the forced cells as the released guide's own fill.sh prints them over the translation 6c826e01e097c866… (all of the seat's roots in one cut). By AI agents, Wed Nov 11 2026. No macro, syntax, notation, axiom, sorry.
-/
import Derived.Test.YtjlaamcklhdhaaaGreatDoorChecked
import GoSem.PinnedTables
import GoSem.Claim
import GoSem.ClaimJoined
import GoSem.ClaimMapViews
import Derived.JoinedTies
import Derived.KernelRfl
namespace Go.Proofs.YtjlaamcklhdhaaaGreatDoor
/- THE CELL 'sum', in the pinned program and in every row, IS THE sha256 OF THE DUMP (.gsa) THAT YtjlaamcklhdhaaaGreatDoorProg.lean LOADS. Nothing in Lean hashes anything: it is a label: what it is worth is what the hold of that sum in a sandbox is worth. -/
noncomputable def Tryz.pinned : Pinned := { name := "ytjlaamcklhdhaaagreatdoor", sum := "6c826e01e097c86637b19fed1bc242619a507edd3b115a8ccd3b6231279deaea", checked := Tryz.checked }
namespace Rows
def none {H : Type} : Left H := { results := [], args := [] }

/- WHAT THE LISTED PACKAGE-LEVEL VARIABLES READ AS WHEN THE CALL BEGINS. Each datum BY PROGRAM (the guide's laid-datum.mjs) off the statement by which the dump's own 'gosem.cut.vars' lays the variable. In a bare row this is a premise. The card (YtjlaamcklhdhaaaGreatDoorCards.lean) ties it to the program's text. -/
def laid_unicode_utf8_acceptRanges {H : Type} : DataW H := .agg [.agg [.lit (.int .u8 128), .lit (.int .u8 191)], .agg [.lit (.int .u8 160), .lit (.int .u8 191)], .agg [.lit (.int .u8 128), .lit (.int .u8 159)], .agg [.lit (.int .u8 144), .lit (.int .u8 191)], .agg [.lit (.int .u8 128), .lit (.int .u8 143)], .agg [.lit (.int .u8 0), .lit (.int .u8 0)], .agg [.lit (.int .u8 0), .lit (.int .u8 0)], .agg [.lit (.int .u8 0), .lit (.int .u8 0)], .agg [.lit (.int .u8 0), .lit (.int .u8 0)], .agg [.lit (.int .u8 0), .lit (.int .u8 0)], .agg [.lit (.int .u8 0), .lit (.int .u8 0)], .agg [.lit (.int .u8 0), .lit (.int .u8 0)], .agg [.lit (.int .u8 0), .lit (.int .u8 0)], .agg [.lit (.int .u8 0), .lit (.int .u8 0)], .agg [.lit (.int .u8 0), .lit (.int .u8 0)], .agg [.lit (.int .u8 0), .lit (.int .u8 0)]]
/-- One of Go's own tables, pinned by name: the form's constant. -/
def laid_unicode_CaseRanges : DataW Unit := Go.Pinned.caseRanges
/-- One of Go's own tables, pinned by name: the form's constant. -/
def laid_unicode_utf8_first : DataW Unit := Go.Pinned.utf8First

/-- 'laws.FnBaseFile': WHATEVER THE INPUT: true; the input reads as it did. -/
def fnBaseFileSpec : ChangeSpec := { name := "fnBaseFile", fn := fun _ => fun
  | [d1, d2, d3] => { results := [.lit (.bool true)], args := [d1, d2, d3] }
  | _ => none }
def fnBaseFileRow : OpenClaim := { program := "ytjlaamcklhdhaaagreatdoor", sum := "6c826e01e097c86637b19fed1bc242619a507edd3b115a8ccd3b6231279deaea", func := "pub-trackway/laws.FnBaseFile", spec := "fnBaseFile", inPlace := ["internal/abi.NoEscape", "internal/bytealg.MakeNoZero"], unfollowed := true, recurses := true, named := ["unicode/utf8.first", "unicode/utf8.acceptRanges", "unicode.CaseRanges"], apart := false, laid := [("unicode/utf8.acceptRanges", laid_unicode_utf8_acceptRanges), ("unicode.CaseRanges", laid_unicode_CaseRanges), ("unicode/utf8.first", laid_unicode_utf8_first)] }
def FnBaseFileSaid : Prop := fnBaseFileRow.holds Tryz.pinned (OpenSpec.ofChange fnBaseFileSpec)

/-- ITS FALSE NEIGHBOUR: 'it returns false'. Refute it at one input. -/
def fnBaseFileWrong : ChangeSpec := { name := "fnBaseFile", fn := fun _ => fun
  | [d1, d2, d3] => { results := [.lit (.bool false)], args := [d1, d2, d3] }
  | _ => none }
def FnBaseFileWrongFalsely : Prop := fnBaseFileRow.holds Tryz.pinned (OpenSpec.ofChange fnBaseFileWrong)

/-- 'laws.FnHasExtension': WHATEVER THE INPUT: true; the input reads as it did. -/
def fnHasExtensionSpec : ChangeSpec := { name := "fnHasExtension", fn := fun _ => fun
  | [d1, d2, d3] => { results := [.lit (.bool true)], args := [d1, d2, d3] }
  | _ => none }
def fnHasExtensionRow : OpenClaim := { program := "ytjlaamcklhdhaaagreatdoor", sum := "6c826e01e097c86637b19fed1bc242619a507edd3b115a8ccd3b6231279deaea", func := "pub-trackway/laws.FnHasExtension", spec := "fnHasExtension", inPlace := ["internal/abi.NoEscape", "internal/bytealg.MakeNoZero"], unfollowed := true, recurses := true, named := ["unicode/utf8.first", "unicode/utf8.acceptRanges", "unicode.CaseRanges"], apart := false, laid := [("unicode/utf8.acceptRanges", laid_unicode_utf8_acceptRanges), ("unicode.CaseRanges", laid_unicode_CaseRanges), ("unicode/utf8.first", laid_unicode_utf8_first)] }
def FnHasExtensionSaid : Prop := fnHasExtensionRow.holds Tryz.pinned (OpenSpec.ofChange fnHasExtensionSpec)

/-- ITS FALSE NEIGHBOUR: 'it returns false'. Refute it at one input. -/
def fnHasExtensionWrong : ChangeSpec := { name := "fnHasExtension", fn := fun _ => fun
  | [d1, d2, d3] => { results := [.lit (.bool false)], args := [d1, d2, d3] }
  | _ => none }
def FnHasExtensionWrongFalsely : Prop := fnHasExtensionRow.holds Tryz.pinned (OpenSpec.ofChange fnHasExtensionWrong)

/-- 'laws.FnBeforeBegins': WHATEVER THE INPUT: true; the input reads as it did. -/
def fnBeforeBeginsSpec : ChangeSpec := { name := "fnBeforeBegins", fn := fun _ => fun
  | [d1, d2, d3] => { results := [.lit (.bool true)], args := [d1, d2, d3] }
  | _ => none }
def fnBeforeBeginsRow : OpenClaim := { program := "ytjlaamcklhdhaaagreatdoor", sum := "6c826e01e097c86637b19fed1bc242619a507edd3b115a8ccd3b6231279deaea", func := "pub-trackway/laws.FnBeforeBegins", spec := "fnBeforeBegins", inPlace := ["internal/abi.NoEscape", "internal/bytealg.MakeNoZero"], unfollowed := true, recurses := true, named := ["unicode/utf8.first", "unicode/utf8.acceptRanges", "unicode.CaseRanges"], apart := false, laid := [("unicode/utf8.acceptRanges", laid_unicode_utf8_acceptRanges), ("unicode.CaseRanges", laid_unicode_CaseRanges), ("unicode/utf8.first", laid_unicode_utf8_first)] }
def FnBeforeBeginsSaid : Prop := fnBeforeBeginsRow.holds Tryz.pinned (OpenSpec.ofChange fnBeforeBeginsSpec)

/-- ITS FALSE NEIGHBOUR: 'it returns false'. Refute it at one input. -/
def fnBeforeBeginsWrong : ChangeSpec := { name := "fnBeforeBegins", fn := fun _ => fun
  | [d1, d2, d3] => { results := [.lit (.bool false)], args := [d1, d2, d3] }
  | _ => none }
def FnBeforeBeginsWrongFalsely : Prop := fnBeforeBeginsRow.holds Tryz.pinned (OpenSpec.ofChange fnBeforeBeginsWrong)

/-- 'laws.FnCase': WHATEVER THE INPUT: true; the input reads as it did. -/
def fnCaseSpec : ChangeSpec := { name := "fnCase", fn := fun _ => fun
  | [d1, d2, d3] => { results := [.lit (.bool true)], args := [d1, d2, d3] }
  | _ => none }
def fnCaseRow : OpenClaim := { program := "ytjlaamcklhdhaaagreatdoor", sum := "6c826e01e097c86637b19fed1bc242619a507edd3b115a8ccd3b6231279deaea", func := "pub-trackway/laws.FnCase", spec := "fnCase", inPlace := ["internal/abi.NoEscape", "internal/bytealg.MakeNoZero"], unfollowed := true, recurses := true, named := ["unicode/utf8.first", "unicode/utf8.acceptRanges", "unicode.CaseRanges"], apart := false, laid := [("unicode/utf8.acceptRanges", laid_unicode_utf8_acceptRanges), ("unicode.CaseRanges", laid_unicode_CaseRanges), ("unicode/utf8.first", laid_unicode_utf8_first)] }
def FnCaseSaid : Prop := fnCaseRow.holds Tryz.pinned (OpenSpec.ofChange fnCaseSpec)

/-- ITS FALSE NEIGHBOUR: 'it returns false'. Refute it at one input. -/
def fnCaseWrong : ChangeSpec := { name := "fnCase", fn := fun _ => fun
  | [d1, d2, d3] => { results := [.lit (.bool false)], args := [d1, d2, d3] }
  | _ => none }
def FnCaseWrongFalsely : Prop := fnCaseRow.holds Tryz.pinned (OpenSpec.ofChange fnCaseWrong)

/-- 'laws.FnDisabledListed': WHATEVER THE INPUT: true; the input reads as it did. -/
def fnDisabledListedSpec : ChangeSpec := { name := "fnDisabledListed", fn := fun _ => fun
  | [d1, d2, d3] => { results := [.lit (.bool true)], args := [d1, d2, d3] }
  | _ => none }
def fnDisabledListedRow : OpenClaim := { program := "ytjlaamcklhdhaaagreatdoor", sum := "6c826e01e097c86637b19fed1bc242619a507edd3b115a8ccd3b6231279deaea", func := "pub-trackway/laws.FnDisabledListed", spec := "fnDisabledListed", inPlace := ["internal/abi.NoEscape", "internal/bytealg.MakeNoZero"], unfollowed := true, recurses := true, named := ["unicode/utf8.first", "unicode/utf8.acceptRanges", "unicode.CaseRanges"], apart := false, laid := [("unicode/utf8.acceptRanges", laid_unicode_utf8_acceptRanges), ("unicode.CaseRanges", laid_unicode_CaseRanges), ("unicode/utf8.first", laid_unicode_utf8_first)] }
def FnDisabledListedSaid : Prop := fnDisabledListedRow.holds Tryz.pinned (OpenSpec.ofChange fnDisabledListedSpec)

/-- ITS FALSE NEIGHBOUR: 'it returns false'. Refute it at one input. -/
def fnDisabledListedWrong : ChangeSpec := { name := "fnDisabledListed", fn := fun _ => fun
  | [d1, d2, d3] => { results := [.lit (.bool false)], args := [d1, d2, d3] }
  | _ => none }
def FnDisabledListedWrongFalsely : Prop := fnDisabledListedRow.holds Tryz.pinned (OpenSpec.ofChange fnDisabledListedWrong)

/-- 'laws.FnLangListed': WHATEVER THE INPUT: true; the input reads as it did. -/
def fnLangListedSpec : ChangeSpec := { name := "fnLangListed", fn := fun _ => fun
  | [d1, d2, d3] => { results := [.lit (.bool true)], args := [d1, d2, d3] }
  | _ => none }
def fnLangListedRow : OpenClaim := { program := "ytjlaamcklhdhaaagreatdoor", sum := "6c826e01e097c86637b19fed1bc242619a507edd3b115a8ccd3b6231279deaea", func := "pub-trackway/laws.FnLangListed", spec := "fnLangListed", inPlace := ["internal/abi.NoEscape", "internal/bytealg.MakeNoZero"], unfollowed := true, recurses := true, named := ["unicode/utf8.first", "unicode/utf8.acceptRanges", "unicode.CaseRanges"], apart := false, laid := [("unicode/utf8.acceptRanges", laid_unicode_utf8_acceptRanges), ("unicode.CaseRanges", laid_unicode_CaseRanges), ("unicode/utf8.first", laid_unicode_utf8_first)] }
def FnLangListedSaid : Prop := fnLangListedRow.holds Tryz.pinned (OpenSpec.ofChange fnLangListedSpec)

/-- ITS FALSE NEIGHBOUR: 'it returns false'. Refute it at one input. -/
def fnLangListedWrong : ChangeSpec := { name := "fnLangListed", fn := fun _ => fun
  | [d1, d2, d3] => { results := [.lit (.bool false)], args := [d1, d2, d3] }
  | _ => none }
def FnLangListedWrongFalsely : Prop := fnLangListedRow.holds Tryz.pinned (OpenSpec.ofChange fnLangListedWrong)

/-- 'laws.FnNameExt': WHATEVER THE INPUT: true; the input reads as it did. -/
def fnNameExtSpec : ChangeSpec := { name := "fnNameExt", fn := fun _ => fun
  | [d1, d2, d3] => { results := [.lit (.bool true)], args := [d1, d2, d3] }
  | _ => none }
def fnNameExtRow : OpenClaim := { program := "ytjlaamcklhdhaaagreatdoor", sum := "6c826e01e097c86637b19fed1bc242619a507edd3b115a8ccd3b6231279deaea", func := "pub-trackway/laws.FnNameExt", spec := "fnNameExt", inPlace := ["internal/abi.NoEscape", "internal/bytealg.MakeNoZero"], unfollowed := true, recurses := true, named := ["unicode/utf8.first", "unicode/utf8.acceptRanges", "unicode.CaseRanges"], apart := false, laid := [("unicode/utf8.acceptRanges", laid_unicode_utf8_acceptRanges), ("unicode.CaseRanges", laid_unicode_CaseRanges), ("unicode/utf8.first", laid_unicode_utf8_first)] }
def FnNameExtSaid : Prop := fnNameExtRow.holds Tryz.pinned (OpenSpec.ofChange fnNameExtSpec)

/-- ITS FALSE NEIGHBOUR: 'it returns false'. Refute it at one input. -/
def fnNameExtWrong : ChangeSpec := { name := "fnNameExt", fn := fun _ => fun
  | [d1, d2, d3] => { results := [.lit (.bool false)], args := [d1, d2, d3] }
  | _ => none }
def FnNameExtWrongFalsely : Prop := fnNameExtRow.holds Tryz.pinned (OpenSpec.ofChange fnNameExtWrong)

/-- 'laws.FnNamesLess': WHATEVER THE INPUT: true; the input reads as it did. -/
def fnNamesLessSpec : ChangeSpec := { name := "fnNamesLess", fn := fun _ => fun
  | [d1, d2, d3] => { results := [.lit (.bool true)], args := [d1, d2, d3] }
  | _ => none }
def fnNamesLessRow : OpenClaim := { program := "ytjlaamcklhdhaaagreatdoor", sum := "6c826e01e097c86637b19fed1bc242619a507edd3b115a8ccd3b6231279deaea", func := "pub-trackway/laws.FnNamesLess", spec := "fnNamesLess", inPlace := ["internal/abi.NoEscape", "internal/bytealg.MakeNoZero"], unfollowed := true, recurses := true, named := ["unicode/utf8.first", "unicode/utf8.acceptRanges", "unicode.CaseRanges"], apart := false, laid := [("unicode/utf8.acceptRanges", laid_unicode_utf8_acceptRanges), ("unicode.CaseRanges", laid_unicode_CaseRanges), ("unicode/utf8.first", laid_unicode_utf8_first)] }
def FnNamesLessSaid : Prop := fnNamesLessRow.holds Tryz.pinned (OpenSpec.ofChange fnNamesLessSpec)

/-- ITS FALSE NEIGHBOUR: 'it returns false'. Refute it at one input. -/
def fnNamesLessWrong : ChangeSpec := { name := "fnNamesLess", fn := fun _ => fun
  | [d1, d2, d3] => { results := [.lit (.bool false)], args := [d1, d2, d3] }
  | _ => none }
def FnNamesLessWrongFalsely : Prop := fnNamesLessRow.holds Tryz.pinned (OpenSpec.ofChange fnNamesLessWrong)

/-- 'laws.FnOthers': WHATEVER THE INPUT: true; the input reads as it did. -/
def fnOthersSpec : ChangeSpec := { name := "fnOthers", fn := fun _ => fun
  | [d1, d2, d3] => { results := [.lit (.bool true)], args := [d1, d2, d3] }
  | _ => none }
def fnOthersRow : OpenClaim := { program := "ytjlaamcklhdhaaagreatdoor", sum := "6c826e01e097c86637b19fed1bc242619a507edd3b115a8ccd3b6231279deaea", func := "pub-trackway/laws.FnOthers", spec := "fnOthers", inPlace := ["internal/abi.NoEscape", "internal/bytealg.MakeNoZero"], unfollowed := true, recurses := true, named := ["unicode/utf8.first", "unicode/utf8.acceptRanges", "unicode.CaseRanges"], apart := false, laid := [("unicode/utf8.acceptRanges", laid_unicode_utf8_acceptRanges), ("unicode.CaseRanges", laid_unicode_CaseRanges), ("unicode/utf8.first", laid_unicode_utf8_first)] }
def FnOthersSaid : Prop := fnOthersRow.holds Tryz.pinned (OpenSpec.ofChange fnOthersSpec)

/-- ITS FALSE NEIGHBOUR: 'it returns false'. Refute it at one input. -/
def fnOthersWrong : ChangeSpec := { name := "fnOthers", fn := fun _ => fun
  | [d1, d2, d3] => { results := [.lit (.bool false)], args := [d1, d2, d3] }
  | _ => none }
def FnOthersWrongFalsely : Prop := fnOthersRow.holds Tryz.pinned (OpenSpec.ofChange fnOthersWrong)

/-- 'laws.FnSectionFirst': WHATEVER THE INPUT: true; the input reads as it did. -/
def fnSectionFirstSpec : ChangeSpec := { name := "fnSectionFirst", fn := fun _ => fun
  | [d1, d2, d3] => { results := [.lit (.bool true)], args := [d1, d2, d3] }
  | _ => none }
def fnSectionFirstRow : OpenClaim := { program := "ytjlaamcklhdhaaagreatdoor", sum := "6c826e01e097c86637b19fed1bc242619a507edd3b115a8ccd3b6231279deaea", func := "pub-trackway/laws.FnSectionFirst", spec := "fnSectionFirst", inPlace := ["internal/abi.NoEscape", "internal/bytealg.MakeNoZero"], unfollowed := true, recurses := true, named := ["unicode/utf8.first", "unicode/utf8.acceptRanges", "unicode.CaseRanges"], apart := false, laid := [("unicode/utf8.acceptRanges", laid_unicode_utf8_acceptRanges), ("unicode.CaseRanges", laid_unicode_CaseRanges), ("unicode/utf8.first", laid_unicode_utf8_first)] }
def FnSectionFirstSaid : Prop := fnSectionFirstRow.holds Tryz.pinned (OpenSpec.ofChange fnSectionFirstSpec)

/-- ITS FALSE NEIGHBOUR: 'it returns false'. Refute it at one input. -/
def fnSectionFirstWrong : ChangeSpec := { name := "fnSectionFirst", fn := fun _ => fun
  | [d1, d2, d3] => { results := [.lit (.bool false)], args := [d1, d2, d3] }
  | _ => none }
def FnSectionFirstWrongFalsely : Prop := fnSectionFirstRow.holds Tryz.pinned (OpenSpec.ofChange fnSectionFirstWrong)

/-- 'laws.FnSlashAhead': WHATEVER THE INPUT: true; the input reads as it did. -/
def fnSlashAheadSpec : ChangeSpec := { name := "fnSlashAhead", fn := fun _ => fun
  | [d1, d2, d3] => { results := [.lit (.bool true)], args := [d1, d2, d3] }
  | _ => none }
def fnSlashAheadRow : OpenClaim := { program := "ytjlaamcklhdhaaagreatdoor", sum := "6c826e01e097c86637b19fed1bc242619a507edd3b115a8ccd3b6231279deaea", func := "pub-trackway/laws.FnSlashAhead", spec := "fnSlashAhead", inPlace := ["internal/abi.NoEscape", "internal/bytealg.MakeNoZero"], unfollowed := true, recurses := true, named := ["unicode/utf8.first", "unicode/utf8.acceptRanges", "unicode.CaseRanges"], apart := false, laid := [("unicode/utf8.acceptRanges", laid_unicode_utf8_acceptRanges), ("unicode.CaseRanges", laid_unicode_CaseRanges), ("unicode/utf8.first", laid_unicode_utf8_first)] }
def FnSlashAheadSaid : Prop := fnSlashAheadRow.holds Tryz.pinned (OpenSpec.ofChange fnSlashAheadSpec)

/-- ITS FALSE NEIGHBOUR: 'it returns false'. Refute it at one input. -/
def fnSlashAheadWrong : ChangeSpec := { name := "fnSlashAhead", fn := fun _ => fun
  | [d1, d2, d3] => { results := [.lit (.bool false)], args := [d1, d2, d3] }
  | _ => none }
def FnSlashAheadWrongFalsely : Prop := fnSlashAheadRow.holds Tryz.pinned (OpenSpec.ofChange fnSlashAheadWrong)

/-- 'laws.FnWordsThere': WHATEVER THE INPUT: true; the input reads as it did. -/
def fnWordsThereSpec : ChangeSpec := { name := "fnWordsThere", fn := fun _ => fun
  | [d1, d2, d3] => { results := [.lit (.bool true)], args := [d1, d2, d3] }
  | _ => none }
def fnWordsThereRow : OpenClaim := { program := "ytjlaamcklhdhaaagreatdoor", sum := "6c826e01e097c86637b19fed1bc242619a507edd3b115a8ccd3b6231279deaea", func := "pub-trackway/laws.FnWordsThere", spec := "fnWordsThere", inPlace := ["internal/abi.NoEscape", "internal/bytealg.MakeNoZero"], unfollowed := true, recurses := true, named := ["unicode/utf8.first", "unicode/utf8.acceptRanges", "unicode.CaseRanges"], apart := false, laid := [("unicode/utf8.acceptRanges", laid_unicode_utf8_acceptRanges), ("unicode.CaseRanges", laid_unicode_CaseRanges), ("unicode/utf8.first", laid_unicode_utf8_first)] }
def FnWordsThereSaid : Prop := fnWordsThereRow.holds Tryz.pinned (OpenSpec.ofChange fnWordsThereSpec)

/-- ITS FALSE NEIGHBOUR: 'it returns false'. Refute it at one input. -/
def fnWordsThereWrong : ChangeSpec := { name := "fnWordsThere", fn := fun _ => fun
  | [d1, d2, d3] => { results := [.lit (.bool false)], args := [d1, d2, d3] }
  | _ => none }
def FnWordsThereWrongFalsely : Prop := fnWordsThereRow.holds Tryz.pinned (OpenSpec.ofChange fnWordsThereWrong)

/- THE SECOND FORM. 'bulk': how many values and letters a reading holds, each counted each time it is reached (what is shared counts as often as it is met; a slice's spare places count too). A statement '..UptoSaid' is the law's where the arguments, and the package variables that the reading takes, are together of bulk at most 1048576: NARROWER than '..Said'. Prove '..Said' where nothing that the law and all that it calls make is longer than what came in: it says more and counts as full. Else prove '..UptoSaid'. A law counts once. -/
mutual
def uptoBulk {H : Type} : DataW H → Nat
  | .lit (.string bytes) => bytes.length + 1
  | .lit _ => 1
  | .nil => 1
  | .ptr d => uptoBulk d + 1
  | .slice elems spare => uptoBulkAll elems + uptoBulkAll spare + 1
  | .agg parts => uptoBulkAll parts + 1
  | .iface _ d => uptoBulk d + 1
  | .map entries => uptoBulkEntries entries + 1
  | .held _ => 1
def uptoBulkAll {H : Type} : List (DataW H) → Nat
  | [] => 0
  | d :: r => uptoBulk d + uptoBulkAll r
def uptoBulkEntries {H : Type} : List (Lit × DataW H) → Nat
  | [] => 0
  | x :: r => uptoBulkEntry x + uptoBulkEntries r
def uptoBulkEntry {H : Type} : Lit × DataW H → Nat
  | (.string bytes, d) => bytes.length + uptoBulk d + 1
  | (_, d) => uptoBulk d + 1
 end
def uptoSmall : (H : Type) → List (DataW H) → Bool := fun _ ds => decide (uptoBulkAll ds ≤ 1048576)
def OpenSpec.upto (s : _root_.Go.ChangeSpec) : _root_.Go.OpenSpec := { _root_.Go.OpenSpec.ofChange s with cond := some uptoSmall }

/-- 'laws.FnBaseFile', WHERE WHAT IT READS IS OF BULK AT MOST 1048576: true; the input reads as it did. -/
def fnBaseFileUptoRow : OpenClaim := { program := "ytjlaamcklhdhaaagreatdoor", sum := "6c826e01e097c86637b19fed1bc242619a507edd3b115a8ccd3b6231279deaea", func := "pub-trackway/laws.FnBaseFile", spec := "fnBaseFile", inPlace := ["internal/abi.NoEscape", "internal/bytealg.MakeNoZero"], unfollowed := true, recurses := true, named := ["unicode/utf8.first", "unicode/utf8.acceptRanges", "unicode.CaseRanges"], apart := false, laid := [("unicode/utf8.acceptRanges", laid_unicode_utf8_acceptRanges), ("unicode.CaseRanges", laid_unicode_CaseRanges), ("unicode/utf8.first", laid_unicode_utf8_first)], narrowed := true }
def FnBaseFileUptoSaid : Prop := fnBaseFileUptoRow.holds Tryz.pinned (OpenSpec.upto fnBaseFileSpec)

/-- 'laws.FnHasExtension', WHERE WHAT IT READS IS OF BULK AT MOST 1048576: true; the input reads as it did. -/
def fnHasExtensionUptoRow : OpenClaim := { program := "ytjlaamcklhdhaaagreatdoor", sum := "6c826e01e097c86637b19fed1bc242619a507edd3b115a8ccd3b6231279deaea", func := "pub-trackway/laws.FnHasExtension", spec := "fnHasExtension", inPlace := ["internal/abi.NoEscape", "internal/bytealg.MakeNoZero"], unfollowed := true, recurses := true, named := ["unicode/utf8.first", "unicode/utf8.acceptRanges", "unicode.CaseRanges"], apart := false, laid := [("unicode/utf8.acceptRanges", laid_unicode_utf8_acceptRanges), ("unicode.CaseRanges", laid_unicode_CaseRanges), ("unicode/utf8.first", laid_unicode_utf8_first)], narrowed := true }
def FnHasExtensionUptoSaid : Prop := fnHasExtensionUptoRow.holds Tryz.pinned (OpenSpec.upto fnHasExtensionSpec)

/-- 'laws.FnBeforeBegins', WHERE WHAT IT READS IS OF BULK AT MOST 1048576: true; the input reads as it did. -/
def fnBeforeBeginsUptoRow : OpenClaim := { program := "ytjlaamcklhdhaaagreatdoor", sum := "6c826e01e097c86637b19fed1bc242619a507edd3b115a8ccd3b6231279deaea", func := "pub-trackway/laws.FnBeforeBegins", spec := "fnBeforeBegins", inPlace := ["internal/abi.NoEscape", "internal/bytealg.MakeNoZero"], unfollowed := true, recurses := true, named := ["unicode/utf8.first", "unicode/utf8.acceptRanges", "unicode.CaseRanges"], apart := false, laid := [("unicode/utf8.acceptRanges", laid_unicode_utf8_acceptRanges), ("unicode.CaseRanges", laid_unicode_CaseRanges), ("unicode/utf8.first", laid_unicode_utf8_first)], narrowed := true }
def FnBeforeBeginsUptoSaid : Prop := fnBeforeBeginsUptoRow.holds Tryz.pinned (OpenSpec.upto fnBeforeBeginsSpec)

/-- 'laws.FnCase', WHERE WHAT IT READS IS OF BULK AT MOST 1048576: true; the input reads as it did. -/
def fnCaseUptoRow : OpenClaim := { program := "ytjlaamcklhdhaaagreatdoor", sum := "6c826e01e097c86637b19fed1bc242619a507edd3b115a8ccd3b6231279deaea", func := "pub-trackway/laws.FnCase", spec := "fnCase", inPlace := ["internal/abi.NoEscape", "internal/bytealg.MakeNoZero"], unfollowed := true, recurses := true, named := ["unicode/utf8.first", "unicode/utf8.acceptRanges", "unicode.CaseRanges"], apart := false, laid := [("unicode/utf8.acceptRanges", laid_unicode_utf8_acceptRanges), ("unicode.CaseRanges", laid_unicode_CaseRanges), ("unicode/utf8.first", laid_unicode_utf8_first)], narrowed := true }
def FnCaseUptoSaid : Prop := fnCaseUptoRow.holds Tryz.pinned (OpenSpec.upto fnCaseSpec)

/-- 'laws.FnDisabledListed', WHERE WHAT IT READS IS OF BULK AT MOST 1048576: true; the input reads as it did. -/
def fnDisabledListedUptoRow : OpenClaim := { program := "ytjlaamcklhdhaaagreatdoor", sum := "6c826e01e097c86637b19fed1bc242619a507edd3b115a8ccd3b6231279deaea", func := "pub-trackway/laws.FnDisabledListed", spec := "fnDisabledListed", inPlace := ["internal/abi.NoEscape", "internal/bytealg.MakeNoZero"], unfollowed := true, recurses := true, named := ["unicode/utf8.first", "unicode/utf8.acceptRanges", "unicode.CaseRanges"], apart := false, laid := [("unicode/utf8.acceptRanges", laid_unicode_utf8_acceptRanges), ("unicode.CaseRanges", laid_unicode_CaseRanges), ("unicode/utf8.first", laid_unicode_utf8_first)], narrowed := true }
def FnDisabledListedUptoSaid : Prop := fnDisabledListedUptoRow.holds Tryz.pinned (OpenSpec.upto fnDisabledListedSpec)

/-- 'laws.FnLangListed', WHERE WHAT IT READS IS OF BULK AT MOST 1048576: true; the input reads as it did. -/
def fnLangListedUptoRow : OpenClaim := { program := "ytjlaamcklhdhaaagreatdoor", sum := "6c826e01e097c86637b19fed1bc242619a507edd3b115a8ccd3b6231279deaea", func := "pub-trackway/laws.FnLangListed", spec := "fnLangListed", inPlace := ["internal/abi.NoEscape", "internal/bytealg.MakeNoZero"], unfollowed := true, recurses := true, named := ["unicode/utf8.first", "unicode/utf8.acceptRanges", "unicode.CaseRanges"], apart := false, laid := [("unicode/utf8.acceptRanges", laid_unicode_utf8_acceptRanges), ("unicode.CaseRanges", laid_unicode_CaseRanges), ("unicode/utf8.first", laid_unicode_utf8_first)], narrowed := true }
def FnLangListedUptoSaid : Prop := fnLangListedUptoRow.holds Tryz.pinned (OpenSpec.upto fnLangListedSpec)

/-- 'laws.FnNameExt', WHERE WHAT IT READS IS OF BULK AT MOST 1048576: true; the input reads as it did. -/
def fnNameExtUptoRow : OpenClaim := { program := "ytjlaamcklhdhaaagreatdoor", sum := "6c826e01e097c86637b19fed1bc242619a507edd3b115a8ccd3b6231279deaea", func := "pub-trackway/laws.FnNameExt", spec := "fnNameExt", inPlace := ["internal/abi.NoEscape", "internal/bytealg.MakeNoZero"], unfollowed := true, recurses := true, named := ["unicode/utf8.first", "unicode/utf8.acceptRanges", "unicode.CaseRanges"], apart := false, laid := [("unicode/utf8.acceptRanges", laid_unicode_utf8_acceptRanges), ("unicode.CaseRanges", laid_unicode_CaseRanges), ("unicode/utf8.first", laid_unicode_utf8_first)], narrowed := true }
def FnNameExtUptoSaid : Prop := fnNameExtUptoRow.holds Tryz.pinned (OpenSpec.upto fnNameExtSpec)

/-- 'laws.FnNamesLess', WHERE WHAT IT READS IS OF BULK AT MOST 1048576: true; the input reads as it did. -/
def fnNamesLessUptoRow : OpenClaim := { program := "ytjlaamcklhdhaaagreatdoor", sum := "6c826e01e097c86637b19fed1bc242619a507edd3b115a8ccd3b6231279deaea", func := "pub-trackway/laws.FnNamesLess", spec := "fnNamesLess", inPlace := ["internal/abi.NoEscape", "internal/bytealg.MakeNoZero"], unfollowed := true, recurses := true, named := ["unicode/utf8.first", "unicode/utf8.acceptRanges", "unicode.CaseRanges"], apart := false, laid := [("unicode/utf8.acceptRanges", laid_unicode_utf8_acceptRanges), ("unicode.CaseRanges", laid_unicode_CaseRanges), ("unicode/utf8.first", laid_unicode_utf8_first)], narrowed := true }
def FnNamesLessUptoSaid : Prop := fnNamesLessUptoRow.holds Tryz.pinned (OpenSpec.upto fnNamesLessSpec)

/-- 'laws.FnOthers', WHERE WHAT IT READS IS OF BULK AT MOST 1048576: true; the input reads as it did. -/
def fnOthersUptoRow : OpenClaim := { program := "ytjlaamcklhdhaaagreatdoor", sum := "6c826e01e097c86637b19fed1bc242619a507edd3b115a8ccd3b6231279deaea", func := "pub-trackway/laws.FnOthers", spec := "fnOthers", inPlace := ["internal/abi.NoEscape", "internal/bytealg.MakeNoZero"], unfollowed := true, recurses := true, named := ["unicode/utf8.first", "unicode/utf8.acceptRanges", "unicode.CaseRanges"], apart := false, laid := [("unicode/utf8.acceptRanges", laid_unicode_utf8_acceptRanges), ("unicode.CaseRanges", laid_unicode_CaseRanges), ("unicode/utf8.first", laid_unicode_utf8_first)], narrowed := true }
def FnOthersUptoSaid : Prop := fnOthersUptoRow.holds Tryz.pinned (OpenSpec.upto fnOthersSpec)

/-- 'laws.FnSectionFirst', WHERE WHAT IT READS IS OF BULK AT MOST 1048576: true; the input reads as it did. -/
def fnSectionFirstUptoRow : OpenClaim := { program := "ytjlaamcklhdhaaagreatdoor", sum := "6c826e01e097c86637b19fed1bc242619a507edd3b115a8ccd3b6231279deaea", func := "pub-trackway/laws.FnSectionFirst", spec := "fnSectionFirst", inPlace := ["internal/abi.NoEscape", "internal/bytealg.MakeNoZero"], unfollowed := true, recurses := true, named := ["unicode/utf8.first", "unicode/utf8.acceptRanges", "unicode.CaseRanges"], apart := false, laid := [("unicode/utf8.acceptRanges", laid_unicode_utf8_acceptRanges), ("unicode.CaseRanges", laid_unicode_CaseRanges), ("unicode/utf8.first", laid_unicode_utf8_first)], narrowed := true }
def FnSectionFirstUptoSaid : Prop := fnSectionFirstUptoRow.holds Tryz.pinned (OpenSpec.upto fnSectionFirstSpec)

/-- 'laws.FnSlashAhead', WHERE WHAT IT READS IS OF BULK AT MOST 1048576: true; the input reads as it did. -/
def fnSlashAheadUptoRow : OpenClaim := { program := "ytjlaamcklhdhaaagreatdoor", sum := "6c826e01e097c86637b19fed1bc242619a507edd3b115a8ccd3b6231279deaea", func := "pub-trackway/laws.FnSlashAhead", spec := "fnSlashAhead", inPlace := ["internal/abi.NoEscape", "internal/bytealg.MakeNoZero"], unfollowed := true, recurses := true, named := ["unicode/utf8.first", "unicode/utf8.acceptRanges", "unicode.CaseRanges"], apart := false, laid := [("unicode/utf8.acceptRanges", laid_unicode_utf8_acceptRanges), ("unicode.CaseRanges", laid_unicode_CaseRanges), ("unicode/utf8.first", laid_unicode_utf8_first)], narrowed := true }
def FnSlashAheadUptoSaid : Prop := fnSlashAheadUptoRow.holds Tryz.pinned (OpenSpec.upto fnSlashAheadSpec)

/-- 'laws.FnWordsThere', WHERE WHAT IT READS IS OF BULK AT MOST 1048576: true; the input reads as it did. -/
def fnWordsThereUptoRow : OpenClaim := { program := "ytjlaamcklhdhaaagreatdoor", sum := "6c826e01e097c86637b19fed1bc242619a507edd3b115a8ccd3b6231279deaea", func := "pub-trackway/laws.FnWordsThere", spec := "fnWordsThere", inPlace := ["internal/abi.NoEscape", "internal/bytealg.MakeNoZero"], unfollowed := true, recurses := true, named := ["unicode/utf8.first", "unicode/utf8.acceptRanges", "unicode.CaseRanges"], apart := false, laid := [("unicode/utf8.acceptRanges", laid_unicode_utf8_acceptRanges), ("unicode.CaseRanges", laid_unicode_CaseRanges), ("unicode/utf8.first", laid_unicode_utf8_first)], narrowed := true }
def FnWordsThereUptoSaid : Prop := fnWordsThereUptoRow.holds Tryz.pinned (OpenSpec.upto fnWordsThereSpec)

end Rows
end Go.Proofs.YtjlaamcklhdhaaaGreatDoor
