/-
  NARROWER THAN 'FOR EVERY INPUT', by the rows' own cells (each row's printed sentence says how): FnBaseReTyped: laid · FnBaseAndNameSpec: laid · FnUnnormalizedWords: laid · FnForTypeNames: laid · FnForTypeSorts: laid · FnTrimmedNames: laid · FnTrimmedSorts: laid · FnResourceWords: laid.
  DERIVED. THE GIVEN ROWS OF THIS SEAT. 8 by the template 'for every input the law returns true; each argument reads behind the call as it read before'; 0 by the template 'total and deterministic' (their statements: YtlkoeeccebmjmaaGreatDoorTotals.lean).
  GIVEN WITH THE SEED: the statements are not yours to turn. If you find one false, say at which input.
  Laid BY PROGRAM, IN A SANDBOX (cutbox-rows.mjs): the forced cells as the released guide's own fill.sh prints them over the translation 1cb3bb25478f6868… (all of the seat's roots in one cut). By AI agents, Wed Nov 11 2026. No macro, syntax, notation, axiom, sorry.
-/
import Derived.Test.YtlkoeeccebmjmaaGreatDoorChecked
import GoSem.PinnedTables
import GoSem.Claim
import GoSem.ClaimJoined
import GoSem.ClaimMapViews
import Derived.JoinedTies
import Derived.KernelRfl
namespace Go.Proofs.YtlkoeeccebmjmaaGreatDoor
/- THE CELL 'sum', in the pinned program and in every row, IS THE sha256 OF THE DUMP (.gsa) THAT YtlkoeeccebmjmaaGreatDoorProg.lean LOADS. Nothing in Lean hashes anything: it is a label: what it is worth is what the hold of that sum in a sandbox is worth. -/
noncomputable def Tryz.pinned : Pinned := { name := "ytlkoeeccebmjmaagreatdoor", sum := "1cb3bb25478f686803b5f0f9feda89c1acd7f4e5dac4fd405a5ebaeefa33f9c2", checked := Tryz.checked }
namespace Rows
def none {H : Type} : Left H := { results := [], args := [] }

/- WHAT THE LISTED PACKAGE-LEVEL VARIABLES READ AS WHEN THE CALL BEGINS. Each datum BY PROGRAM (the guide's laid-datum.mjs) off the statement by which the dump's own 'gosem.cut.vars' lays the variable. In a bare row this is a premise. The card (YtlkoeeccebmjmaaGreatDoorCards.lean) ties it to the program's text. -/
def laid_unicode_utf8_acceptRanges {H : Type} : DataW H := .agg [.agg [.lit (.int .u8 128), .lit (.int .u8 191)], .agg [.lit (.int .u8 160), .lit (.int .u8 191)], .agg [.lit (.int .u8 128), .lit (.int .u8 159)], .agg [.lit (.int .u8 144), .lit (.int .u8 191)], .agg [.lit (.int .u8 128), .lit (.int .u8 143)], .agg [.lit (.int .u8 0), .lit (.int .u8 0)], .agg [.lit (.int .u8 0), .lit (.int .u8 0)], .agg [.lit (.int .u8 0), .lit (.int .u8 0)], .agg [.lit (.int .u8 0), .lit (.int .u8 0)], .agg [.lit (.int .u8 0), .lit (.int .u8 0)], .agg [.lit (.int .u8 0), .lit (.int .u8 0)], .agg [.lit (.int .u8 0), .lit (.int .u8 0)], .agg [.lit (.int .u8 0), .lit (.int .u8 0)], .agg [.lit (.int .u8 0), .lit (.int .u8 0)], .agg [.lit (.int .u8 0), .lit (.int .u8 0)], .agg [.lit (.int .u8 0), .lit (.int .u8 0)]]
/-- One of Go's own tables, pinned by name: the form's constant. -/
def laid_unicode_CaseRanges : DataW Unit := Go.Pinned.caseRanges
/-- One of Go's own tables, pinned by name: the form's constant. -/
def laid_unicode_utf8_first : DataW Unit := Go.Pinned.utf8First

/-- 'laws.FnBaseReTyped': WHATEVER THE INPUT: true; the input reads as it did. -/
def fnBaseReTypedSpec : ChangeSpec := { name := "fnBaseReTyped", fn := fun _ => fun
  | [d1, d2, d3, d4] => { results := [.lit (.bool true)], args := [d1, d2, d3, d4] }
  | _ => none }
def fnBaseReTypedRow : OpenClaim := { program := "ytlkoeeccebmjmaagreatdoor", sum := "1cb3bb25478f686803b5f0f9feda89c1acd7f4e5dac4fd405a5ebaeefa33f9c2", func := "pub-trackway/laws.FnBaseReTyped", spec := "fnBaseReTyped", inPlace := ["internal/abi.NoEscape", "internal/bytealg.MakeNoZero"], unfollowed := true, recurses := true, named := ["unicode/utf8.first", "unicode/utf8.acceptRanges", "unicode.CaseRanges"], apart := false, laid := [("unicode/utf8.acceptRanges", laid_unicode_utf8_acceptRanges), ("unicode.CaseRanges", laid_unicode_CaseRanges), ("unicode/utf8.first", laid_unicode_utf8_first)] }
def FnBaseReTypedSaid : Prop := fnBaseReTypedRow.holds Tryz.pinned (OpenSpec.ofChange fnBaseReTypedSpec)

/-- ITS FALSE NEIGHBOUR: 'it returns false'. Refute it at one input. -/
def fnBaseReTypedWrong : ChangeSpec := { name := "fnBaseReTyped", fn := fun _ => fun
  | [d1, d2, d3, d4] => { results := [.lit (.bool false)], args := [d1, d2, d3, d4] }
  | _ => none }
def FnBaseReTypedWrongFalsely : Prop := fnBaseReTypedRow.holds Tryz.pinned (OpenSpec.ofChange fnBaseReTypedWrong)

/-- 'laws.FnBaseAndNameSpec': WHATEVER THE INPUT: true; the input reads as it did. -/
def fnBaseAndNameSpecSpec : ChangeSpec := { name := "fnBaseAndNameSpec", fn := fun _ => fun
  | [d1, d2, d3] => { results := [.lit (.bool true)], args := [d1, d2, d3] }
  | _ => none }
def fnBaseAndNameSpecRow : OpenClaim := { program := "ytlkoeeccebmjmaagreatdoor", sum := "1cb3bb25478f686803b5f0f9feda89c1acd7f4e5dac4fd405a5ebaeefa33f9c2", func := "pub-trackway/laws.FnBaseAndNameSpec", spec := "fnBaseAndNameSpec", inPlace := ["internal/abi.NoEscape", "internal/bytealg.MakeNoZero"], unfollowed := true, recurses := true, named := ["unicode/utf8.first", "unicode/utf8.acceptRanges", "unicode.CaseRanges"], apart := false, laid := [("unicode/utf8.acceptRanges", laid_unicode_utf8_acceptRanges), ("unicode.CaseRanges", laid_unicode_CaseRanges), ("unicode/utf8.first", laid_unicode_utf8_first)] }
def FnBaseAndNameSpecSaid : Prop := fnBaseAndNameSpecRow.holds Tryz.pinned (OpenSpec.ofChange fnBaseAndNameSpecSpec)

/-- ITS FALSE NEIGHBOUR: 'it returns false'. Refute it at one input. -/
def fnBaseAndNameSpecWrong : ChangeSpec := { name := "fnBaseAndNameSpec", fn := fun _ => fun
  | [d1, d2, d3] => { results := [.lit (.bool false)], args := [d1, d2, d3] }
  | _ => none }
def FnBaseAndNameSpecWrongFalsely : Prop := fnBaseAndNameSpecRow.holds Tryz.pinned (OpenSpec.ofChange fnBaseAndNameSpecWrong)

/-- 'laws.FnUnnormalizedWords': WHATEVER THE INPUT: true; the input reads as it did. -/
def fnUnnormalizedWordsSpec : ChangeSpec := { name := "fnUnnormalizedWords", fn := fun _ => fun
  | [d1, d2, d3] => { results := [.lit (.bool true)], args := [d1, d2, d3] }
  | _ => none }
def fnUnnormalizedWordsRow : OpenClaim := { program := "ytlkoeeccebmjmaagreatdoor", sum := "1cb3bb25478f686803b5f0f9feda89c1acd7f4e5dac4fd405a5ebaeefa33f9c2", func := "pub-trackway/laws.FnUnnormalizedWords", spec := "fnUnnormalizedWords", inPlace := ["internal/abi.NoEscape", "internal/bytealg.MakeNoZero"], unfollowed := true, recurses := true, named := ["unicode/utf8.first", "unicode/utf8.acceptRanges", "unicode.CaseRanges"], apart := false, laid := [("unicode/utf8.acceptRanges", laid_unicode_utf8_acceptRanges), ("unicode.CaseRanges", laid_unicode_CaseRanges), ("unicode/utf8.first", laid_unicode_utf8_first)] }
def FnUnnormalizedWordsSaid : Prop := fnUnnormalizedWordsRow.holds Tryz.pinned (OpenSpec.ofChange fnUnnormalizedWordsSpec)

/-- ITS FALSE NEIGHBOUR: 'it returns false'. Refute it at one input. -/
def fnUnnormalizedWordsWrong : ChangeSpec := { name := "fnUnnormalizedWords", fn := fun _ => fun
  | [d1, d2, d3] => { results := [.lit (.bool false)], args := [d1, d2, d3] }
  | _ => none }
def FnUnnormalizedWordsWrongFalsely : Prop := fnUnnormalizedWordsRow.holds Tryz.pinned (OpenSpec.ofChange fnUnnormalizedWordsWrong)

/-- 'laws.FnForTypeNames': WHATEVER THE INPUT: true; the input reads as it did. -/
def fnForTypeNamesSpec : ChangeSpec := { name := "fnForTypeNames", fn := fun _ => fun
  | [d1, d2, d3, d4] => { results := [.lit (.bool true)], args := [d1, d2, d3, d4] }
  | _ => none }
def fnForTypeNamesRow : OpenClaim := { program := "ytlkoeeccebmjmaagreatdoor", sum := "1cb3bb25478f686803b5f0f9feda89c1acd7f4e5dac4fd405a5ebaeefa33f9c2", func := "pub-trackway/laws.FnForTypeNames", spec := "fnForTypeNames", inPlace := ["internal/abi.NoEscape", "internal/bytealg.MakeNoZero"], unfollowed := true, recurses := true, named := ["unicode/utf8.first", "unicode/utf8.acceptRanges", "unicode.CaseRanges"], apart := false, laid := [("unicode/utf8.acceptRanges", laid_unicode_utf8_acceptRanges), ("unicode.CaseRanges", laid_unicode_CaseRanges), ("unicode/utf8.first", laid_unicode_utf8_first)] }
def FnForTypeNamesSaid : Prop := fnForTypeNamesRow.holds Tryz.pinned (OpenSpec.ofChange fnForTypeNamesSpec)

/-- ITS FALSE NEIGHBOUR: 'it returns false'. Refute it at one input. -/
def fnForTypeNamesWrong : ChangeSpec := { name := "fnForTypeNames", fn := fun _ => fun
  | [d1, d2, d3, d4] => { results := [.lit (.bool false)], args := [d1, d2, d3, d4] }
  | _ => none }
def FnForTypeNamesWrongFalsely : Prop := fnForTypeNamesRow.holds Tryz.pinned (OpenSpec.ofChange fnForTypeNamesWrong)

/-- 'laws.FnForTypeSorts': WHATEVER THE INPUT: true; the input reads as it did. -/
def fnForTypeSortsSpec : ChangeSpec := { name := "fnForTypeSorts", fn := fun _ => fun
  | [d1, d2, d3, d4] => { results := [.lit (.bool true)], args := [d1, d2, d3, d4] }
  | _ => none }
def fnForTypeSortsRow : OpenClaim := { program := "ytlkoeeccebmjmaagreatdoor", sum := "1cb3bb25478f686803b5f0f9feda89c1acd7f4e5dac4fd405a5ebaeefa33f9c2", func := "pub-trackway/laws.FnForTypeSorts", spec := "fnForTypeSorts", inPlace := ["internal/abi.NoEscape", "internal/bytealg.MakeNoZero"], unfollowed := true, recurses := true, named := ["unicode/utf8.first", "unicode/utf8.acceptRanges", "unicode.CaseRanges"], apart := false, laid := [("unicode/utf8.acceptRanges", laid_unicode_utf8_acceptRanges), ("unicode.CaseRanges", laid_unicode_CaseRanges), ("unicode/utf8.first", laid_unicode_utf8_first)] }
def FnForTypeSortsSaid : Prop := fnForTypeSortsRow.holds Tryz.pinned (OpenSpec.ofChange fnForTypeSortsSpec)

/-- ITS FALSE NEIGHBOUR: 'it returns false'. Refute it at one input. -/
def fnForTypeSortsWrong : ChangeSpec := { name := "fnForTypeSorts", fn := fun _ => fun
  | [d1, d2, d3, d4] => { results := [.lit (.bool false)], args := [d1, d2, d3, d4] }
  | _ => none }
def FnForTypeSortsWrongFalsely : Prop := fnForTypeSortsRow.holds Tryz.pinned (OpenSpec.ofChange fnForTypeSortsWrong)

/-- 'laws.FnTrimmedNames': WHATEVER THE INPUT: true; the input reads as it did. -/
def fnTrimmedNamesSpec : ChangeSpec := { name := "fnTrimmedNames", fn := fun _ => fun
  | [d1, d2, d3] => { results := [.lit (.bool true)], args := [d1, d2, d3] }
  | _ => none }
def fnTrimmedNamesRow : OpenClaim := { program := "ytlkoeeccebmjmaagreatdoor", sum := "1cb3bb25478f686803b5f0f9feda89c1acd7f4e5dac4fd405a5ebaeefa33f9c2", func := "pub-trackway/laws.FnTrimmedNames", spec := "fnTrimmedNames", inPlace := ["internal/abi.NoEscape", "internal/bytealg.MakeNoZero"], unfollowed := true, recurses := true, named := ["unicode/utf8.first", "unicode/utf8.acceptRanges", "unicode.CaseRanges"], apart := false, laid := [("unicode/utf8.acceptRanges", laid_unicode_utf8_acceptRanges), ("unicode.CaseRanges", laid_unicode_CaseRanges), ("unicode/utf8.first", laid_unicode_utf8_first)] }
def FnTrimmedNamesSaid : Prop := fnTrimmedNamesRow.holds Tryz.pinned (OpenSpec.ofChange fnTrimmedNamesSpec)

/-- ITS FALSE NEIGHBOUR: 'it returns false'. Refute it at one input. -/
def fnTrimmedNamesWrong : ChangeSpec := { name := "fnTrimmedNames", fn := fun _ => fun
  | [d1, d2, d3] => { results := [.lit (.bool false)], args := [d1, d2, d3] }
  | _ => none }
def FnTrimmedNamesWrongFalsely : Prop := fnTrimmedNamesRow.holds Tryz.pinned (OpenSpec.ofChange fnTrimmedNamesWrong)

/-- 'laws.FnTrimmedSorts': WHATEVER THE INPUT: true; the input reads as it did. -/
def fnTrimmedSortsSpec : ChangeSpec := { name := "fnTrimmedSorts", fn := fun _ => fun
  | [d1, d2, d3] => { results := [.lit (.bool true)], args := [d1, d2, d3] }
  | _ => none }
def fnTrimmedSortsRow : OpenClaim := { program := "ytlkoeeccebmjmaagreatdoor", sum := "1cb3bb25478f686803b5f0f9feda89c1acd7f4e5dac4fd405a5ebaeefa33f9c2", func := "pub-trackway/laws.FnTrimmedSorts", spec := "fnTrimmedSorts", inPlace := ["internal/abi.NoEscape", "internal/bytealg.MakeNoZero"], unfollowed := true, recurses := true, named := ["unicode/utf8.first", "unicode/utf8.acceptRanges", "unicode.CaseRanges"], apart := false, laid := [("unicode/utf8.acceptRanges", laid_unicode_utf8_acceptRanges), ("unicode.CaseRanges", laid_unicode_CaseRanges), ("unicode/utf8.first", laid_unicode_utf8_first)] }
def FnTrimmedSortsSaid : Prop := fnTrimmedSortsRow.holds Tryz.pinned (OpenSpec.ofChange fnTrimmedSortsSpec)

/-- ITS FALSE NEIGHBOUR: 'it returns false'. Refute it at one input. -/
def fnTrimmedSortsWrong : ChangeSpec := { name := "fnTrimmedSorts", fn := fun _ => fun
  | [d1, d2, d3] => { results := [.lit (.bool false)], args := [d1, d2, d3] }
  | _ => none }
def FnTrimmedSortsWrongFalsely : Prop := fnTrimmedSortsRow.holds Tryz.pinned (OpenSpec.ofChange fnTrimmedSortsWrong)

/-- 'laws.FnResourceWords': WHATEVER THE INPUT: true; the input reads as it did. -/
def fnResourceWordsSpec : ChangeSpec := { name := "fnResourceWords", fn := fun _ => fun
  | [d1, d2, d3] => { results := [.lit (.bool true)], args := [d1, d2, d3] }
  | _ => none }
def fnResourceWordsRow : OpenClaim := { program := "ytlkoeeccebmjmaagreatdoor", sum := "1cb3bb25478f686803b5f0f9feda89c1acd7f4e5dac4fd405a5ebaeefa33f9c2", func := "pub-trackway/laws.FnResourceWords", spec := "fnResourceWords", inPlace := ["internal/abi.NoEscape", "internal/bytealg.MakeNoZero"], unfollowed := true, recurses := true, named := ["unicode/utf8.first", "unicode/utf8.acceptRanges", "unicode.CaseRanges"], apart := false, laid := [("unicode/utf8.acceptRanges", laid_unicode_utf8_acceptRanges), ("unicode.CaseRanges", laid_unicode_CaseRanges), ("unicode/utf8.first", laid_unicode_utf8_first)] }
def FnResourceWordsSaid : Prop := fnResourceWordsRow.holds Tryz.pinned (OpenSpec.ofChange fnResourceWordsSpec)

/-- ITS FALSE NEIGHBOUR: 'it returns false'. Refute it at one input. -/
def fnResourceWordsWrong : ChangeSpec := { name := "fnResourceWords", fn := fun _ => fun
  | [d1, d2, d3] => { results := [.lit (.bool false)], args := [d1, d2, d3] }
  | _ => none }
def FnResourceWordsWrongFalsely : Prop := fnResourceWordsRow.holds Tryz.pinned (OpenSpec.ofChange fnResourceWordsWrong)

/- THE SECOND FORM. 'bulk': how many values and letters a reading holds, each counted each time it is reached (what is shared counts as often as it is met; a slice's spare places count too). A statement '..UptoSaid' is the law's where the arguments, and the package variables that the reading takes, are together of bulk at most 1048576: NARROWER than '..Said'. Prove '..Said' where nothing that the law and all that it calls make is longer than what came in: it says more and counts as full. Else prove '..UptoSaid'. A law counts once. -/
mutual
def uptoBulk {H : Type} : DataW H → Nat
  | .lit (.string bytes) => bytes.length + 1
  | .lit _ => 1
  | .nil => 1
  | .ptr d => uptoBulk d + 1
  | .slice elems spare => uptoBulkAll elems + uptoBulkAll spare + 1
  | .agg parts => uptoBulkAll parts + 1
  | .iface _ d => uptoBulk d + 1
  | .map entries => uptoBulkEntries entries + 1
  | .held _ => 1
def uptoBulkAll {H : Type} : List (DataW H) → Nat
  | [] => 0
  | d :: r => uptoBulk d + uptoBulkAll r
def uptoBulkEntries {H : Type} : List (Lit × DataW H) → Nat
  | [] => 0
  | x :: r => uptoBulkEntry x + uptoBulkEntries r
def uptoBulkEntry {H : Type} : Lit × DataW H → Nat
  | (.string bytes, d) => bytes.length + uptoBulk d + 1
  | (_, d) => uptoBulk d + 1
 end
def uptoSmall : (H : Type) → List (DataW H) → Bool := fun _ ds => decide (uptoBulkAll ds ≤ 1048576)
def OpenSpec.upto (s : _root_.Go.ChangeSpec) : _root_.Go.OpenSpec := { _root_.Go.OpenSpec.ofChange s with cond := some uptoSmall }

/-- 'laws.FnBaseReTyped', WHERE WHAT IT READS IS OF BULK AT MOST 1048576: true; the input reads as it did. -/
def fnBaseReTypedUptoRow : OpenClaim := { program := "ytlkoeeccebmjmaagreatdoor", sum := "1cb3bb25478f686803b5f0f9feda89c1acd7f4e5dac4fd405a5ebaeefa33f9c2", func := "pub-trackway/laws.FnBaseReTyped", spec := "fnBaseReTyped", inPlace := ["internal/abi.NoEscape", "internal/bytealg.MakeNoZero"], unfollowed := true, recurses := true, named := ["unicode/utf8.first", "unicode/utf8.acceptRanges", "unicode.CaseRanges"], apart := false, laid := [("unicode/utf8.acceptRanges", laid_unicode_utf8_acceptRanges), ("unicode.CaseRanges", laid_unicode_CaseRanges), ("unicode/utf8.first", laid_unicode_utf8_first)], narrowed := true }
def FnBaseReTypedUptoSaid : Prop := fnBaseReTypedUptoRow.holds Tryz.pinned (OpenSpec.upto fnBaseReTypedSpec)

/-- 'laws.FnBaseAndNameSpec', WHERE WHAT IT READS IS OF BULK AT MOST 1048576: true; the input reads as it did. -/
def fnBaseAndNameSpecUptoRow : OpenClaim := { program := "ytlkoeeccebmjmaagreatdoor", sum := "1cb3bb25478f686803b5f0f9feda89c1acd7f4e5dac4fd405a5ebaeefa33f9c2", func := "pub-trackway/laws.FnBaseAndNameSpec", spec := "fnBaseAndNameSpec", inPlace := ["internal/abi.NoEscape", "internal/bytealg.MakeNoZero"], unfollowed := true, recurses := true, named := ["unicode/utf8.first", "unicode/utf8.acceptRanges", "unicode.CaseRanges"], apart := false, laid := [("unicode/utf8.acceptRanges", laid_unicode_utf8_acceptRanges), ("unicode.CaseRanges", laid_unicode_CaseRanges), ("unicode/utf8.first", laid_unicode_utf8_first)], narrowed := true }
def FnBaseAndNameSpecUptoSaid : Prop := fnBaseAndNameSpecUptoRow.holds Tryz.pinned (OpenSpec.upto fnBaseAndNameSpecSpec)

/-- 'laws.FnUnnormalizedWords', WHERE WHAT IT READS IS OF BULK AT MOST 1048576: true; the input reads as it did. -/
def fnUnnormalizedWordsUptoRow : OpenClaim := { program := "ytlkoeeccebmjmaagreatdoor", sum := "1cb3bb25478f686803b5f0f9feda89c1acd7f4e5dac4fd405a5ebaeefa33f9c2", func := "pub-trackway/laws.FnUnnormalizedWords", spec := "fnUnnormalizedWords", inPlace := ["internal/abi.NoEscape", "internal/bytealg.MakeNoZero"], unfollowed := true, recurses := true, named := ["unicode/utf8.first", "unicode/utf8.acceptRanges", "unicode.CaseRanges"], apart := false, laid := [("unicode/utf8.acceptRanges", laid_unicode_utf8_acceptRanges), ("unicode.CaseRanges", laid_unicode_CaseRanges), ("unicode/utf8.first", laid_unicode_utf8_first)], narrowed := true }
def FnUnnormalizedWordsUptoSaid : Prop := fnUnnormalizedWordsUptoRow.holds Tryz.pinned (OpenSpec.upto fnUnnormalizedWordsSpec)

/-- 'laws.FnForTypeNames', WHERE WHAT IT READS IS OF BULK AT MOST 1048576: true; the input reads as it did. -/
def fnForTypeNamesUptoRow : OpenClaim := { program := "ytlkoeeccebmjmaagreatdoor", sum := "1cb3bb25478f686803b5f0f9feda89c1acd7f4e5dac4fd405a5ebaeefa33f9c2", func := "pub-trackway/laws.FnForTypeNames", spec := "fnForTypeNames", inPlace := ["internal/abi.NoEscape", "internal/bytealg.MakeNoZero"], unfollowed := true, recurses := true, named := ["unicode/utf8.first", "unicode/utf8.acceptRanges", "unicode.CaseRanges"], apart := false, laid := [("unicode/utf8.acceptRanges", laid_unicode_utf8_acceptRanges), ("unicode.CaseRanges", laid_unicode_CaseRanges), ("unicode/utf8.first", laid_unicode_utf8_first)], narrowed := true }
def FnForTypeNamesUptoSaid : Prop := fnForTypeNamesUptoRow.holds Tryz.pinned (OpenSpec.upto fnForTypeNamesSpec)

/-- 'laws.FnForTypeSorts', WHERE WHAT IT READS IS OF BULK AT MOST 1048576: true; the input reads as it did. -/
def fnForTypeSortsUptoRow : OpenClaim := { program := "ytlkoeeccebmjmaagreatdoor", sum := "1cb3bb25478f686803b5f0f9feda89c1acd7f4e5dac4fd405a5ebaeefa33f9c2", func := "pub-trackway/laws.FnForTypeSorts", spec := "fnForTypeSorts", inPlace := ["internal/abi.NoEscape", "internal/bytealg.MakeNoZero"], unfollowed := true, recurses := true, named := ["unicode/utf8.first", "unicode/utf8.acceptRanges", "unicode.CaseRanges"], apart := false, laid := [("unicode/utf8.acceptRanges", laid_unicode_utf8_acceptRanges), ("unicode.CaseRanges", laid_unicode_CaseRanges), ("unicode/utf8.first", laid_unicode_utf8_first)], narrowed := true }
def FnForTypeSortsUptoSaid : Prop := fnForTypeSortsUptoRow.holds Tryz.pinned (OpenSpec.upto fnForTypeSortsSpec)

/-- 'laws.FnTrimmedNames', WHERE WHAT IT READS IS OF BULK AT MOST 1048576: true; the input reads as it did. -/
def fnTrimmedNamesUptoRow : OpenClaim := { program := "ytlkoeeccebmjmaagreatdoor", sum := "1cb3bb25478f686803b5f0f9feda89c1acd7f4e5dac4fd405a5ebaeefa33f9c2", func := "pub-trackway/laws.FnTrimmedNames", spec := "fnTrimmedNames", inPlace := ["internal/abi.NoEscape", "internal/bytealg.MakeNoZero"], unfollowed := true, recurses := true, named := ["unicode/utf8.first", "unicode/utf8.acceptRanges", "unicode.CaseRanges"], apart := false, laid := [("unicode/utf8.acceptRanges", laid_unicode_utf8_acceptRanges), ("unicode.CaseRanges", laid_unicode_CaseRanges), ("unicode/utf8.first", laid_unicode_utf8_first)], narrowed := true }
def FnTrimmedNamesUptoSaid : Prop := fnTrimmedNamesUptoRow.holds Tryz.pinned (OpenSpec.upto fnTrimmedNamesSpec)

/-- 'laws.FnTrimmedSorts', WHERE WHAT IT READS IS OF BULK AT MOST 1048576: true; the input reads as it did. -/
def fnTrimmedSortsUptoRow : OpenClaim := { program := "ytlkoeeccebmjmaagreatdoor", sum := "1cb3bb25478f686803b5f0f9feda89c1acd7f4e5dac4fd405a5ebaeefa33f9c2", func := "pub-trackway/laws.FnTrimmedSorts", spec := "fnTrimmedSorts", inPlace := ["internal/abi.NoEscape", "internal/bytealg.MakeNoZero"], unfollowed := true, recurses := true, named := ["unicode/utf8.first", "unicode/utf8.acceptRanges", "unicode.CaseRanges"], apart := false, laid := [("unicode/utf8.acceptRanges", laid_unicode_utf8_acceptRanges), ("unicode.CaseRanges", laid_unicode_CaseRanges), ("unicode/utf8.first", laid_unicode_utf8_first)], narrowed := true }
def FnTrimmedSortsUptoSaid : Prop := fnTrimmedSortsUptoRow.holds Tryz.pinned (OpenSpec.upto fnTrimmedSortsSpec)

/-- 'laws.FnResourceWords', WHERE WHAT IT READS IS OF BULK AT MOST 1048576: true; the input reads as it did. -/
def fnResourceWordsUptoRow : OpenClaim := { program := "ytlkoeeccebmjmaagreatdoor", sum := "1cb3bb25478f686803b5f0f9feda89c1acd7f4e5dac4fd405a5ebaeefa33f9c2", func := "pub-trackway/laws.FnResourceWords", spec := "fnResourceWords", inPlace := ["internal/abi.NoEscape", "internal/bytealg.MakeNoZero"], unfollowed := true, recurses := true, named := ["unicode/utf8.first", "unicode/utf8.acceptRanges", "unicode.CaseRanges"], apart := false, laid := [("unicode/utf8.acceptRanges", laid_unicode_utf8_acceptRanges), ("unicode.CaseRanges", laid_unicode_CaseRanges), ("unicode/utf8.first", laid_unicode_utf8_first)], narrowed := true }
def FnResourceWordsUptoSaid : Prop := fnResourceWordsUptoRow.holds Tryz.pinned (OpenSpec.upto fnResourceWordsSpec)

end Rows
end Go.Proofs.YtlkoeeccebmjmaaGreatDoor
