-- PRINTED by print.py (a twelfth state) out of the translation. Not trusted: Lean checks it.
import Derived.Test.YtlmhngnbmoahdaaDoorProg
import Derived.Below
import Derived.Deep.Draws
import Derived.Deep.AppendLies
import Derived.Maps.AppendAt
import Derived.OwnWalk
import Derived.Laws.BytesArg
import Derived.Laws.MakeOwn
import Derived.Laws.OwnMore
import Derived.Deep.OwnRows
import Derived.Tactics
import Derived.Lib.ConvBytes
import Derived.Laws.Slices
import Derived.WalkKit
import Derived.KernelRfl
import Derived.RowKit3
import Derived.Deep.LoopGhost
import Derived.Deep.QuietTactic
import Derived.BigQuiet
import Derived.WideLaws
import Derived.Deep.DeepCutAuto
import Derived.Deep.CutBlock
import Derived.Deep.RegionHeld3
import Derived.Laws.Rows
import Derived.Lib.AppendStr
import Derived.ArgAppend
import Derived.Laws.IdiomCopy
import Derived.OrdersHeld
import Derived.Laws.BitsLemmas
import Derived.RowKit
import Derived.Test.YtlmhngnbmoahdaaDoorWWords
import Derived.Test.YtlmhngnbmoahdaaDoorWLast
import Derived.Test.YtlmhngnbmoahdaaDoorWTab
import Derived.Test.YtlmhngnbmoahdaaDoorWFour
import Derived.Test.YtlmhngnbmoahdaaDoorWQPut
import Derived.Test.YtlmhngnbmoahdaaDoorWApart
import Derived.Test.YtlmhngnbmoahdaaDoorWArr
import Derived.Test.YtlmhngnbmoahdaaDoorWZeros
import Derived.Test.YtlmhngnbmoahdaaDoorWFoot
import Derived.Test.YtlmhngnbmoahdaaDoorWKept
import Derived.Test.YtlmhngnbmoahdaaDoorWShare
import Derived.Test.YtlmhngnbmoahdaaDoorWN
import Derived.Test.YtlmhngnbmoahdaaDoorWFootNe
import Derived.Test.YtlmhngnbmoahdaaDoorWAt
import Derived.Test.YtlmhngnbmoahdaaDoorWEqStruct
import Derived.Test.YtlmhngnbmoahdaaDoorWRepsOne
import Derived.Test.YtlmhngnbmoahdaaDoorWInv
import Derived.Test.YtlmhngnbmoahdaaDoorWInvWords
import Derived.Test.YtlmhngnbmoahdaaDoorWGuard
import Derived.Test.YtlmhngnbmoahdaaDoorWNEv
import Derived.Test.YtlmhngnbmoahdaaDoorWMore
namespace Go.Proofs.YtlmhngnbmoahdaaDoor.PCore
open Go.RowKit Go.Proofs.YtlmhngnbmoahdaaDoorW.PrintWords Go.Proofs.YtlmhngnbmoahdaaDoorW.PrintLast Go.Proofs.YtlmhngnbmoahdaaDoorW.PrintMore
attribute [local go_sem] max2_int min2_int max_two min_two max_three min_three max_four min_four   -- for this text's walks alone
set_option linter.unusedVariables false
set_option linter.unusedSimpArgs false



def errW : Option Int → Value
  | none => .nilIface
  | some c => .iface 0 (.int .i64 c)
theorem errW_none : errW none = .nilIface := rfl
theorem errW_some (c : Int) : errW (some c) = .iface 0 (.int .i64 c) := rfl

-- the values' own types

end Go.Proofs.YtlmhngnbmoahdaaDoor.PCore
