-- PRINTED by print.py (a twelfth state) out of the translation. Not trusted: Lean checks it.
import Derived.Test.YtlmhngnbmoahdaaProg
import Derived.Below
import Derived.Deep.Draws
import Derived.Deep.AppendLies
import Derived.Maps.AppendAt
import Derived.OwnWalk
import Derived.Laws.BytesArg
import Derived.Laws.MakeOwn
import Derived.Laws.OwnMore
import Derived.Deep.OwnRows
import Derived.Tactics
import Derived.Lib.ConvBytes
import Derived.Laws.Slices
import Derived.WalkKit
import Derived.KernelRfl
import Derived.RowKit3
import Derived.Deep.LoopGhost
import Derived.Deep.QuietTactic
import Derived.BigQuiet
import Derived.WideLaws
import Derived.Deep.DeepCutAuto
import Derived.Deep.CutBlock
import Derived.Deep.RegionHeld3
import Derived.Laws.Rows
import Derived.Lib.AppendStr
import Derived.ArgAppend
import Derived.Laws.IdiomCopy
import Derived.OrdersHeld
import Derived.Laws.BitsLemmas
import Derived.RowKit
import Derived.Test.YtlmhngnbmoahdaaWWords
import Derived.Test.YtlmhngnbmoahdaaWLast
import Derived.Test.YtlmhngnbmoahdaaWTab
import Derived.Test.YtlmhngnbmoahdaaWFour
import Derived.Test.YtlmhngnbmoahdaaWQPut
import Derived.Test.YtlmhngnbmoahdaaWApart
import Derived.Test.YtlmhngnbmoahdaaWArr
import Derived.Test.YtlmhngnbmoahdaaWZeros
import Derived.Test.YtlmhngnbmoahdaaWFoot
import Derived.Test.YtlmhngnbmoahdaaWKept
import Derived.Test.YtlmhngnbmoahdaaWShare
import Derived.Test.YtlmhngnbmoahdaaWN
import Derived.Test.YtlmhngnbmoahdaaWFootNe
import Derived.Test.YtlmhngnbmoahdaaWAt
import Derived.Test.YtlmhngnbmoahdaaWEqStruct
import Derived.Test.YtlmhngnbmoahdaaWRepsOne
import Derived.Test.YtlmhngnbmoahdaaWInv
import Derived.Test.YtlmhngnbmoahdaaWInvWords
import Derived.Test.YtlmhngnbmoahdaaWGuard
import Derived.Test.YtlmhngnbmoahdaaWNEv
import Derived.Test.YtlmhngnbmoahdaaWMore
namespace Go.Proofs.Ytlmhngnbmoahdaa.PCore
open Go.RowKit Go.Proofs.YtlmhngnbmoahdaaW.PrintWords Go.Proofs.YtlmhngnbmoahdaaW.PrintLast Go.Proofs.YtlmhngnbmoahdaaW.PrintMore
attribute [local go_sem] max2_int min2_int max_two min_two max_three min_three max_four min_four   -- for this text's walks alone
set_option linter.unusedVariables false
set_option linter.unusedSimpArgs false



def errW : Option Int → Value
  | none => .nilIface
  | some c => .iface 0 (.int .i64 c)
theorem errW_none : errW none = .nilIface := rfl
theorem errW_some (c : Int) : errW (some c) = .iface 0 (.int .i64 c) := rfl

-- the values' own types

end Go.Proofs.Ytlmhngnbmoahdaa.PCore
