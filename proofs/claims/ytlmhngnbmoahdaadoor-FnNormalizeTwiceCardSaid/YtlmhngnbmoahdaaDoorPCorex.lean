-- PRINTED by print.py (a twelfth state) out of the translation. Not trusted: Lean checks it.
import Derived.Test.YtlmhngnbmoahdaaDoorPCorex0
import Derived.Test.YtlmhngnbmoahdaaDoorPCorex1
namespace Go.Proofs.YtlmhngnbmoahdaaDoor.PCore
open Go.RowKit Go.Proofs.YtlmhngnbmoahdaaDoorW.PrintWords Go.Proofs.YtlmhngnbmoahdaaDoorW.PrintLast Go.Proofs.YtlmhngnbmoahdaaDoorW.PrintMore
attribute [local go_sem] max2_int min2_int max_two min_two max_three min_three max_four min_four   -- for this text's walks alone
set_option linter.unusedVariables false
set_option linter.unusedSimpArgs false

end Go.Proofs.YtlmhngnbmoahdaaDoor.PCore
