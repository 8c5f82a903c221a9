-- PRINTED by print.py (a twelfth state) out of the translation. Not trusted: Lean checks it.
import Derived.Test.YtlmhngnbmoahdaaPCorex0
import Derived.Test.YtlmhngnbmoahdaaPCorex1
namespace Go.Proofs.Ytlmhngnbmoahdaa.PCore
open Go.RowKit Go.Proofs.YtlmhngnbmoahdaaW.PrintWords Go.Proofs.YtlmhngnbmoahdaaW.PrintLast Go.Proofs.YtlmhngnbmoahdaaW.PrintMore
attribute [local go_sem] max2_int min2_int max_two min_two max_three min_three max_four min_four   -- for this text's walks alone
set_option linter.unusedVariables false
set_option linter.unusedSimpArgs false

end Go.Proofs.Ytlmhngnbmoahdaa.PCore
