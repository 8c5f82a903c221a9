/- What every row of this seat wants beside its walk: the three listed tables of Go's library lie in the witness's world. -/
import Derived.Test.YtlmhngnbmoahdaaDoorCards
import Derived.Test.YtlmhngnbmoahdaaDoorTie
import Derived.ProofKit
import Derived.OpenShut
import Derived.LaidMore
import Derived.Lay
import Derived.SevenTiedAt
import Derived.Stop.Joined
import Derived.ShutString
import Derived.Below
namespace Go.Proofs.YtlmhngnbmoahdaaDoor.RowKit
open Go.ChangeShapes Go.WideShapes Go.ChangeAt Go.RowKit
theorem own : ownKnob Tryd.prog.godebug = none := by kernel_rfl
def laidList : List (String × DataW Unit) := [("unicode/utf8.acceptRanges", Rows.laid_unicode_utf8_acceptRanges), ("unicode.CaseRanges", Rows.laid_unicode_CaseRanges), ("unicode/utf8.first", Rows.laid_unicode_utf8_first)]
set_option maxRecDepth 100000 in
theorem shaped (os : Os) : (World.laidAll Tryd.prog os laidList).Shaped Tryd.prog := World.shaped_of_ZipB (by kernel_rfl) (by kernel_rfl)
end Go.Proofs.YtlmhngnbmoahdaaDoor.RowKit
