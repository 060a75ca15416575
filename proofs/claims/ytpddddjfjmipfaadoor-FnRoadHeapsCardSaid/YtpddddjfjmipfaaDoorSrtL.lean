/-
  A list of numbers, sorted.
-/
import Derived.Test.YtpddddjfjmipfaaDoorRw
namespace Go.Proofs.YtpddddjfjmipfaaDoor.rows
set_option linter.unusedVariables false
def srt (l : List Int) : List Int := l.mergeSort fun x y => decide (x ≤ y)
end Go.Proofs.YtpddddjfjmipfaaDoor.rows
