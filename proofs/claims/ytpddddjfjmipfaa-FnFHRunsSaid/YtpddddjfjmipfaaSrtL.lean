/-
  A list of numbers, sorted.
-/
import Derived.Test.YtpddddjfjmipfaaRw
namespace Go.Proofs.Ytpddddjfjmipfaa.rows
set_option linter.unusedVariables false
def srt (l : List Int) : List Int := l.mergeSort fun x y => decide (x ≤ y)
end Go.Proofs.Ytpddddjfjmipfaa.rows
