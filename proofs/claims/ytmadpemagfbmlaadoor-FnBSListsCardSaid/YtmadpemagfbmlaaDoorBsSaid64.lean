/-
  The thin package: a bitset is told as Bits (said64).
-/
import Derived.Test.YtmadpemagfbmlaaDoorBsCore
import Derived.Laws.ResultCell
namespace Go.Proofs.YtmadpemagfbmlaaDoor.bs
open Go.RowKit Go.Proofs.YtmadpemagfbmlaaDoor.base Go.Proofs.YtmadpemagfbmlaaDoor.heap Go.Proofs.YtmadpemagfbmlaaDoor.bit
set_option linter.unusedVariables false

/-- the Bits that are being made -/
structure Making (w : World) (ob n k : Nat) (b : List Bool) (wr : World) : Prop where
  only : Only (fun _ => False) w wr
  ex : ∃ a cap, wr.heap[ob]? = some (.cells #[.int .u64 (n : Int), .slice a (onesTo b k).length cap] 25 (0, 0)) ∧ Own 22 1 wr a (onesTo b k).length cap (U (onesTo b k)) ∧ (∀ j, At a j → ob < j)

end Go.Proofs.YtmadpemagfbmlaaDoor.bs
