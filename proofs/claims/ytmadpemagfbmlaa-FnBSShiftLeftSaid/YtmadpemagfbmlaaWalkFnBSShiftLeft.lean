/-
  FnBSShiftLeft: the law's walk.
-/
import Derived.Test.YtmadpemagfbmlaaBsShlZ
namespace Go.Proofs.Ytmadpemagfbmlaa.walkFnBSShiftLeft
open Go.RowKit Go.Proofs.Ytmadpemagfbmlaa.base Go.Proofs.Ytmadpemagfbmlaa.heap Go.Proofs.Ytmadpemagfbmlaa.bit Go.Proofs.Ytmadpemagfbmlaa.bs
theorem walk (W : World) (v0 v1 : Value) (r0 : Reads Try.prog W 25 v0) (r1 : Reads Try.prog W 26 v1) :
    Calls Try.prog 3 #[v0, v1] W fun e w' => e = .returned (.bool true) ∧ Below W.heap.size W w' := walkShiftLeft shifts W v0 v1 r0 r1
end Go.Proofs.Ytmadpemagfbmlaa.walkFnBSShiftLeft
