/-
  The thin package: a bitset is told as Bits (said64).
-/
import Derived.Test.YtpiajkabikbdnaaBsCore
import Derived.Laws.ResultCell
namespace Go.Proofs.Ytpiajkabikbdnaa.bs
open Go.RowKit Go.Proofs.Ytpiajkabikbdnaa.base Go.Proofs.Ytpiajkabikbdnaa.heap Go.Proofs.Ytpiajkabikbdnaa.bit
set_option linter.unusedVariables false

/-- Test, of a bitset that stands for b -/
theorem test (o : O) (b : List Bool) (i : Nat) (w : World) (h : o.ok w) (hr : o.rep b) (hi2 : i < 4611686018427387904) :
    Calls Try.prog 46 #[o.ptr, .int .u64 (i : Int)] w fun e w' => e = .returned (.bool (b.getD i false)) ∧ ∃ m, w' = w.drewN m := by
  have h1 := hr.len
  have h2 := hr.room
  by_cases hi : i < o.n
  · have := test_yes o i w h hi (by omega) hi2
    rwa [hr.bits i] at this
  · have := test_no o i w h (by omega) hi2
    rwa [show b.getD i false = false from by simp [show b.length ≤ i by omega]]

end Go.Proofs.Ytpiajkabikbdnaa.bs
