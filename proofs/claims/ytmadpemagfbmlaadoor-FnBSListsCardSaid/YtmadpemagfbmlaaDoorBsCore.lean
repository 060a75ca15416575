/-
  Bitsets: the contracts of the small functions, Test, Len.
-/
import Derived.Test.YtmadpemagfbmlaaDoorBsBase
namespace Go.Proofs.YtmadpemagfbmlaaDoor.bs
open Go.RowKit Go.Proofs.YtmadpemagfbmlaaDoor.base Go.Proofs.YtmadpemagfbmlaaDoor.heap Go.Proofs.YtmadpemagfbmlaaDoor.bit
set_option linter.unusedVariables false

set_option maxHeartbeats 400000 in
theorem wordsIndex (i : Nat) (hi : i < 4611686018427387904) (w : World) : Calls Tryd.prog 18 #[.int .u64 (i : Int)] w fun e w' => e = .returned (.int .u64 ((i % 64 : Nat) : Int)) ∧ w' = w := by
  have h := Lib.hid (mask63 (i := i) (by unfold Lt64; omega))
  go_enter Tryd.func18, Tryd.ntmps18
  go_wp2
  go_ret
  exact ⟨by rw [← h.out]; rfl, rfl⟩

set_option maxHeartbeats 400000 in
theorem wordsNeeded (i : Nat) (hi : i < 4611686018427387904) (w : World) : Calls Tryd.prog 22 #[.int .u64 (i : Int)] w fun e w' => e = .returned (.int .i64 (((i + 63) / 64 : Nat) : Int)) ∧ w' = w := by
  go_enter Tryd.func22, Tryd.ntmps22
  go_wp2
  go_ret
  exact ⟨ret_int (by first | rfl | (push_cast; omega)), rfl⟩

end Go.Proofs.YtmadpemagfbmlaaDoor.bs
