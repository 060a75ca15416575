/-
  Bitsets: PreviousSet, PreviousClear.
-/
import Derived.Test.YtmadpemagfbmlaaBsOps3
import Derived.Test.YtmadpemagfbmlaaBsShrink
import Derived.Test.YtmadpemagfbmlaaBsLast
import Derived.Test.YtmadpemagfbmlaaShelf
namespace Go.Proofs.Ytmadpemagfbmlaa.bs
open Go.RowKit Go.Proofs.Ytmadpemagfbmlaa.base Go.Proofs.Ytmadpemagfbmlaa.heap Go.Proofs.Ytmadpemagfbmlaa.bit
set_option linter.unusedVariables false

/-- Len64 of a word that is not 0 -/
theorem len64 (x : Nat) (hx : Lt64 x) (h0 : ¬ x = 0) (w : World) : Calls Try.prog 60 #[.int .u64 (x : Int)] w fun e w' => ∃ l : Nat, 1 ≤ l ∧ l ≤ 64 ∧ Hid (l = Lib.bitLen x) ∧ e = .returned (.int .i64 (l : Int)) ∧ w' = w := by
  have hx' := hx
  unfold Lt64 at hx'
  refine (Go.Proofs.Try.bits_Len64 (x : Int) w (by omega) (by omega)).mono fun e w' ⟨he, hw⟩ => ⟨Lib.bitLen x, ?_, ?_, Lib.hid rfl, by rw [he, Int.toNat_natCast], hw⟩
  · unfold Lib.bitLen
    have := (Lib.bitLenAux_bounds 64 x hx h0).1
    exact this
  · have := Lib.bitLen_le x 64 (by omega) (by omega)
    exact this

theorem word_last {ws : List Nat} {j t : Nat} (ht : t ≤ 64) : lastTo (bit ws) (64 * j + t) = if ws.getD j 0 % 2 ^ t = 0 then lastTo (bit ws) (64 * j) else some (64 * j + Lib.bitLen (ws.getD j 0 % 2 ^ t) - 1) :=
  lastTo_word (ws.getD j 0) j (fun q hq => by unfold bit; rw [show (64 * j + q) / 64 = j by omega, show (64 * j + q) % 64 = q by omega]) t ht

theorem at_place {j l : Nat} (h1 : 1 ≤ l) (h2 : l ≤ 64) (hj : j < 1048576) : ((64 * j + l - 1 : Nat) : Int) = (j : Int) * 64 + l - 1 := by omega

end Go.Proofs.Ytmadpemagfbmlaa.bs
