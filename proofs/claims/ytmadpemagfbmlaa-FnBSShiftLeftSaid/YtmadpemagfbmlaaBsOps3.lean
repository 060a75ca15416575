/-
  Bitsets: GetWord64AtBit.
-/
import Derived.Test.YtmadpemagfbmlaaBsOps2
namespace Go.Proofs.Ytmadpemagfbmlaa.bs
open Go.RowKit Go.Proofs.Ytmadpemagfbmlaa.base Go.Proofs.Ytmadpemagfbmlaa.heap Go.Proofs.Ytmadpemagfbmlaa.bit
set_option linter.unusedVariables false


theorem shl_bit {y s k : Nat} (hk : k < 64) : (y * 2 ^ s % 18446744073709551616).testBit k = (decide (s ≤ k) && y.testBit (k - s)) := by
  rw [show (18446744073709551616 : Nat) = 2 ^ 64 from by decide, Nat.testBit_mod_two_pow, ← Nat.shiftLeft_eq, Nat.testBit_shiftLeft]
  simp [hk]
theorem shr_bit {x r k : Nat} : (x / 2 ^ r).testBit k = x.testBit (r + k) := by
  rw [Nat.testBit_div_two_pow, Nat.add_comm]

theorem word_bit {X : Nat} (hX : Lt64 X) (k : Nat) : (bits .and .u64 ((X : Int) / 2 ^ k) 1 == 1) = X.testBit k := by
  have e : ((X : Int) / 2 ^ k) = ((X / 2 ^ k : Nat) : Int) := by push_cast; rfl
  have h1 : bits .and .u64 ((X / 2 ^ k : Nat) : Int) ((1 : Nat) : Int) = ((X / 2 ^ k &&& 1 : Nat) : Int) := and_nat (lt64_div hX) (by unfold Lt64; omega)
  rw [e, show (1 : Int) = ((1 : Nat) : Int) from rfl, h1, Nat.testBit_eq_decide_div_mod_eq, Nat.and_one_is_mod]
  generalize X / 2 ^ k = y
  have hy : y % 2 = 0 ∨ y % 2 = 1 := by omega
  rcases hy with hy | hy <;> rw [hy] <;> rfl

end Go.Proofs.Ytmadpemagfbmlaa.bs
