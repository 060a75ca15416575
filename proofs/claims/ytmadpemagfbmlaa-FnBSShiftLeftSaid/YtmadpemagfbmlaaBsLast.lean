/-
  The last place at which something holds; BSLast of the reference.
-/
import Derived.Test.YtmadpemagfbmlaaBsLaw
import Derived.Lib.BitFns
import Derived.Lib.ItoaNum
namespace Go.Proofs.Ytmadpemagfbmlaa.bs
open Go.RowKit Go.Proofs.Ytmadpemagfbmlaa.base Go.Proofs.Ytmadpemagfbmlaa.heap Go.Proofs.Ytmadpemagfbmlaa.bit
set_option linter.unusedVariables false

/-- the last place below n at which f holds -/
def lastTo (f : Nat → Bool) : Nat → Option Nat
  | 0 => none
  | n + 1 => if f n then some n else lastTo f n

theorem lastTo_congr {f g : Nat → Bool} : ∀ n, (∀ q, q < n → f q = g q) → lastTo f n = lastTo g n
  | 0, _ => rfl
  | n + 1, h => by rw [lastTo, lastTo, h n (Nat.lt_succ_self n), lastTo_congr n fun q hq => h q (by omega)]

theorem lastTo_lt {f : Nat → Bool} : ∀ n k, lastTo f n = some k → k < n
  | 0, k, h => by simp [lastTo] at h
  | n + 1, k, h => by
    rw [lastTo] at h
    by_cases hf : f n = true
    · rw [if_pos hf] at h; cases h; omega
    · rw [if_neg hf] at h; have := lastTo_lt n k h; omega

theorem bitLen_top {y t : Nat} (h1 : 2 ^ t ≤ y) (h2 : y < 2 ^ (t + 1)) (h : t < 64) : Lib.bitLen y = t + 1 := by
  have h3 : y < 2 ^ 64 := Nat.lt_of_lt_of_le h2 (Nat.pow_le_pow_right (by omega) (by omega))
  rw [Lib.bitLen_shift t y h1 h3]
  have h4 : y / 2 ^ t = 1 := by
    rw [Nat.pow_succ] at h2
    refine Nat.div_eq_of_lt_le (by omega) (by omega)
  rw [h4]
  rfl

/-- within a word -/
theorem lastTo_word {f : Nat → Bool} (x j : Nat) (hf : ∀ q, q < 64 → f (64 * j + q) = x.testBit q) : ∀ t, t ≤ 64 →
    lastTo f (64 * j + t) = if x % 2 ^ t = 0 then lastTo f (64 * j) else some (64 * j + Lib.bitLen (x % 2 ^ t) - 1)
  | 0, _ => by rw [Nat.pow_zero, Nat.mod_one, if_pos rfl, Nat.add_zero]
  | t + 1, ht => by
    have ih := lastTo_word x j hf t (by omega)
    rw [← Nat.add_assoc, lastTo, hf t (by omega), ih]
    have hs : x % 2 ^ (t + 1) = x % 2 ^ t + 2 ^ t * (x / 2 ^ t % 2) := Nat.mod_pow_succ
    have hlt : x % 2 ^ t < 2 ^ t := Nat.mod_lt _ (Nat.two_pow_pos t)
    have hp := Nat.two_pow_pos t
    rw [Nat.testBit_eq_decide_div_mod_eq]
    have h2 : x / 2 ^ t % 2 = 0 ∨ x / 2 ^ t % 2 = 1 := by omega
    rcases h2 with h2 | h2
    · rw [h2, Nat.mul_zero, Nat.add_zero] at hs
      rw [h2, hs]; rfl
    · rw [h2, Nat.mul_one] at hs
      have hne : ¬ x % 2 ^ (t + 1) = 0 := by omega
      rw [if_neg hne, h2, if_pos (by rfl), bitLen_top (t := t) (by omega) (Nat.mod_lt _ (Nat.two_pow_pos _)) (by omega)]
      congr 1

end Go.Proofs.Ytmadpemagfbmlaa.bs
