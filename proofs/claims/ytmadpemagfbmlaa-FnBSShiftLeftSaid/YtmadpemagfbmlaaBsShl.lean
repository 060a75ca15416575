/-
  Shifting a list of words: word by word.
-/
import Derived.Test.YtmadpemagfbmlaaBsLists
namespace Go.Proofs.Ytmadpemagfbmlaa.bit
set_option linter.unusedVariables false

/-- word j of the list that is shifted by p words and r bits -/
def shW (S : List Nat) (r p j : Nat) : Nat := if j < p then 0 else ((S.getD (j - p) 0 * 2 ^ r % 18446744073709551616) ||| (if p < j ∧ 0 < r then S.getD (j - p - 1) 0 / 2 ^ (64 - r) else 0))
theorem shl_bit (x r c : Nat) (hc : c < 64) : (x * 2 ^ r % 18446744073709551616).testBit c = (decide (r ≤ c) && x.testBit (c - r)) := by
  rw [show (18446744073709551616 : Nat) = 2 ^ 64 from by decide, Nat.testBit_mod_two_pow, decide_eq_true hc, Bool.true_and, ← Nat.shiftLeft_eq, Nat.testBit_shiftLeft]
theorem shW_lt {S : List Nat} {r p j : Nat} (hS : ∀ i, Lt64 (S.getD i 0)) : Lt64 (shW S r p j) := by
  unfold shW
  by_cases h : j < p
  · rw [if_pos h]; unfold Lt64; omega
  · rw [if_neg h]
    refine lt64_or (by unfold Lt64; exact Nat.mod_lt _ (by omega)) ?_
    by_cases h2 : p < j ∧ 0 < r
    · rw [if_pos h2]; exact Nat.lt_of_le_of_lt (Nat.div_le_self _ _) (hS _)
    · rw [if_neg h2]; unfold Lt64; omega
theorem shW_bit {S : List Nat} {r p j c : Nat} (hS : ∀ i, Lt64 (S.getD i 0)) (hr : r < 64) (hc : c < 64) :
    (shW S r p j).testBit c = (decide (64 * p + r ≤ 64 * j + c) && bit S (64 * j + c - (64 * p + r))) := by
  unfold shW
  by_cases h : j < p
  · rw [if_pos h, Nat.zero_testBit, decide_eq_false (by omega), Bool.false_and]
  · rw [if_neg h, Nat.testBit_or, shl_bit _ _ _ hc]
    obtain ⟨i, rfl⟩ : ∃ i, j = p + i := ⟨j - p, by omega⟩
    rw [Nat.add_sub_cancel_left]
    by_cases hcr : r ≤ c
    · have h2 : ((if p < p + i ∧ 0 < r then S.getD (i - 1) 0 / 2 ^ (64 - r) else 0)).testBit c = false := by
        by_cases h3 : p < p + i ∧ 0 < r
        · rw [if_pos h3, Nat.testBit_div_two_pow, testBit_far (hS _) (by omega)]
        · rw [if_neg h3, Nat.zero_testBit]
      rw [h2, Bool.or_false, decide_eq_true hcr, decide_eq_true (by omega)]
      unfold bit
      rw [show 64 * (p + i) + c - (64 * p + r) = 64 * i + (c - r) by omega, show (64 * i + (c - r)) / 64 = i by omega, show (64 * i + (c - r)) % 64 = c - r by omega]
    · rw [decide_eq_false hcr, Bool.false_and, Bool.false_or]
      by_cases h3 : p < p + i ∧ 0 < r
      · rw [if_pos h3, Nat.testBit_div_two_pow, decide_eq_true (by omega), Bool.true_and]
        unfold bit
        rw [show 64 * (p + i) + c - (64 * p + r) = 64 * (i - 1) + (64 - r + c) by omega, show (64 * (i - 1) + (64 - r + c)) / 64 = i - 1 by omega, show (64 * (i - 1) + (64 - r + c)) % 64 = c + (64 - r) by omega]
      · rw [if_neg h3, Nat.zero_testBit, decide_eq_false (by omega), Bool.false_and]
/-- a list of words that holds them all is the list shifted -/
theorem bit_shl {S D : List Nat} {r p : Nat} (hS : ∀ i, Lt64 (S.getD i 0)) (hr : r < 64) (hD : ∀ j, D.getD j 0 = shW S r p j) (j : Nat) : bit D j = (decide (64 * p + r ≤ j) && bit S (j - (64 * p + r))) := by
  have := shW_bit (S := S) (r := r) (p := p) (j := j / 64) (c := j % 64) hS hr (Nat.mod_lt _ (by omega))
  rw [show 64 * (j / 64) + j % 64 = j by omega, ← hD] at this
  exact this
/-- behind the last word that is not 0 -/
theorem shW_zero {S : List Nat} {r p x j : Nat} (hz : ∀ i, x < i → S.getD i 0 = 0) (hj : x + p + 1 < j) : shW S r p j = 0 := by
  unfold shW
  rw [if_neg (by omega), hz (j - p) (by omega)]
  by_cases h2 : p < j ∧ 0 < r
  · rw [if_pos h2, hz (j - p - 1) (by omega)]; simp
  · rw [if_neg h2]; simp
/-- the word next behind it: what the last one lets out -/
theorem shW_out {S : List Nat} {r p x : Nat} (hz : ∀ i, x < i → S.getD i 0 = 0) (hr : 0 < r) : shW S r p (x + p + 1) = S.getD x 0 / 2 ^ (64 - r) := by
  unfold shW
  rw [if_neg (by omega), hz (x + p + 1 - p) (by omega), if_pos ⟨by omega, hr⟩, show x + p + 1 - p - 1 = x by omega]
  simp
theorem shW_none {S : List Nat} {r p x q : Nat} (hz : ∀ i, x < i → S.getD i 0 = 0) (hr : 0 < r) (hq : S.getD x 0 < 2 ^ (q + 1)) (hqr : q + r < 64) : shW S r p (x + p + 1) = 0 := by
  rw [shW_out hz hr]
  exact Nat.div_eq_of_lt (Nat.lt_of_lt_of_le hq (Nat.pow_le_pow_right (by omega) (by omega)))
/-- a word further down, the first one, and those ahead of all -/
theorem shW_mid {S : List Nat} {r p i : Nat} (hr : 0 < r) (hi : 0 < i) : shW S r p (i + p) = (S.getD i 0 * 2 ^ r % 18446744073709551616) ||| (S.getD (i - 1) 0 / 2 ^ (64 - r)) := by
  unfold shW
  rw [if_neg (by omega), if_pos ⟨by omega, hr⟩, Nat.add_sub_cancel]
theorem shW_first {S : List Nat} {r p : Nat} : shW S r p p = S.getD 0 0 * 2 ^ r % 18446744073709551616 := by
  unfold shW
  rw [if_neg (by omega), if_neg (by omega), Nat.sub_self, Nat.or_zero]
theorem shW_low {S : List Nat} {r p j : Nat} (hj : j < p) : shW S r p j = 0 := by
  unfold shW; rw [if_pos hj]
/-- whole words alone -/
theorem shW_even {S : List Nat} {p i : Nat} (hS : Lt64 (S.getD i 0)) : shW S 0 p (i + p) = S.getD i 0 := by
  unfold shW
  rw [if_neg (by omega), if_neg (by omega), Nat.add_sub_cancel, Nat.or_zero, Nat.pow_zero, Nat.mul_one]
  exact Nat.mod_eq_of_lt hS
/-- the last place of a word list: words behind it are 0 -/
theorem top_words {S : List Nat} {t : Nat} (hS : ∀ i, Lt64 (S.getD i 0)) (h : ∀ i, t < i → bit S i = false) : (∀ i, t / 64 < i → S.getD i 0 = 0) ∧ S.getD (t / 64) 0 < 2 ^ (t % 64 + 1) := by
  have hw : ∀ j c, c < 64 → t < 64 * j + c → (S.getD j 0).testBit c = false := fun j c hc hlt => by
    have := h (64 * j + c) hlt
    unfold bit at this
    rwa [show (64 * j + c) / 64 = j by omega, show (64 * j + c) % 64 = c by omega] at this
  refine ⟨fun i hi => Nat.eq_of_testBit_eq fun c => ?_, Nat.lt_pow_two_of_testBit _ fun c hc => ?_⟩
  · rw [Nat.zero_testBit]
    by_cases hc : c < 64
    · exact hw i c hc (by omega)
    · exact testBit_far (hS i) (by omega)
  · by_cases hc2 : c < 64
    · exact hw _ c hc2 (by omega)
    · exact testBit_far (hS _) (by omega)
end Go.Proofs.Ytmadpemagfbmlaa.bit
