/-
  The last place at which something holds; BSLast of the reference.
-/
import Derived.Test.YtjmgidedaodlpaaBsLaw
import Derived.Lib.BitFns
import Derived.Lib.ItoaNum
namespace Go.Proofs.Ytjmgidedaodlpaa.bs
open Go.RowKit Go.Proofs.Ytjmgidedaodlpaa.base Go.Proofs.Ytjmgidedaodlpaa.heap Go.Proofs.Ytjmgidedaodlpaa.bit
set_option linter.unusedVariables false

/-- the last place below n at which f holds -/
def lastTo (f : Nat → Bool) : Nat → Option Nat
  | 0 => none
  | n + 1 => if f n then some n else lastTo f n

theorem lastTo_congr {f g : Nat → Bool} : ∀ n, (∀ q, q < n → f q = g q) → lastTo f n = lastTo g n
  | 0, _ => rfl
  | n + 1, h => by rw [lastTo, lastTo, h n (Nat.lt_succ_self n), lastTo_congr n fun q hq => h q (by omega)]

theorem lastTo_lt {f : Nat → Bool} : ∀ n k, lastTo f n = some k → k < n
  | 0, k, h => by simp [lastTo] at h
  | n + 1, k, h => by
    rw [lastTo] at h
    by_cases hf : f n = true
    · rw [if_pos hf] at h; cases h; omega
    · rw [if_neg hf] at h; have := lastTo_lt n k h; omega

theorem bitLen_top {y t : Nat} (h1 : 2 ^ t ≤ y) (h2 : y < 2 ^ (t + 1)) (h : t < 64) : Lib.bitLen y = t + 1 := by
  have h3 : y < 2 ^ 64 := Nat.lt_of_lt_of_le h2 (Nat.pow_le_pow_right (by omega) (by omega))
  rw [Lib.bitLen_shift t y h1 h3]
  have h4 : y / 2 ^ t = 1 := by
    rw [Nat.pow_succ] at h2
    refine Nat.div_eq_of_lt_le (by omega) (by omega)
  rw [h4]
  rfl

/-- within a word -/
theorem lastTo_word {f : Nat → Bool} (x j : Nat) (hf : ∀ q, q < 64 → f (64 * j + q) = x.testBit q) : ∀ t, t ≤ 64 →
    lastTo f (64 * j + t) = if x % 2 ^ t = 0 then lastTo f (64 * j) else some (64 * j + Lib.bitLen (x % 2 ^ t) - 1)
  | 0, _ => by rw [Nat.pow_zero, Nat.mod_one, if_pos rfl, Nat.add_zero]
  | t + 1, ht => by
    have ih := lastTo_word x j hf t (by omega)
    rw [← Nat.add_assoc, lastTo, hf t (by omega), ih]
    have hs : x % 2 ^ (t + 1) = x % 2 ^ t + 2 ^ t * (x / 2 ^ t % 2) := Nat.mod_pow_succ
    have hlt : x % 2 ^ t < 2 ^ t := Nat.mod_lt _ (Nat.two_pow_pos t)
    have hp := Nat.two_pow_pos t
    rw [Nat.testBit_eq_decide_div_mod_eq]
    have h2 : x / 2 ^ t % 2 = 0 ∨ x / 2 ^ t % 2 = 1 := by omega
    rcases h2 with h2 | h2
    · rw [h2, Nat.mul_zero, Nat.add_zero] at hs
      rw [h2, hs]; rfl
    · rw [h2, Nat.mul_one] at hs
      have hne : ¬ x % 2 ^ (t + 1) = 0 := by omega
      rw [if_neg hne, h2, if_pos (by rfl), bitLen_top (t := t) (by omega) (Nat.mod_lt _ (Nat.two_pow_pos _)) (by omega)]
      congr 1

set_option maxHeartbeats 800000 in
/-- BSLast: the last place up to i at which the truth value is so -/
theorem bsLast (a : Option Addr) (n cap : Nat) (b : List Bool) (i : Nat) (is : Bool) (r : Option Nat) (w : World) (h : RB w a n cap b) (hi : i < n) (hn : n ≤ 1048576) (hr : Hid (lastTo (fun q => b.getD q false == is) (i + 1) = r)) :
    Calls Try.prog 29 #[.slice a n cap, .int .i64 (i : Int), .bool is] w fun e w' => e = .returned (.tuple #[.int .u64 ((r.getD 0 : Nat) : Int), .bool r.isSome]) ∧ w' = w := by
  obtain ⟨bb, off, rfl, hb, hc⟩ := h.at (by omega)
  have HC := Lib.hid hc
  have hbd := h.1.bound
  clear h hc
  go_enter Try.func29, Try.ntmps29
  go_wp2
  go_loop [8] (fun x => ∃ k : Nat, k ≤ i + 1 ∧ x = .int .i64 ((k : Int) - 1) ∧ lastTo (fun q => b.getD q false == is) k = r) (fun x => ((intOf x) + 1).toNat)
  case atStart => exact ⟨i + 1, Nat.le_refl _, by go_num, hr.out⟩
  case round =>
    obtain ⟨k, hk, rfl, hl⟩ := hrel
    cases k with
    | zero =>
      have HL := Lib.hid hl
      clear hl
      go_wp2
      go_ret2
      refine ⟨?_, rfl⟩
      rw [← HL.out]
      rfl
    | succ k =>
      have c := HC.out k (by omega)
      have hkn : (k : Int) < (n : Int) := by omega
      rw [lastTo] at hl
      generalize b.getD k false = y at *
      have HL := Lib.hid hl
      clear hl
      have hk1 : ((k + 1 : Nat) : Int) - 1 = (k : Int) := by omega
      rw [hk1]
      cases y <;> cases is
      · obtain rfl : some k = r := HL.out
        go_wp2
        go_ret2
        exact ⟨rfl, rfl⟩
      · go_wp2
        go_round
        case rel => exact ⟨k, by omega, by go_num, HL.out⟩
        case measure => simp [intOf]
      · go_wp2
        go_round
        case rel => exact ⟨k, by omega, by go_num, HL.out⟩
        case measure => simp [intOf]
      · obtain rfl : some k = r := HL.out
        go_wp2
        go_ret2
        exact ⟨rfl, rfl⟩
end Go.Proofs.Ytjmgidedaodlpaa.bs
