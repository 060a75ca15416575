/-
  The lowest and the highest bit of a block; its bits as numbers.
-/
import Derived.Test.YtacjkbljokjdkaaBaWord
import Derived.Test.YtacjkbljokjdkaaTz
import Derived.Test.YtacjkbljokjdkaaPopc
import Derived.Test.YtacjkbljokjdkaaSt
namespace Go.Proofs.Ytacjkbljokjdkaa.ba
open Go.RowKit Go.Proofs.Ytacjkbljokjdkaa.base Go.Proofs.Ytacjkbljokjdkaa.heap Go.Proofs.Ytacjkbljokjdkaa.rows Go.Proofs.Ytacjkbljokjdkaa.bit Go.Proofs.Ytacjkbljokjdkaa.bs
set_option linter.unusedVariables false

/-- t is the highest bit of x that is set -/
def High (x t : Nat) : Prop := x.testBit t = true ∧ ∀ i, t < i → x.testBit i = false
theorem high_ex {x : Nat} (hx : Lt64 x) (h0 : x ≠ 0) : ∃ t, t < 64 ∧ High x t := by
  have key : ∀ n, (∀ i, n ≤ i → x.testBit i = false) → ∃ t, t < n ∧ High x t := by
    intro n
    induction n with
    | zero =>
      intro h
      exact absurd (Nat.eq_of_testBit_eq (fun i => by rw [h i (Nat.zero_le _)]; simp)) h0
    | succ n ih =>
      intro h
      cases ht : x.testBit n with
      | true => exact ⟨n, by omega, ht, fun i hi => h i hi⟩
      | false =>
        obtain ⟨t, h1, h2⟩ := ih (fun i hi => by
          by_cases e : i = n
          · rw [e]; exact ht
          · exact h i (by omega))
        exact ⟨t, by omega, h2⟩
  exact key 64 (fun i hi => testBit_far hx hi)
theorem and_same {x p : Nat} : (x &&& 2 ^ p = 2 ^ p) ↔ x.testBit p = true := by
  constructor
  · intro h
    have := congrArg (fun z => z.testBit p) h
    simpa using this
  · intro h
    apply Nat.eq_of_testBit_eq
    intro i
    rw [Nat.testBit_and, tb_pow]
    by_cases e : p = i
    · subst e; simp [h]
    · simp [e]

set_option maxRecDepth 100000 in
set_option maxHeartbeats 800000 in
theorem findRight (x : Nat) (hx : Lt64 x) (h0 : x ≠ 0) (w : World) : Calls Try.prog 86 #[.int .u64 (x : Int)] w fun e w' => ∃ t, Hid (t < 64 ∧ Low x t) ∧ e = .returned (.int .u64 (t : Int)) ∧ w' = w := by
  obtain ⟨t, ht, hl⟩ := low_ex hx h0
  have HX := Lib.hid hx
  have HT := Lib.hid hl
  clear hx h0 hl
  go_enter Try.func86, Try.ntmps86
  go_wp2_with fail
  go_loop [3] (fun i => ∃ k : Nat, k ≤ t ∧ i = .int .u64 (k : Int)) (fun i => 64 - (intOf i).toNat)
  case atStart => exact ⟨0, Nat.zero_le _, rfl⟩
  case round =>
    obtain ⟨k, hk, rfl⟩ := hrel
    have hk' : (k : Int) < 64 := by omega
    have e0 := wrap_pow (show k < 64 by omega)
    have e1 := and_nat HX.out (lt64_pow (show k < 64 by omega))
    have HS : Hid ((x &&& 2 ^ k = 2 ^ k) ↔ x.testBit k = true) := Lib.hid and_same
    generalize x &&& 2 ^ k = z at *
    generalize 2 ^ k = y at *
    by_cases hkt : k = t
    · subst hkt
      have e2 : z = y := HS.out.2 HT.out.1
      subst e2
      go_wp2_with fail
      go_ret
      exact ⟨k, Lib.hid ⟨ht, HT.out⟩, rfl, rfl⟩
    · have e2 : ((z : Int) == (y : Int)) = false := by
        have h : ¬ z = y := fun e => by
          have := HS.out.1 e
          rw [HT.out.2 k (by omega)] at this
          cases this
        simp; omega
      have e3 : (z == y) = false := by
        have := e2
        simp at this ⊢; omega
      go_wp2_with fail
      go_round
      case rel => exact ⟨k + 1, by omega, by go_num⟩
      case measure => simp [intOf]; omega

set_option maxRecDepth 100000 in
set_option maxHeartbeats 800000 in
theorem findLeft (x : Nat) (hx : Lt64 x) (h0 : x ≠ 0) (w : World) : Calls Try.prog 49 #[.int .u64 (x : Int)] w fun e w' => ∃ t, Hid (t < 64 ∧ High x t) ∧ e = .returned (.int .u64 (t : Int)) ∧ w' = w := by
  obtain ⟨t, ht, hl⟩ := high_ex hx h0
  have HX := Lib.hid hx
  have HT := Lib.hid hl
  clear hx h0 hl
  go_enter Try.func49, Try.ntmps49
  go_wp2_with fail
  go_loop [3] (fun i => ∃ k : Nat, t ≤ k ∧ k < 64 ∧ i = .int .u64 (k : Int)) (fun i => (intOf i).toNat)
  case atStart => exact ⟨63, by omega, by omega, rfl⟩
  case round =>
    obtain ⟨k, hk, hk6, rfl⟩ := hrel
    have hk' : (k : Int) < 64 := by omega
    have e0 := wrap_pow (show k < 64 by omega)
    have e1 := and_nat HX.out (lt64_pow (show k < 64 by omega))
    have HS : Hid ((x &&& 2 ^ k = 2 ^ k) ↔ x.testBit k = true) := Lib.hid and_same
    generalize x &&& 2 ^ k = z at *
    generalize 2 ^ k = y at *
    by_cases hkt : k = t
    · subst hkt
      have e2 : z = y := HS.out.2 HT.out.1
      subst e2
      go_wp2_with fail
      go_ret
      exact ⟨k, Lib.hid ⟨ht, HT.out⟩, rfl, rfl⟩
    · have e2 : ((z : Int) == (y : Int)) = false := by
        have h : ¬ z = y := fun e => by
          have := HS.out.1 e
          rw [HT.out.2 k (by omega)] at this
          cases this
        simp; omega
      have e3 : (z == y) = false := by
        have := e2
        simp at this ⊢; omega
      obtain ⟨k1, hk1⟩ : ∃ k1, k = k1 + 1 := ⟨k - 1, by omega⟩
      subst hk1
      go_wp2_with fail
      go_round
      case rel => exact ⟨k1, by omega, by omega, rfl⟩
      case measure => simp [intOf]
end Go.Proofs.Ytacjkbljokjdkaa.ba
