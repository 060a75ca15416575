/-
  Blocks: words of 64 bits: insert, remove, get, or, and, nand, equals, intersects, the lowest and the highest bit.
-/
import Derived.Test.YtacjkbljokjdkaaU64
import Derived.Test.YtacjkbljokjdkaaBaBits
import Derived.Test.YtacjkbljokjdkaaRw
namespace Go.Proofs.Ytacjkbljokjdkaa.ba
open Go.RowKit Go.Proofs.Ytacjkbljokjdkaa.base Go.Proofs.Ytacjkbljokjdkaa.heap Go.Proofs.Ytacjkbljokjdkaa.rows Go.Proofs.Ytacjkbljokjdkaa.bit Go.Proofs.Ytacjkbljokjdkaa.bs
set_option linter.unusedVariables false

theorem wrap_pow {p : Nat} (hp : p < 64) : IntKind.u64.wrap (2 ^ p) = ((2 ^ p : Nat) : Int) := by
  have h := lt64_pow hp
  unfold Lt64 at h
  have e : (2 : Int) ^ p = ((2 ^ p : Nat) : Int) := by push_cast; rfl
  rw [e, IntKind.wrap_u64]
  generalize 2 ^ p = y at *
  omega
theorem not_nat {y : Nat} (hy : Lt64 y) : bits .xor .u64 IntKind.u64.max (y : Int) = ((18446744073709551615 - y : Nat) : Int) := by
  have h1 : bits .xor .u64 ((18446744073709551615 : Nat) : Int) (y : Int) = ((18446744073709551615 ^^^ y : Nat) : Int) := xor_nat (by unfold Lt64; omega) hy
  have h2 : (18446744073709551615 ^^^ y) = 18446744073709551615 - y := by
    apply Nat.eq_of_testBit_eq
    intro i
    have hy' : y < 2 ^ 64 := (lt64_iff y).1 hy
    have e : 18446744073709551615 - y = 2 ^ 64 - (y + 1) := by
      rw [show (2 : Nat) ^ 64 = 18446744073709551616 from by decide]; omega
    have e1 : (18446744073709551615 : Nat) = 2 ^ 64 - 1 := by decide
    rw [e, Nat.testBit_two_pow_sub_succ hy', Nat.testBit_xor, e1, Nat.testBit_two_pow_sub_one]
    by_cases hi : i < 64
    · simp [hi]
    · rw [testBit_far hy (Nat.le_of_not_lt hi)]; simp [hi]
  rw [← h2]; exact h1
theorem lt64_not {y : Nat} : Lt64 (18446744073709551615 - y) := by unfold Lt64; omega
theorem and_test {x p : Nat} (hx : Lt64 x) (hp : p < 64) : (x &&& 2 ^ p = 0) ↔ x.testBit p = false := by rw [and_pow]

set_option maxRecDepth 100000 in
theorem insertW (x p : Nat) (hx : Lt64 x) (hp : p < 64) (w : World) : Calls Try.prog 79 #[.int .u64 (x : Int), .int .u64 (p : Int)] w fun e w' => e = .returned (.int .u64 ((x ||| 2 ^ p : Nat) : Int)) ∧ w' = w := by
  have h0 := wrap_pow hp
  have h1 := or_nat hx (lt64_pow hp)
  have hp' : (p : Int) < 64 := by omega
  generalize 2 ^ p = y at *
  go_enter Try.func79, Try.ntmps79
  go_wp2
  go_ret
  exact ⟨rfl, rfl⟩
set_option maxRecDepth 100000 in
theorem orW (x y : Nat) (hx : Lt64 x) (hy : Lt64 y) (w : World) : Calls Try.prog 92 #[.int .u64 (x : Int), .int .u64 (y : Int)] w fun e w' => e = .returned (.int .u64 ((x ||| y : Nat) : Int)) ∧ w' = w := by
  have h1 := or_nat hx hy
  go_enter Try.func92, Try.ntmps92
  go_wp2
  go_ret
  exact ⟨rfl, rfl⟩
set_option maxRecDepth 100000 in
theorem andW (x y : Nat) (hx : Lt64 x) (hy : Lt64 y) (w : World) : Calls Try.prog 82 #[.int .u64 (x : Int), .int .u64 (y : Int)] w fun e w' => e = .returned (.int .u64 ((x &&& y : Nat) : Int)) ∧ w' = w := by
  have h1 := and_nat hx hy
  go_enter Try.func82, Try.ntmps82
  go_wp2
  go_ret
  exact ⟨rfl, rfl⟩
set_option maxRecDepth 100000 in
theorem nandWc (x y : Nat) (hx : Lt64 x) (hy : Lt64 y) (w : World) : Calls Try.prog 89 #[.int .u64 (x : Int), .int .u64 (y : Int)] w fun e w' => e = .returned (.int .u64 ((nandW x y : Nat) : Int)) ∧ w' = w := by
  have h1 : bits .andNot .u64 (x : Int) (y : Int) = ((nandW x y : Nat) : Int) := u64_andNot_nat x y hx hy
  go_enter Try.func89, Try.ntmps89
  go_wp2
  go_ret
  exact ⟨rfl, rfl⟩
set_option maxRecDepth 100000 in
theorem equalsW (x y : Nat) (w : World) : Calls Try.prog 71 #[.int .u64 (x : Int), .int .u64 (y : Int)] w fun e w' => e = .returned (.bool (decide (x = y))) ∧ w' = w := by
  have h1 : ((x : Int) == (y : Int)) = decide (x = y) := by
    by_cases h : x = y
    · subst h; simp
    · simp [h]; omega
  go_enter Try.func71, Try.ntmps71
  go_wp2
  go_ret
  exact ⟨rfl, rfl⟩
set_option maxRecDepth 100000 in
theorem intersectsW (x y : Nat) (hx : Lt64 x) (hy : Lt64 y) (w : World) : Calls Try.prog 88 #[.int .u64 (x : Int), .int .u64 (y : Int)] w fun e w' => e = .returned (.bool (decide (x &&& y = y))) ∧ w' = w := by
  have h1 := and_nat hx hy
  have h2 : ((((x &&& y : Nat) : Int)) == (y : Int)) = decide (x &&& y = y) := by
    generalize x &&& y = z
    by_cases h : z = y
    · subst h; simp
    · simp [h]; omega
  generalize x &&& y = z at *
  go_enter Try.func88, Try.ntmps88
  go_wp2
  go_ret
  exact ⟨rfl, rfl⟩
set_option maxRecDepth 100000 in
theorem removeW (x p : Nat) (hx : Lt64 x) (hp : p < 64) (w : World) : Calls Try.prog 111 #[.int .u64 (x : Int), .int .u64 (p : Int)] w fun e w' => e = .returned (.int .u64 ((nandW x (2 ^ p) : Nat) : Int)) ∧ w' = w := by
  have hp' : (p : Int) < 64 := by omega
  have h0 := wrap_pow hp
  have h1 := not_nat (lt64_pow hp)
  have h2 : bits .and .u64 (x : Int) ((18446744073709551615 - 2 ^ p : Nat) : Int) = ((nandW x (2 ^ p) : Nat) : Int) := and_nat hx lt64_not
  have hs : ¬ IntKind.u64.signed = true := by decide
  generalize 18446744073709551615 - 2 ^ p = z at *
  generalize 2 ^ p = y at *
  go_enter Try.func111, Try.ntmps111
  go_wp2
  go_ret
  exact ⟨rfl, rfl⟩
set_option maxRecDepth 100000 in
theorem getW (x p : Nat) (hx : Lt64 x) (hp : p < 64) (w : World) : Calls Try.prog 112 #[.int .u64 (x : Int), .int .u64 (p : Int)] w fun e w' => e = .returned (.bool (x.testBit p)) ∧ w' = w := by
  have hp' : (p : Int) < 64 := by omega
  have h0 := wrap_pow hp
  have h1 := and_nat hx (lt64_pow hp)
  have h2 : ((((x &&& 2 ^ p : Nat) : Int)) != 0) = x.testBit p := by
    have h := and_test hx hp
    generalize x &&& 2 ^ p = z at *
    cases ht : x.testBit p
    · have := h.2 ht; subst this; rfl
    · have : ¬ z = 0 := fun e => by have := h.1 e; rw [ht] at this; cases this
      simp [bne]; exact this
  generalize 2 ^ p = y at *
  generalize x &&& y = z at *
  generalize x.testBit p = t at *
  go_enter Try.func112, Try.ntmps112
  go_wp2
  go_ret
  exact ⟨rfl, rfl⟩
set_option maxRecDepth 100000 in
theorem indexW (k : Nat) (hk : Lt64 k) (w : World) : Calls Try.prog 33 #[.int .u64 (k : Int)] w fun e w' => e = .returned (.tuple #[.int .u64 ((k / 64 : Nat) : Int), .int .u64 ((k % 64 : Nat) : Int)]) ∧ w' = w := by
  have h1 : IntKind.u64.wrap ((k : Int) / 64) = ((k / 64 : Nat) : Int) := by
    rw [IntKind.wrap_u64]; unfold Lt64 at hk; omega
  have h2 : (k : Int) % 64 = ((k % 64 : Nat) : Int) := by omega
  have H1 := Lib.hid h1
  have H2 := Lib.hid h2
  clear h1 h2 hk
  go_enter Try.func33, Try.ntmps33
  go_wp2
  go_ret2
  rw [← H1.out, ← H2.out]
  exact ⟨rfl, rfl⟩
end Go.Proofs.Ytacjkbljokjdkaa.ba
