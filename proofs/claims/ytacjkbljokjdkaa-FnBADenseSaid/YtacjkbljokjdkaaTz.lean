/-
  TrailingZeros64: the place of the lowest bit that is set; its table is a variable of the library.
-/
import Derived.Test.YtacjkbljokjdkaaBase
import Derived.Test.YtacjkbljokjdkaaBit
import Derived.Test.YtacjkbljokjdkaaU64
namespace Go.Proofs.Ytacjkbljokjdkaa.bs
open Go.RowKit Go.Proofs.Ytacjkbljokjdkaa.base Go.Proofs.Ytacjkbljokjdkaa.heap Go.Proofs.Ytacjkbljokjdkaa.bit
set_option linter.unusedVariables false

/-- t is the lowest bit of x that is set -/
def Low (x t : Nat) : Prop := x.testBit t = true ∧ ∀ i, i < t → x.testBit i = false
theorem low_find (x : Nat) : ∀ n, (∃ t, t < n ∧ Low x t) ∨ ∀ i, i < n → x.testBit i = false
  | 0 => .inr fun i hi => by omega
  | n + 1 => by
    rcases low_find x n with ⟨t, h1, h2⟩ | h
    · exact .inl ⟨t, by omega, h2⟩
    · by_cases hx : x.testBit n = true
      · exact .inl ⟨n, by omega, hx, h⟩
      · refine .inr fun i hi => ?_
        by_cases e : i = n
        · rw [e]; simpa using hx
        · exact h i (by omega)
theorem low_ex {x : Nat} (hx : Lt64 x) (h0 : x ≠ 0) : ∃ t, t < 64 ∧ Low x t := by
  rcases low_find x 64 with h | h
  · exact h
  · refine absurd (Nat.eq_of_testBit_eq fun i => ?_) h0
    rw [Nat.zero_testBit]
    by_cases hi : i < 64
    · exact h i hi
    · exact testBit_far hx (by omega)
theorem low_split {x t : Nat} (h : Low x t) : x = 2 ^ (t + 1) * (x / 2 ^ (t + 1)) + 2 ^ t := by
  have h1 : x % 2 ^ (t + 1) = 2 ^ t := Nat.eq_of_testBit_eq fun i => by
    rw [Nat.testBit_mod_two_pow, Nat.testBit_two_pow]
    by_cases hi : i < t
    · rw [h.2 i hi, Bool.and_false, decide_eq_false (by omega)]
    · by_cases e : i = t
      · subst e
        rw [h.1]; simp
      · rw [decide_eq_false (show ¬ i < t + 1 by omega), decide_eq_false (by omega)]; rfl
  have := Nat.div_add_mod x (2 ^ (t + 1))
  rw [h1] at this
  exact this.symm
/-- the bits of x - 1 -/
theorem pred_bit {x t : Nat} (h : Low x t) (i : Nat) : (x - 1).testBit i = if i < t then true else if i = t then false else x.testBit i := by
  have hx := low_split h
  have hp := Nat.two_pow_pos t
  have hlt : 2 ^ t < 2 ^ (t + 1) := Nat.pow_lt_pow_right (by omega) (by omega)
  generalize hy : x / 2 ^ (t + 1) = y at hx
  have h1 : x - 1 = 2 ^ (t + 1) * y + (2 ^ t - 1) := by omega
  rw [h1, Nat.testBit_two_pow_mul_add _ (by omega), Nat.testBit_two_pow_sub_one]
  by_cases hi : i < t
  · rw [if_pos (by omega), if_pos hi, decide_eq_true hi]
  · by_cases e : i = t
    · rw [if_pos (by omega), if_neg hi, if_pos e, decide_eq_false hi]
    · rw [if_neg (by omega), if_neg hi, if_neg e, hx, Nat.testBit_two_pow_mul_add _ hlt, if_neg (by omega)]
theorem clear_low {x t : Nat} (h : Low x t) (i : Nat) : (x &&& (x - 1)).testBit i = (decide (t < i) && x.testBit i) := by
  rw [Nat.testBit_and, pred_bit h]
  by_cases hi : i < t
  · rw [h.2 i hi]; simp
  · by_cases e : i = t
    · subst e; simp
    · rw [if_neg hi, if_neg e, decide_eq_true (show t < i by omega)]; simp
theorem keep_low {x t : Nat} (hx : Lt64 x) (h0 : 0 < x) (h : Low x t) : x &&& (18446744073709551616 - x) = 2 ^ t := Nat.eq_of_testBit_eq fun i => by
  have e : (18446744073709551616 - x : Nat) = 2 ^ 64 - ((x - 1) + 1) := by
    have : (2 : Nat) ^ 64 = 18446744073709551616 := by decide
    omega
  have hx1 : x - 1 < 2 ^ 64 := by
    have : (2 : Nat) ^ 64 = 18446744073709551616 := by decide
    unfold Lt64 at hx; omega
  rw [e, Nat.testBit_and, Nat.testBit_two_pow_sub_succ hx1, pred_bit h, Nat.testBit_two_pow]
  by_cases hi : i < t
  · rw [h.2 i hi, decide_eq_false (show ¬ t = i by omega)]; rfl
  · by_cases e2 : i = t
    · subst e2
      rw [if_neg hi, if_pos rfl, h.1]
      have : i < 64 := by
        refine Classical.byContradiction fun hge => ?_
        have := h.1
        rw [testBit_far hx (by omega)] at this
        cases this
      simp [this]
    · rw [if_neg hi, if_neg e2, decide_eq_false (show ¬ t = i by omega)]
      cases x.testBit i <;> simp

/-- the library's table -/
def deB : List Nat := [0, 1, 56, 2, 57, 49, 28, 3, 61, 58, 42, 50, 38, 29, 17, 4, 62, 47, 59, 36, 45, 43, 51, 22, 53, 39, 33, 30, 24, 18, 12, 5, 63, 55, 48, 27, 60, 41, 37, 16, 46, 35, 44, 21, 52, 32, 23, 11, 54, 26, 40, 15, 34, 20, 31, 10, 25, 14, 19, 9, 13, 8, 7, 6]
/-- it stands where it is laid -/
def Tab (w : World) : Prop := ∀ i, i < 64 → w.cell? ⟨0, i, none⟩ = some (.int .u8 (deB.getD i 0 : Nat))
theorem Tab.keep {w w' : World} {S : Nat → Prop} (h : Tab w) (hs : 0 < w.heap.size) (hO : Only S w w') (hn : ¬ S 0) : Tab w' := fun i hi => by
  rw [hO.cell (p := ⟨0, i, none⟩) hs hn]; exact h i hi
theorem deB_at : ∀ t : Fin 64, deB.getD (2 ^ t.val * 285870213051353865 % 18446744073709551616 / 288230376151711744) 0 = t.val := by decide +kernel

set_option maxRecDepth 100000 in
set_option maxHeartbeats 1600000 in
theorem tz64 (x t : Nat) (w : World) (hx : Lt64 x) (h0 : 0 < x) (h : Low x t) (ht : t < 64) (hT : Tab w) :
    Calls Try.prog 87 #[.int .u64 (x : Int)] w fun e w' => e = .returned (.int .i64 (t : Int)) ∧ w = w' := by
  have n1 : IntKind.u64.wrap (-(x : Int)) = ((18446744073709551616 - x : Nat) : Int) := by rw [IntKind.wrap_u64]; unfold Lt64 at hx; omega
  have hl : Lt64 (18446744073709551616 - x) := by unfold Lt64; omega
  have a1 : bits .and .u64 (x : Int) ((18446744073709551616 - x : Nat) : Int) = ((2 ^ t : Nat) : Int) := by rw [and_nat hx hl, keep_low hx h0 h]
  have m1 : IntKind.u64.wrap (((2 ^ t : Nat) : Int) * 285870213051353865) = ((2 ^ t * 285870213051353865 % 18446744073709551616 : Nat) : Int) := by rw [IntKind.wrap_u64]; omega
  obtain ⟨q, hq⟩ : ∃ q, 2 ^ t * 285870213051353865 % 18446744073709551616 / 288230376151711744 = q := ⟨_, rfl⟩
  have hq64 : q < 64 := by omega
  have c1 := hT q hq64
  have hd := deB_at ⟨t, ht⟩
  dsimp only at hd
  rw [hq] at hd
  rw [hd] at c1
  have d1 : ((2 ^ t * 285870213051353865 % 18446744073709551616 : Nat) : Int) / 288230376151711744 = (q : Int) := by omega
  have z1 : ¬ x = 0 := by omega
  have hq' : (q : Int) < 64 := by omega
  clear hq hd hx h hl hT h0
  generalize 2 ^ t * 285870213051353865 % 18446744073709551616 = P at *
  generalize 18446744073709551616 - x = nx at *
  generalize 2 ^ t = pt at *
  go_enter Try.func87, Try.ntmps87
  go_wp2_with fail
  go_ret
  exact ⟨rfl, rfl⟩
end Go.Proofs.Ytacjkbljokjdkaa.bs
