/-
  Plain facts on numbers and bits, no program in sight.
-/
import Derived.WalkKit
namespace Go.Proofs.Ytncpcigbcafghaa.num

/-- the number of the bytes f 7, f 6, .., m of them -/
def V (f : Nat → Int) : Nat → Int
  | 0 => 0
  | m + 1 => V f m * 256 + f (7 - m)

theorem V_bd (f : Nat → Int) (h : ∀ j, 0 ≤ f j ∧ f j < 256) (m : Nat) : 0 ≤ V f m ∧ V f m < 256 ^ m := by
  induction m with
  | zero => simp [V]
  | succ m ih => have := h (7 - m); simp only [V]; rw [Int.pow_succ]; omega

theorem V_lo (f : Nat → Int) (h : ∀ j, 0 ≤ f j ∧ f j < 256) (m : Nat) (hm : m ≤ 7) : 0 ≤ V f m ∧ V f m < 72057594037927936 := by
  have h1 := V_bd f h m
  have h2 : m = 0 ∨ m = 1 ∨ m = 2 ∨ m = 3 ∨ m = 4 ∨ m = 5 ∨ m = 6 ∨ m = 7 := by omega
  rcases h2 with rfl | rfl | rfl | rfl | rfl | rfl | rfl | rfl <;> (refine ⟨h1.1, Int.lt_of_lt_of_le h1.2 (by decide)⟩)

theorem or_add (x y : Int) (i : Nat) (hx : 0 ≤ x ∧ x < 2 ^ i) (hy : 0 ≤ y) (hm : y % 2 ^ i = 0) (hs : x + y < 18446744073709551616) :
    bits .or .u64 x y = x + y := by
  obtain ⟨a, rfl⟩ := Int.eq_ofNat_of_zero_le hx.1
  obtain ⟨b, rfl⟩ := Int.eq_ofNat_of_zero_le hy
  have hb : b < 18446744073709551616 := by omega
  have ha : a < 18446744073709551616 := by omega
  have hx' : a < 2 ^ i := by have := hx.2; exact_mod_cast this
  have hm' : b % 2 ^ i = 0 := by exact_mod_cast hm
  rw [u64_or_nat a b ha hb, Nat.or_comm, nat_join i b a hm' hx']
  push_cast; omega

theorem ors (f : Nat → Int) (h : ∀ j, 0 ≤ f j ∧ f j < 256) :
    bits .or .u64 (bits .or .u64 (bits .or .u64 (bits .or .u64 (bits .or .u64 (bits .or .u64 (bits .or .u64 (f 0) (f 1 * 256)) (f 2 * 65536)) (f 3 * 16777216)) (f 4 * 4294967296))
      (f 5 * 1099511627776)) (f 6 * 281474976710656)) (f 7 * 72057594037927936) = V f 8 := by
  have h0 := h 0
  have h1 := h 1
  have h2 := h 2
  have h3 := h 3
  have h4 := h 4
  have h5 := h 5
  have h6 := h 6
  have h7 := h 7
  rw [or_add (f 0) (f 1 * 256) 8 (by omega) (by omega) (by omega) (by omega)]
  rw [or_add _ (f 2 * 65536) 16 (by omega) (by omega) (by omega) (by omega)]
  rw [or_add _ (f 3 * 16777216) 24 (by omega) (by omega) (by omega) (by omega)]
  rw [or_add _ (f 4 * 4294967296) 32 (by omega) (by omega) (by omega) (by omega)]
  rw [or_add _ (f 5 * 1099511627776) 40 (by omega) (by omega) (by omega) (by omega)]
  rw [or_add _ (f 6 * 281474976710656) 48 (by omega) (by omega) (by omega) (by omega)]
  rw [or_add _ (f 7 * 72057594037927936) 56 (by omega) (by omega) (by omega) (by omega)]
  simp only [V, show (7 - 0 : Nat) = 7 from rfl, show (7 - 1 : Nat) = 6 from rfl, show (7 - 2 : Nat) = 5 from rfl, show (7 - 3 : Nat) = 4 from rfl, show (7 - 4 : Nat) = 3 from rfl, show (7 - 5 : Nat) = 2 from rfl, show (7 - 6 : Nat) = 1 from rfl, show (7 - 7 : Nat) = 0 from rfl]
  omega
end Go.Proofs.Ytncpcigbcafghaa.num
