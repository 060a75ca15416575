/-
  The Hilbert curve: plain facts, no program in sight.
-/
import Derived.WalkKit
namespace Go.Proofs.Ytflkfgcbddolfaa.hil
open Go.RowKit

/-- the quarter q of a square of 2s places a side, of a place in a square of s places a side -/
def T (s : Int) (q : Nat) (p : Int × Int) : Int × Int :=
  if q = 0 then (p.2, p.1) else if q = 1 then (p.1, p.2 + s) else if q = 2 then (p.1 + s, p.2 + s) else (2 * s - 1 - p.2, s - 1 - p.1)
def dig (h k : Nat) : Nat := h / 4 ^ k % 4
/-- the place of the number that the k lowest digits of h are -/
def D : Nat → Nat → Int × Int
  | 0, _ => (0, 0)
  | k + 1, h => T (2 ^ k) (dig h k) (D k h)

theorem dig_lt (h k : Nat) : dig h k < 4 := Nat.mod_lt _ (by omega)
theorem pow_pos' (k : Nat) : 0 < (2 : Int) ^ k := Int.pow_pos (by omega)
theorem pow_s (k : Nat) : (2 : Int) ^ (k + 1) = 2 * 2 ^ k := by rw [Int.pow_succ]; omega

theorem D_bd (k h : Nat) : 0 ≤ (D k h).1 ∧ (D k h).1 < 2 ^ k ∧ 0 ≤ (D k h).2 ∧ (D k h).2 < 2 ^ k := by
  induction k with
  | zero => simp [D]
  | succ k ih =>
    have hp := pow_pos' k
    rw [pow_s]
    simp only [D, T]
    split
    · dsimp only; omega
    · split
      · dsimp only; omega
      · split <;> (dsimp only; omega)

theorem D_zero (k h : Nat) (hz : h % 4 ^ k = 0) : D k h = (0, 0) := by
  induction k with
  | zero => rfl
  | succ k ih =>
    have hp : 0 < 4 ^ k := Nat.pow_pos (by omega)
    rw [Nat.pow_succ] at hz
    have h1 : h % 4 ^ k = 0 := by rw [← Nat.mod_mul_right_mod h (4 ^ k) 4, hz]; simp
    have h2 : dig h k = 0 := by
      unfold dig
      have := Nat.mod_mul_right_div_self h (4 ^ k) 4
      rw [hz, Nat.zero_div] at this
      exact this.symm
    simp only [D, ih h1, h2, T, if_true]

theorem D_last (k h : Nat) (hz : h % 4 ^ k = 4 ^ k - 1) : D k h = (2 ^ k - 1, 0) := by
  induction k with
  | zero => rfl
  | succ k ih =>
    have hp : 0 < 4 ^ k := Nat.pow_pos (by omega)
    rw [Nat.pow_succ] at hz
    have e := Nat.mod_mul_right_div_self h (4 ^ k) 4
    have e2 := Nat.mod_mul_right_mod h (4 ^ k) 4
    rw [hz] at e e2
    have h1 : h % 4 ^ k = 4 ^ k - 1 := by
      rw [← e2, show 4 ^ k * 4 - 1 = (4 ^ k - 1) + 4 ^ k * 3 from by omega, Nat.add_mul_mod_self_left, Nat.mod_eq_of_lt (by omega)]
    have h2 : dig h k = 3 := by
      unfold dig
      rw [← e, show 4 ^ k * 4 - 1 = (4 ^ k - 1) + 4 ^ k * 3 from by omega, Nat.add_mul_div_left _ _ hp, Nat.div_eq_of_lt (by omega)]
    have hs := pow_s k
    simp only [D, ih h1, h2, T]
    rw [if_neg (by omega), if_neg (by omega), if_neg (by omega), hs]
    ext <;> (dsimp only; omega)

def dist (p q : Int × Int) : Int := (p.1 - q.1) * (p.1 - q.1) + (p.2 - q.2) * (p.2 - q.2)

theorem T0 (s : Int) (p : Int × Int) : T s 0 p = (p.2, p.1) := rfl
theorem T1 (s : Int) (p : Int × Int) : T s 1 p = (p.1, p.2 + s) := rfl
theorem T2 (s : Int) (p : Int × Int) : T s 2 p = (p.1 + s, p.2 + s) := rfl
theorem T3 (s : Int) (p : Int × Int) : T s 3 p = (2 * s - 1 - p.2, s - 1 - p.1) := rfl
theorem sq_neg (a b c : Int) : (c - a - (c - b)) * (c - a - (c - b)) = (a - b) * (a - b) := by
  have : c - a - (c - b) = -(a - b) := by omega
  rw [this, Int.neg_mul_neg]
theorem sq_add (a b c : Int) : (a + c - (b + c)) * (a + c - (b + c)) = (a - b) * (a - b) := by
  have : a + c - (b + c) = a - b := by omega
  rw [this]

theorem T_dist (s : Int) (q : Nat) (p p' : Int × Int) : dist (T s q p) (T s q p') = dist p p' := by
  unfold dist T
  split
  · dsimp only; omega
  · split
    · dsimp only; rw [sq_add]
    · split
      · dsimp only; rw [sq_add, sq_add]
      · dsimp only; rw [sq_neg, sq_neg]; omega

theorem D_next (k h : Nat) (hz : h % 4 ^ k ≠ 4 ^ k - 1) : dist (D k h) (D k (h + 1)) = 1 := by
  induction k with
  | zero => exact absurd (by simp [Nat.mod_one]) hz
  | succ k ih =>
    have hp : 0 < 4 ^ k := Nat.pow_pos (by omega)
    have hd := Nat.div_add_mod h (4 ^ k)
    have hm := Nat.mod_lt h hp
    by_cases h1 : h % 4 ^ k = 4 ^ k - 1
    · have h2 : (h + 1) % 4 ^ k = 0 := by
        rw [← hd, h1, Nat.add_assoc, show 4 ^ k - 1 + 1 = 4 ^ k from by omega]; simp
      have h3 : (h + 1) / 4 ^ k = h / 4 ^ k + 1 := by
        conv => lhs; rw [← hd, h1, Nat.add_assoc, show 4 ^ k - 1 + 1 = 4 ^ k from by omega]
        rw [Nat.add_div_right _ hp, Nat.mul_div_cancel_left _ hp]
      have h4 : dig h k ≠ 3 := by
        intro h5
        apply hz
        rw [Nat.pow_succ]
        have e := Nat.mod_mul_right_div_self h (4 ^ k) 4
        have e2 := Nat.mod_mul_right_mod h (4 ^ k) 4
        have e3 := Nat.div_add_mod (h % (4 ^ k * 4)) (4 ^ k)
        unfold dig at h5
        rw [e, e2, h1, h5] at e3
        omega
      have h6 : dig (h + 1) k = dig h k + 1 := by
        have := dig_lt h k
        unfold dig at *
        rw [h3]
        generalize h / 4 ^ k = y at *
        omega
      have hq := dig_lt h k
      simp only [D, D_last k h h1, D_zero k (h + 1) h2, h6]
      generalize dig h k = q at *
      have hs := pow_pos' k
      have : q = 0 ∨ q = 1 ∨ q = 2 := by omega
      rcases this with rfl | rfl | rfl
      · rw [T0, show 0 + 1 = 1 from rfl, T1]
        unfold dist
        dsimp only
        rw [show (2 : Int) ^ k - 1 - (0 + 2 ^ k) = -1 from by omega]; decide
      · rw [T1, show 1 + 1 = 2 from rfl, T2]
        unfold dist
        dsimp only
        rw [show (2 : Int) ^ k - 1 - (0 + 2 ^ k) = -1 from by omega, show (0 : Int) + 2 ^ k - (0 + 2 ^ k) = 0 from by omega]; decide
      · rw [T2, show 2 + 1 = 3 from rfl, T3]
        unfold dist
        dsimp only
        rw [show (2 : Int) ^ k - 1 + 2 ^ k - (2 * 2 ^ k - 1 - 0) = 0 from by omega, show (0 : Int) + 2 ^ k - (2 ^ k - 1 - 0) = 1 from by omega]; decide
    · have h3 : (h + 1) / 4 ^ k = h / 4 ^ k := by
        conv => lhs; rw [← hd, Nat.add_assoc]
        have h9 : h % 4 ^ k + 1 < 4 ^ k := by generalize 4 ^ k = z at *; omega
        rw [Nat.mul_add_div hp, Nat.div_eq_of_lt h9, Nat.add_zero]
      have h6 : dig (h + 1) k = dig h k := by unfold dig; rw [h3]
      simp only [D, h6, T_dist]
      exact ih h1

/-- the number that the lowest k digits of h are -/
theorem digs (h k : Nat) : h % 4 ^ (k + 1) = h % 4 ^ k + 4 ^ k * dig h k := by
  unfold dig
  rw [Nat.pow_succ, Nat.mod_mul]

/-! ### the way back -/
theorem modmod (x : Int) (k : Nat) (hk : k ≤ 30) : x % 4294967296 / 2 ^ k % 2 = x / 2 ^ k % 2 := by
  have h : k = 0 ∨ k = 1 ∨ k = 2 ∨ k = 3 ∨ k = 4 ∨ k = 5 ∨ k = 6 ∨ k = 7 ∨ k = 8 ∨ k = 9 ∨ k = 10 ∨ k = 11 ∨ k = 12 ∨ k = 13 ∨ k = 14 ∨ k = 15 ∨ k = 16 ∨ k = 17 ∨ k = 18 ∨ k = 19 ∨ k = 20 ∨ k = 21 ∨ k = 22 ∨ k = 23 ∨ k = 24 ∨ k = 25 ∨ k = 26 ∨ k = 27 ∨ k = 28 ∨ k = 29 ∨ k = 30 := by omega
  rcases h with rfl | rfl | rfl | rfl | rfl | rfl | rfl | rfl | rfl | rfl | rfl | rfl | rfl | rfl | rfl | rfl | rfl | rfl | rfl | rfl | rfl | rfl | rfl | rfl | rfl | rfl | rfl | rfl | rfl | rfl | rfl
  · show x % 4294967296 / 1 % 2 = x / 1 % 2; omega
  · show x % 4294967296 / 2 % 2 = x / 2 % 2; omega
  · show x % 4294967296 / 4 % 2 = x / 4 % 2; omega
  · show x % 4294967296 / 8 % 2 = x / 8 % 2; omega
  · show x % 4294967296 / 16 % 2 = x / 16 % 2; omega
  · show x % 4294967296 / 32 % 2 = x / 32 % 2; omega
  · show x % 4294967296 / 64 % 2 = x / 64 % 2; omega
  · show x % 4294967296 / 128 % 2 = x / 128 % 2; omega
  · show x % 4294967296 / 256 % 2 = x / 256 % 2; omega
  · show x % 4294967296 / 512 % 2 = x / 512 % 2; omega
  · show x % 4294967296 / 1024 % 2 = x / 1024 % 2; omega
  · show x % 4294967296 / 2048 % 2 = x / 2048 % 2; omega
  · show x % 4294967296 / 4096 % 2 = x / 4096 % 2; omega
  · show x % 4294967296 / 8192 % 2 = x / 8192 % 2; omega
  · show x % 4294967296 / 16384 % 2 = x / 16384 % 2; omega
  · show x % 4294967296 / 32768 % 2 = x / 32768 % 2; omega
  · show x % 4294967296 / 65536 % 2 = x / 65536 % 2; omega
  · show x % 4294967296 / 131072 % 2 = x / 131072 % 2; omega
  · show x % 4294967296 / 262144 % 2 = x / 262144 % 2; omega
  · show x % 4294967296 / 524288 % 2 = x / 524288 % 2; omega
  · show x % 4294967296 / 1048576 % 2 = x / 1048576 % 2; omega
  · show x % 4294967296 / 2097152 % 2 = x / 2097152 % 2; omega
  · show x % 4294967296 / 4194304 % 2 = x / 4194304 % 2; omega
  · show x % 4294967296 / 8388608 % 2 = x / 8388608 % 2; omega
  · show x % 4294967296 / 16777216 % 2 = x / 16777216 % 2; omega
  · show x % 4294967296 / 33554432 % 2 = x / 33554432 % 2; omega
  · show x % 4294967296 / 67108864 % 2 = x / 67108864 % 2; omega
  · show x % 4294967296 / 134217728 % 2 = x / 134217728 % 2; omega
  · show x % 4294967296 / 268435456 % 2 = x / 268435456 % 2; omega
  · show x % 4294967296 / 536870912 % 2 = x / 536870912 % 2; omega
  · show x % 4294967296 / 1073741824 % 2 = x / 1073741824 % 2; omega
theorem two32 (k : Nat) (hk : k ≤ 30) : ∃ c : Int, (4294967296 : Int) = 2 ^ k * c ∧ 1 ≤ (2 : Int) ^ k ∧ (2 : Int) ^ k ≤ 1073741824 := by
  have h : k = 0 ∨ k = 1 ∨ k = 2 ∨ k = 3 ∨ k = 4 ∨ k = 5 ∨ k = 6 ∨ k = 7 ∨ k = 8 ∨ k = 9 ∨ k = 10 ∨ k = 11 ∨ k = 12 ∨ k = 13 ∨ k = 14 ∨ k = 15 ∨ k = 16 ∨ k = 17 ∨ k = 18 ∨ k = 19 ∨ k = 20 ∨ k = 21 ∨ k = 22 ∨ k = 23 ∨ k = 24 ∨ k = 25 ∨ k = 26 ∨ k = 27 ∨ k = 28 ∨ k = 29 ∨ k = 30 := by omega
  rcases h with rfl | rfl | rfl | rfl | rfl | rfl | rfl | rfl | rfl | rfl | rfl | rfl | rfl | rfl | rfl | rfl | rfl | rfl | rfl | rfl | rfl | rfl | rfl | rfl | rfl | rfl | rfl | rfl | rfl | rfl | rfl
  · exact ⟨4294967296, by decide, by decide, by decide⟩
  · exact ⟨2147483648, by decide, by decide, by decide⟩
  · exact ⟨1073741824, by decide, by decide, by decide⟩
  · exact ⟨536870912, by decide, by decide, by decide⟩
  · exact ⟨268435456, by decide, by decide, by decide⟩
  · exact ⟨134217728, by decide, by decide, by decide⟩
  · exact ⟨67108864, by decide, by decide, by decide⟩
  · exact ⟨33554432, by decide, by decide, by decide⟩
  · exact ⟨16777216, by decide, by decide, by decide⟩
  · exact ⟨8388608, by decide, by decide, by decide⟩
  · exact ⟨4194304, by decide, by decide, by decide⟩
  · exact ⟨2097152, by decide, by decide, by decide⟩
  · exact ⟨1048576, by decide, by decide, by decide⟩
  · exact ⟨524288, by decide, by decide, by decide⟩
  · exact ⟨262144, by decide, by decide, by decide⟩
  · exact ⟨131072, by decide, by decide, by decide⟩
  · exact ⟨65536, by decide, by decide, by decide⟩
  · exact ⟨32768, by decide, by decide, by decide⟩
  · exact ⟨16384, by decide, by decide, by decide⟩
  · exact ⟨8192, by decide, by decide, by decide⟩
  · exact ⟨4096, by decide, by decide, by decide⟩
  · exact ⟨2048, by decide, by decide, by decide⟩
  · exact ⟨1024, by decide, by decide, by decide⟩
  · exact ⟨512, by decide, by decide, by decide⟩
  · exact ⟨256, by decide, by decide, by decide⟩
  · exact ⟨128, by decide, by decide, by decide⟩
  · exact ⟨64, by decide, by decide, by decide⟩
  · exact ⟨32, by decide, by decide, by decide⟩
  · exact ⟨16, by decide, by decide, by decide⟩
  · exact ⟨8, by decide, by decide, by decide⟩
  · exact ⟨4, by decide, by decide, by decide⟩
theorem and_i32 (x : Int) (k : Nat) (hk : k ≤ 30) : bits .and .i32 x (2 ^ k) = x / 2 ^ k % 2 * 2 ^ k := by
  obtain ⟨c, _, h1, h2⟩ := two32 k hk
  have e : (2 : Int) ^ k = ((2 ^ k : Nat) : Int) := by push_cast; rfl
  have hm := modmod x k hk
  have h3 : (BitVec.ofInt 32 x).toNat = (x % 4294967296).toNat := by simp
  have h4 : (BitVec.ofInt 32 (2 ^ k)).toNat = 2 ^ k := by
    rw [e, BitVec.ofInt_natCast, BitVec.toNat_ofNat, Nat.mod_eq_of_lt (by rw [e] at h2; omega)]
  show IntKind.i32.wrap ((BitVec.ofInt 32 x &&& BitVec.ofInt 32 (2 ^ k)).toNat : Int) = _
  rw [BitVec.toNat_and, h3, h4, nat_bit]
  obtain ⟨X, hX⟩ : ∃ X : Nat, x % 4294967296 = (X : Int) := ⟨(x % 4294967296).toNat, by omega⟩
  rw [hX] at hm
  rw [hX, Int.toNat_natCast]
  have h5 : ((X / 2 ^ k % 2 * 2 ^ k : Nat) : Int) = x / 2 ^ k % 2 * 2 ^ k := by
    push_cast
    rw [hm]
  rw [h5]
  have h6 : x / 2 ^ k % 2 = 0 ∨ x / 2 ^ k % 2 = 1 := by omega
  rcases h6 with h6 | h6 <;> rw [h6]
  · simp [IntKind.wrap, IntKind.bits, IntKind.signed]
  · rw [Int.one_mul]
    simp only [IntKind.wrap, IntKind.bits, IntKind.signed]
    generalize (2 : Int) ^ k = s at *
    simp
    omega

theorem wrap_mod (z : Int) (k : Nat) (hk : k ≤ 30) : IntKind.i32.wrap z % 2 ^ k = z % 2 ^ k := by
  obtain ⟨c, hc, h1, h2⟩ := two32 k hk
  have : ∃ q, IntKind.i32.wrap z = z + 4294967296 * q := by
    simp only [IntKind.wrap, IntKind.bits, IntKind.signed]
    simp
    exact ⟨-((z + 2147483648) / 4294967296), by omega⟩
  obtain ⟨q, hq⟩ := this
  rw [hq, hc, Int.mul_assoc, Int.add_mul_emod_self_left]

/-- what a pair of variables holds behind rotate -/
def turned (n rx ry : Int) (p : Int × Int) : Int × Int :=
  if ry = 0 then (if rx = 1 then (wrap32 (n - 1 - p.2), wrap32 (n - 1 - p.1)) else (p.2, p.1)) else p

theorem bit_of {x a s : Int} (hs : 0 < s) (h : x % (2 * s) = a) : x / s % 2 = a / s ∧ x % s = a % s := by
  have e : x = 2 * s * (x / (2 * s)) + a := by have := Int.mul_ediv_add_emod x (2 * s); omega
  have e2 : x = a + s * (2 * (x / (2 * s))) := by
    rw [← Int.mul_assoc, Int.mul_comm s 2]; omega
  have ha : 0 ≤ a := by rw [← h]; exact Int.emod_nonneg _ (by omega)
  have ha2 : a < 2 * s := by rw [← h]; exact Int.emod_lt_of_pos _ (by omega)
  generalize x / (2 * s) = q at *
  constructor
  · rw [e2, Int.add_mul_ediv_left _ _ (by omega)]
    have h1 : 0 ≤ a / s := Int.ediv_nonneg ha (by omega)
    have h2 : a / s < 2 := Int.ediv_lt_of_lt_mul hs (by omega)
    omega
  · rw [e2, Int.add_mul_emod_self_left]

theorem low {a s : Int} (h0 : 0 ≤ a) (h1 : a < s) : a / s = 0 ∧ a % s = a := ⟨Int.ediv_eq_zero_of_lt h0 h1, Int.emod_eq_of_lt h0 h1⟩
theorem high {a s : Int} (h0 : 0 ≤ a) (h1 : a < s) : (a + s) / s = 1 ∧ (a + s) % s = a := by
  have hs : s ≠ 0 := by omega
  constructor
  · rw [Int.add_ediv_of_dvd_right (Int.dvd_refl s), Int.ediv_self hs, (low h0 h1).1]; omega
  · rw [Int.add_emod_right, (low h0 h1).2]
theorem emod_shift {x b s c : Int} (h : x % s = b) : (c - x) % s = (c - b) % s := by
  rw [Int.sub_emod, h, Int.sub_emod c b, ← h, Int.emod_emod]

/-- a round of Encode: the digit, and the pair behind it -/
theorem enc_step (k h : Nat) (hk : k ≤ 30) (x y : Int) (hx : x % 2 ^ (k + 1) = (D (k + 1) h).1) (hy : y % 2 ^ (k + 1) = (D (k + 1) h).2) :
    (x / 2 ^ k % 2 = 0 ∨ x / 2 ^ k % 2 = 1) ∧ (y / 2 ^ k % 2 = 0 ∨ y / 2 ^ k % 2 = 1) ∧
    bits .xor .i32 (3 * (x / 2 ^ k % 2)) (y / 2 ^ k % 2) = (dig h k : Int) ∧
    (turned (2 ^ k) (x / 2 ^ k % 2) (y / 2 ^ k % 2) (x, y)).1 % 2 ^ k = (D k h).1 ∧
    (turned (2 ^ k) (x / 2 ^ k % 2) (y / 2 ^ k % 2) (x, y)).2 % 2 ^ k = (D k h).2 := by
  have hs := pow_pos' k
  obtain ⟨a1, a2, b1, b2⟩ := D_bd k h
  have hq := dig_lt h k
  rw [pow_s] at hx hy
  obtain ⟨bx, mx⟩ := bit_of hs hx
  obtain ⟨by', my⟩ := bit_of hs hy
  rw [bx, by']
  have hw : ∀ z : Int, wrap32 z % 2 ^ k = z % 2 ^ k := fun z => by
    have e : IntKind.i32.wrap z = wrap32 z := IntWalk.i32_left z
    rw [← e]; exact wrap_mod z k hk
  simp only [D] at bx mx by' my ⊢
  generalize D k h = p at *
  generalize dig h k = q at *
  generalize (2 : Int) ^ k = s at *
  have hc : q = 0 ∨ q = 1 ∨ q = 2 ∨ q = 3 := by omega
  rcases hc with rfl | rfl | rfl | rfl
  · rw [T0] at *
    dsimp only at *
    obtain ⟨l1, l2⟩ := low b1 b2
    obtain ⟨l3, l4⟩ := low a1 a2
    rw [l1, l3]
    rw [l2] at mx
    rw [l4] at my
    refine ⟨.inl rfl, .inl rfl, by decide, ?_, ?_⟩
    · simp [turned, my]
    · simp [turned, mx]
  · rw [T1] at *
    dsimp only at *
    obtain ⟨l1, l2⟩ := low a1 a2
    obtain ⟨l3, l4⟩ := high b1 b2
    rw [l1, l3]
    rw [l2] at mx
    rw [l4] at my
    refine ⟨.inl rfl, .inr rfl, by decide, ?_, ?_⟩
    · simp [turned, mx]
    · simp [turned, my]
  · rw [T2] at *
    dsimp only at *
    obtain ⟨l1, l2⟩ := high a1 a2
    obtain ⟨l3, l4⟩ := high b1 b2
    rw [l1, l3]
    rw [l2] at mx
    rw [l4] at my
    refine ⟨.inr rfl, .inr rfl, by decide, ?_, ?_⟩
    · simp [turned, mx]
    · simp [turned, my]
  · rw [T3] at *
    dsimp only at *
    have h1 : 2 * s - 1 - p.2 = (s - 1 - p.2) + s := by omega
    rw [h1] at mx ⊢
    obtain ⟨l1, l2⟩ := high (a := s - 1 - p.2) (s := s) (by omega) (by omega)
    obtain ⟨l3, l4⟩ := low (a := s - 1 - p.1) (s := s) (by omega) (by omega)
    rw [l1, l3]
    rw [l2] at mx
    rw [l4] at my
    refine ⟨.inr rfl, .inl rfl, by decide, ?_, ?_⟩
    · simp only [turned, if_true]
      rw [hw, emod_shift my, show s - 1 - (s - 1 - p.1) = p.1 from by omega]
      exact Int.emod_eq_of_lt a1 a2
    · simp only [turned, if_true]
      rw [hw, emod_shift mx, show s - 1 - (s - 1 - p.2) = p.2 from by omega]
      exact Int.emod_eq_of_lt b1 b2
theorem pow4 (k : Nat) : (4 : Int) ^ k = 2 ^ k * 2 ^ k := by
  rw [show (4 : Int) = 2 * 2 from rfl, Int.mul_pow]
end Go.Proofs.Ytflkfgcbddolfaa.hil
