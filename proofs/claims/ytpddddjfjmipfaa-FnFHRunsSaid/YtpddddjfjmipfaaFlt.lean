/-
  float64: words as whole numbers; the order of words is that of the numbers; a small whole number is kept exactly.
-/
import Derived.Test.YtpddddjfjmipfaaBase
import Derived.Laws.FloatArith
namespace Go.Proofs.Ytpddddjfjmipfaa.flt
set_option linter.unusedVariables false
open Ieee

abbrev F : Format := FloatKind.f64.format
/-- what a finite word stands for, times 2^1074 -/
def dval : Datum → Int
  | .number s m i => signed s m (i + 1074).toNat
  | _ => 0
def fin : Datum → Prop
  | .number _ _ i => -1074 ≤ i
  | _ => False
def fval (b : Nat) : Int := dval (F.read b)
def FinW (b : Nat) : Prop := fin (F.read b)
theorem shl (m k : Nat) : m <<< k = m * 2 ^ k := Nat.shiftLeft_eq m k
theorem signed_mul (s : Bool) (m a b : Nat) : signed s m (a + b) = signed s m a * (2 ^ b : Nat) := by
  unfold signed
  rw [shl, shl]
  have e : ((m * 2 ^ (a + b) : Nat) : Int) = ((m * 2 ^ a : Nat) : Int) * ((2 ^ b : Nat) : Int) := by
    rw [← Int.natCast_mul, Nat.pow_add, Nat.mul_assoc]
  split
  · rw [e, Int.neg_mul]
  · exact e
theorem compare_mul (a b : Int) (k : Nat) : compare a b = compare (a * (2 ^ k : Nat)) (b * (2 ^ k : Nat)) := by
  have hp : (0 : Int) < ((2 ^ k : Nat) : Int) := by
    have := Nat.two_pow_pos k; omega
  rcases Int.lt_trichotomy a b with h | h | h
  · have h2 := Int.mul_lt_mul_of_pos_right h hp
    rw [Int.compare_eq_lt.2 h, Int.compare_eq_lt.2 h2]
  · subst h; simp
  · have h2 := Int.mul_lt_mul_of_pos_right h hp
    rw [Int.compare_eq_gt.2 h, Int.compare_eq_gt.2 h2]
theorem order_fin {x y : Datum} (hx : fin x) (hy : fin y) : x.order y = some (compare (dval x) (dval y)) := by
  match x, y, hx, hy with
  | .number s m i, .number t n j, hx, hy =>
    have h1 : -1074 ≤ i := hx
    have h2 : -1074 ≤ j := hy
    have hb : -1074 ≤ min i j := by omega
    have e1 : (i + 1074).toNat = (i - min i j).toNat + (min i j + 1074).toNat := by omega
    have e2 : (j + 1074).toNat = (j - min i j).toNat + (min i j + 1074).toNat := by omega
    show some (compare (signed s m (i - min i j).toNat) (signed t n (j - min i j).toNat)) = some (compare (signed s m (i + 1074).toNat) (signed t n (j + 1074).toNat))
    rw [e1, e2, signed_mul, signed_mul, ← compare_mul]
theorem order_words {a b : Nat} (ha : FinW a) (hb : FinW b) : F.order a b = some (compare (fval a) (fval b)) := order_fin ha hb
theorem lt_words {a b : Nat} (ha : FinW a) (hb : FinW b) : (F.order a b == some .lt) = decide (fval a < fval b) := by
  rw [order_words ha hb]
  rcases Int.lt_trichotomy (fval a) (fval b) with h | h | h
  · rw [Int.compare_eq_lt.2 h]; simp [h]
  · rw [h]; simp
  · rw [Int.compare_eq_gt.2 h]; simp; omega
theorem log2_bounds {m : Nat} (h : m ≠ 0) : 2 ^ m.log2 ≤ m ∧ m < 2 ^ (m.log2 + 1) := ⟨Nat.log2_self_le h, Nat.lt_log2_self⟩
theorem cut0 (neg : Bool) (n : Nat) : Toward.even.cut neg n 0 = n := by
  unfold Toward.cut
  simp [Nat.mod_one]
set_option maxRecDepth 20000 in
/-- the word of a small whole number that is not 0 -/
theorem read_nearest (s : Bool) (m : Nat) (h0 : m ≠ 0) (h : m < 2 ^ 53) : F.read (F.nearest s m 0) = .number s (m * 2 ^ (52 - m.log2)) ((m.log2 : Int) - 52) := by
  obtain ⟨h1, h2⟩ := log2_bounds h0
  have hk : m.log2 ≤ 52 := by
    have : 2 ^ m.log2 < 2 ^ 53 := Nat.lt_of_le_of_lt h1 h
    have := (Nat.pow_lt_pow_iff_right (by omega : 1 < 2)).1 this
    omega
  obtain ⟨k, hkk⟩ : ∃ k, m.log2 = k := ⟨_, rfl⟩
  rw [hkk] at h1 h2 hk ⊢
  have hM1 : 2 ^ 52 ≤ m * 2 ^ (52 - k) := by
    have := Nat.mul_le_mul_right (2 ^ (52 - k)) h1
    rwa [← Nat.pow_add, show k + (52 - k) = 52 by omega] at this
  have hM2 : m * 2 ^ (52 - k) < 2 ^ 53 := by
    have := Nat.mul_lt_mul_of_pos_right h2 (Nat.two_pow_pos (52 - k))
    rwa [← Nat.pow_add, show k + 1 + (52 - k) = 53 by omega] at this
  have hlp : F.leastPlace = -1074 := by decide
  have hfb : F.fractionBits = 52 := rfl
  have hbin : F.binade = 2 ^ 52 := rfl
  have hinf : F.infRung = 2047 * 2 ^ 52 := rfl
  have hsw : F.signWeight = 2048 * 2 ^ 52 := by decide
  generalize hP : (2 : Nat) ^ 52 = P at *
  have hP2 : (2 : Nat) ^ 53 = 2 * P := by rw [← hP]
  rw [hP2] at hM2
  have hPp : 0 < P := by
    have := Nat.two_pow_pos 52
    rw [hP] at this
    exact this
  have hn : F.nearest s m 0 = F.word s ((k + 1022) * P + m * 2 ^ (52 - k)) := by
    unfold Format.nearest
    rw [if_neg h0, hkk, hlp, hfb, hbin, hinf]
    have e1 : max ((0 : Int) + (k : Int) - (52 : Nat)) (-1074) = (k : Int) - 52 := by omega
    simp only [e1]
    rw [show ((0 : Int) - ((k : Int) - 52)).toNat = 52 - k by omega, show ((k : Int) - 52 - 0).toNat = 0 by omega, show ((k : Int) - 52 - -1074).toNat = k + 1022 by omega, cut0, shl]
    congr 1
    refine Nat.min_eq_left ?_
    have : (k + 1022) * P ≤ 1074 * P := Nat.mul_le_mul_right P (by omega)
    omega
  rw [hn]
  have hr : (k + 1022) * P + m * 2 ^ (52 - k) < 2047 * P := by
    have : (k + 1022) * P ≤ 1074 * P := Nat.mul_le_mul_right P (by omega)
    omega
  generalize hM : m * 2 ^ (52 - k) = M at *
  obtain ⟨d, hd⟩ : ∃ d, M = P + d := ⟨M - P, by omega⟩
  have hdP : d < P := by omega
  have hR : (k + 1022) * P + M = (k + 1023) * P + d := by rw [hd, show k + 1023 = k + 1022 + 1 by omega, Nat.add_mul (k + 1022) 1 P]; omega
  rw [hR] at hr ⊢
  have hge : P ≤ (k + 1023) * P := Nat.le_mul_of_pos_left P (by omega)
  have q1 : ((k + 1023) * P + d) % P = d := by rw [Nat.add_comm, Nat.add_mul_mod_self_right, Nat.mod_eq_of_lt hdP]
  have q2 : ((k + 1023) * P + d) / P = k + 1023 := by rw [Nat.add_comm, Nat.add_mul_div_right _ _ hPp, Nat.div_eq_of_lt hdP]; omega
  obtain ⟨R, hRR⟩ : ∃ R, (k + 1023) * P + d = R := ⟨_, rfl⟩
  rw [hRR] at hr q1 q2 ⊢
  obtain ⟨S, hS⟩ : ∃ S, 2048 * P = S := ⟨_, rfl⟩
  have hRS : R < S := by omega
  have hS0 : 0 < S := by omega
  rw [hS] at hsw
  have w1 : F.word s R / F.signWeight % 2 = (if s then 1 else 0) := by
    unfold Format.word
    rw [hsw]
    cases s
    · rw [if_neg (by simp), if_neg (by simp), Nat.div_eq_of_lt hRS]
    · rw [if_pos rfl, if_pos rfl, Nat.add_div_left _ hS0, Nat.div_eq_of_lt hRS]
  have w2 : F.word s R % F.signWeight = R := by
    unfold Format.word
    rw [hsw]
    cases s
    · rw [if_neg (by simp), Nat.mod_eq_of_lt hRS]
    · rw [if_pos rfl, Nat.add_mod_left, Nat.mod_eq_of_lt hRS]
  unfold Format.read
  simp only [w1, w2, hbin, hinf, q1, q2, hlp]
  rw [if_neg (by omega), if_pos (by omega)]
  congr 1
  · cases s <;> rfl
  · omega
  · omega
/-- two to the k -/
def pw (k : Nat) : Nat := 2 ^ k
theorem pw_pos (k : Nat) : 0 < pw k := Nat.two_pow_pos k
theorem pw_add (a b : Nat) : pw (a + b) = pw a * pw b := Nat.pow_add 2 a b
theorem shp (m k : Nat) : m <<< k = m * pw k := shl m k
/-- the word of a whole number -/
abbrev fl (n : Int) : Nat := floatOfInt .f64 n
theorem fl_eq (n : Int) : fl n = F.nearest (decide (n < 0)) n.natAbs 0 := rfl
theorem read_fl {n : Int} (h : n.natAbs < 2 ^ 53) : ∃ M P, F.read (fl n) = .number (decide (n < 0)) M P ∧ -1074 ≤ P ∧ P ≤ 0 ∧ M = n.natAbs * pw (-P).toNat ∧ (n = 0 → P = -1074) := by
  by_cases h0 : n.natAbs = 0
  · have hn : n = 0 := by omega
    subst hn
    exact ⟨0, -1074, by decide +kernel, by omega, by omega, (Nat.zero_mul _).symm, fun _ => rfl⟩
  · have hk : n.natAbs.log2 ≤ 52 := by
      have h1 := Nat.log2_self_le h0
      have h2 : 2 ^ n.natAbs.log2 < 2 ^ 53 := Nat.lt_of_le_of_lt h1 h
      have := (Nat.pow_lt_pow_iff_right (by omega : 1 < 2)).1 h2
      omega
    refine ⟨_, _, by rw [fl_eq, read_nearest _ _ h0 h], by omega, by omega, ?_, fun h => by omega⟩
    show n.natAbs * pw (52 - n.natAbs.log2) = _
    congr 2; omega
theorem fin_fl {n : Int} (h : n.natAbs < 2 ^ 53) : FinW (fl n) := by
  obtain ⟨M, P, h1, h2, h3, h4, _⟩ := read_fl h
  unfold FinW
  rw [h1]; exact h2
theorem fval_fl {n : Int} (h : n.natAbs < 2 ^ 53) : fval (fl n) = n * (pw 1074 : Nat) := by
  obtain ⟨M, P, h1, h2, h3, h4, _⟩ := read_fl h
  unfold fval
  rw [h1]
  show signed _ M (P + 1074).toNat = _
  unfold signed
  rw [shp, h4, Nat.mul_assoc, ← pw_add, show (-P).toNat + (P + 1074).toNat = 1074 by omega]
  generalize pw 1074 = W
  by_cases hn : n < 0
  · rw [if_pos (by simpa using hn), Int.natCast_mul, ← Int.neg_mul]
    congr 1; omega
  · rw [if_neg (by simpa using hn), Int.natCast_mul]
    congr 1; omega
/-- the word of a small number is cut back to the number -/
theorem fl_back {n : Int} (h : n.natAbs < 2 ^ 53) : floatToIntVal .f64 (fl n) .i64 = some n := by
  obtain ⟨M, P, h1, h2, h3, h4, h5⟩ := read_fl h
  unfold floatToIntVal
  have hd : (FloatKind.f64.decode (fl n)) = .number (decide (n < 0)) M P := h1
  rw [hd]
  have hi : Datum.toInt .zero (.number (decide (n < 0)) M P) = some n := by
    unfold Datum.toInt Datum.integral
    have hc : Toward.zero.cut (decide (n < 0)) (M <<< P.toNat) (-P).toNat = n.natAbs := by
      unfold Toward.cut
      rw [show P.toNat = 0 by omega, Nat.shiftLeft_zero]
      by_cases hn : n = 0
      · subst hn
        have hM : M = 0 := by rw [h4]; simp
        subst hM
        simp
      · have hle : (-P).toNat ≤ M.log2 + 2 := by
          have h6 : pw (-P).toNat ≤ M := by
            rw [h4]
            exact Nat.le_mul_of_pos_left _ (by omega)
          have h7 := Nat.lt_log2_self (n := M)
          have h8 : 2 ^ (-P).toNat < 2 ^ (M.log2 + 1) := Nat.lt_of_le_of_lt h6 h7
          have := (Nat.pow_lt_pow_iff_right (by omega : 1 < 2)).1 h8
          omega
        rw [Nat.min_eq_left hle, shp, Nat.one_mul, h4]
        have h9 := Nat.mul_div_cancel n.natAbs (pw_pos (-P).toNat)
        simp only [h9]
        simp
    simp only [hc]
    unfold signed
    by_cases hn : n < 0
    · simp [hn]; omega
    · simp [hn]; omega
  rw [hi]
  simp only
  rw [if_pos]
  simp [IntKind.min, IntKind.max, IntKind.signed, IntKind.bits]
  omega
theorem fl_le {a b : Int} (ha : a.natAbs < 2 ^ 53) (hb : b.natAbs < 2 ^ 53) : fval (fl a) ≤ fval (fl b) ↔ a ≤ b := by
  rw [fval_fl ha, fval_fl hb]
  have := pw_pos 1074
  generalize pw 1074 = W at *
  exact Int.mul_le_mul_right (by omega)
/-- -math.MaxFloat64 -/
def low64 : Nat := 18442240474082181119
theorem read_low : F.read low64 = .number true 9007199254740991 971 := by decide +kernel
theorem fin_low : FinW low64 := by
  unfold FinW
  rw [read_low]
  show (-1074 : Int) ≤ 971
  omega
theorem low_lt {n : Int} (h : n.natAbs < 9007199254740991) : fval low64 < fval (fl n) := by
  have h4 : -(9007199254740991 : Int) < n := by omega
  replace h : n.natAbs < 2 ^ 53 := by omega
  rw [fval_fl h]
  unfold fval
  rw [read_low]
  show signed true 9007199254740991 ((971 : Int) + 1074).toNat < _
  unfold signed
  rw [if_pos rfl, shp, show ((971 : Int) + 1074).toNat = 971 + 1074 by rfl, pw_add]
  have h1 := pw_pos 1074
  have h2 := pw_pos 971
  generalize pw 1074 = W at *
  generalize pw 971 = V at *
  have h3 : 9007199254740991 * W ≤ 9007199254740991 * (V * W) := Nat.mul_le_mul_left _ (Nat.le_mul_of_pos_left _ h2)
  have h5 : -(9007199254740991 : Int) * (W : Int) < n * (W : Int) := Int.mul_lt_mul_of_pos_right h4 (by omega)
  have h6 : ((9007199254740991 * (V * W) : Nat) : Int) ≥ ((9007199254740991 * W : Nat) : Int) := by exact_mod_cast h3
  have h7 : ((9007199254740991 * W : Nat) : Int) = 9007199254740991 * (W : Int) := by simp
  omega
end Go.Proofs.Ytpddddjfjmipfaa.flt
