/-
  Counting the bits of a number of 32 bits, side by side in its fields, is counting them one by one. No program in sight.
-/
import Derived.WalkKit
namespace Go.Proofs.Ytncpcigbcafghaa.pop

/-- how many of the lowest f bits of b are set -/
def cnt : Nat → Nat → Nat
  | 0, _ => 0
  | f + 1, b => b % 2 + cnt f (b / 2)

theorem cnt_zero (f : Nat) : cnt f 0 = 0 := by
  induction f with
  | zero => rfl
  | succ f ih => simp [cnt, ih]

theorem cnt_le (f b : Nat) : cnt f b ≤ f := by
  induction f generalizing b with
  | zero => simp [cnt]
  | succ f ih => have := ih (b / 2); simp only [cnt]; omega

theorem cnt_more (f g b : Nat) (h : b < 2 ^ f) : cnt (f + g) b = cnt f b := by
  induction f generalizing b with
  | zero => have : b = 0 := by simpa using h
            subst this; simp [cnt_zero]
  | succ f ih =>
    have h2 : b / 2 < 2 ^ f := by rw [Nat.pow_succ] at h; omega
    rw [show f + 1 + g = (f + g) + 1 from by omega]
    simp only [cnt, ih _ h2]

theorem cnt_8 (g a c : Nat) (ha : a < 256) : cnt (g + 8) (a + 256 * c) = cnt 8 a + cnt g c := by
  rw [show g + 8 = g + 1 + 1 + 1 + 1 + 1 + 1 + 1 + 1 from rfl, show (8 : Nat) = 0 + 1 + 1 + 1 + 1 + 1 + 1 + 1 + 1 from rfl]
  simp only [cnt]
  rw [show (a + 256 * c) / 2 / 2 / 2 / 2 / 2 / 2 / 2 / 2 = c from by omega]
  omega

theorem land_split (a c m k : Nat) (ha : a < 256) (hm : m < 256) : (a + 256 * c) &&& (m + 256 * k) = (a &&& m) + 256 * (c &&& k) := by
  have e1 : a + 256 * c = 2 ^ 8 * c + a := by omega
  have e2 : m + 256 * k = 2 ^ 8 * k + m := by omega
  have hlt : a &&& m < 2 ^ 8 := Nat.lt_of_le_of_lt Nat.and_le_left (by omega)
  have e3 : (a &&& m) + 256 * (c &&& k) = 2 ^ 8 * (c &&& k) + (a &&& m) := by omega
  rw [e1, e2, e3]
  apply Nat.eq_of_testBit_eq
  intro i
  have ha' : a < 2 ^ 8 := by omega
  have hm' : m < 2 ^ 8 := by omega
  rw [Nat.testBit_and, Nat.testBit_two_pow_mul_add _ ha', Nat.testBit_two_pow_mul_add _ hm', Nat.testBit_two_pow_mul_add _ hlt]
  split <;> simp [Nat.testBit_and]

theorem land4 (a b c d m : Nat) (ha : a < 256) (hb : b < 256) (hc : c < 256) (hm : m < 256) :
    (a + 256 * (b + 256 * (c + 256 * d))) &&& (m + 256 * (m + 256 * (m + 256 * m))) = (a &&& m) + 256 * ((b &&& m) + 256 * ((c &&& m) + 256 * (d &&& m))) := by
  rw [land_split _ _ _ _ ha hm, land_split _ _ _ _ hb hm, land_split _ _ _ _ hc hm]

def u1 (b : Nat) : Nat := b / 2 &&& 85
def s1 (b : Nat) : Nat := b - u1 b
def s2 (b : Nat) : Nat := (s1 b / 4 &&& 51) + (s1 b &&& 51)

set_option maxRecDepth 100000 in
theorem byte1 : ∀ b : Fin 256, ∀ t : Fin 2, (b.val / 2 + 128 * t.val) &&& 85 = u1 b.val ∧ u1 b.val ≤ b.val := by decide +kernel
set_option maxRecDepth 100000 in
theorem byte2 : ∀ b : Fin 256, ∀ t : Fin 4, (s1 b.val / 4 + 64 * t.val) &&& 51 = s1 b.val / 4 &&& 51 := by decide +kernel
set_option maxRecDepth 100000 in
theorem byte3 : ∀ b : Fin 256, s2 b.val % 16 ≤ 4 ∧ s2 b.val ≤ 68 ∧ (s2 b.val + s2 b.val / 16) % 16 = cnt 8 b.val ∧ s1 b.val < 256 := by decide +kernel
theorem land15 (x r : Nat) : (x + 16 * r) &&& 15 = x % 16 := by rw [nat_mask4]; omega

/-- the number that the Go text comes to -/
def pc (b : Nat) : Nat :=
  let x1 := b - (b / 2 &&& 1431655765)
  let x2 := (x1 / 4 &&& 858993459) + (x1 &&& 858993459)
  let x3 := x2 + x2 / 16
  let x4 := x3 &&& 252645135
  x4 * 16843009 % 4294967296 / 16777216

theorem div16 (a b c d : Nat) : (a + 256 * (b + 256 * (c + 256 * d))) / 16 = (a / 16 + 16 * (b % 16)) + 256 * ((b / 16 + 16 * (c % 16)) + 256 * ((c / 16 + 16 * (d % 16)) + 256 * (d / 16 + 16 * (0 : Nat)))) := by omega
theorem last (a b c d : Nat) (h1 : a ≤ 8) (h2 : b ≤ 8) (h3 : c ≤ 8) (h4 : d ≤ 8) : (a + 256 * (b + 256 * (c + 256 * d))) * 16843009 % 4294967296 / 16777216 = a + b + c + d := by
  have e : (a + 256 * (b + 256 * (c + 256 * d))) * 16843009 = (a + 256 * (a + b) + 65536 * (a + b + c) + 16777216 * (a + b + c + d)) + 4294967296 * (b + c + d + 256 * (c + d) + 65536 * d) := by omega
  rw [e, Nat.add_mul_mod_self_left, Nat.mod_eq_of_lt (by omega)]
  omega

theorem pc_bytes (a b c d : Nat) (ha : a < 256) (hb : b < 256) (hc : c < 256) (hd : d < 256) :
    pc (a + 256 * (b + 256 * (c + 256 * d))) = cnt 8 a + cnt 8 b + cnt 8 c + cnt 8 d ∧
    (a + 256 * (b + 256 * (c + 256 * d))) / 2 &&& 1431655765 ≤ a + 256 * (b + 256 * (c + 256 * d)) ∧
    (let x1 := (a + 256 * (b + 256 * (c + 256 * d))) - ((a + 256 * (b + 256 * (c + 256 * d))) / 2 &&& 1431655765)
     let x2 := (x1 / 4 &&& 858993459) + (x1 &&& 858993459)
     x2 + x2 / 16 < 4294967296) := by
  have e1 : (a + 256 * (b + 256 * (c + 256 * d))) / 2 = (a / 2 + 128 * (b % 2)) + 256 * ((b / 2 + 128 * (c % 2)) + 256 * ((c / 2 + 128 * (d % 2)) + 256 * (d / 2 + 128 * (0 : Nat)))) := by omega
  have m1 : (1431655765 : Nat) = 85 + 256 * (85 + 256 * (85 + 256 * 85)) := by decide
  have A1 := byte1 ⟨a, ha⟩ ⟨b % 2, by omega⟩
  have B1 := byte1 ⟨b, hb⟩ ⟨c % 2, by omega⟩
  have C1 := byte1 ⟨c, hc⟩ ⟨d % 2, by omega⟩
  have D1 := byte1 ⟨d, hd⟩ ⟨0, by omega⟩
  dsimp only at A1 B1 C1 D1
  have f1 : (a + 256 * (b + 256 * (c + 256 * d))) / 2 &&& 1431655765 = u1 a + 256 * (u1 b + 256 * (u1 c + 256 * u1 d)) := by
    rw [e1, m1, land4 _ _ _ _ _ (by omega) (by omega) (by omega) (by omega), A1.1, B1.1, C1.1, D1.1]
  have f2 : a + 256 * (b + 256 * (c + 256 * d)) - (u1 a + 256 * (u1 b + 256 * (u1 c + 256 * u1 d))) = s1 a + 256 * (s1 b + 256 * (s1 c + 256 * s1 d)) := by
    unfold s1; omega
  have A3 := byte3 ⟨a, ha⟩
  have B3 := byte3 ⟨b, hb⟩
  have C3 := byte3 ⟨c, hc⟩
  have D3 := byte3 ⟨d, hd⟩
  dsimp only at A3 B3 C3 D3
  have e2 : (s1 a + 256 * (s1 b + 256 * (s1 c + 256 * s1 d))) / 4 = (s1 a / 4 + 64 * (s1 b % 4)) + 256 * ((s1 b / 4 + 64 * (s1 c % 4)) + 256 * ((s1 c / 4 + 64 * (s1 d % 4)) + 256 * (s1 d / 4 + 64 * (0 : Nat)))) := by omega
  have m2 : (858993459 : Nat) = 51 + 256 * (51 + 256 * (51 + 256 * 51)) := by decide
  have A2 := byte2 ⟨a, ha⟩ ⟨s1 b % 4, by omega⟩
  have B2 := byte2 ⟨b, hb⟩ ⟨s1 c % 4, by omega⟩
  have C2 := byte2 ⟨c, hc⟩ ⟨s1 d % 4, by omega⟩
  have D2 := byte2 ⟨d, hd⟩ ⟨0, by omega⟩
  dsimp only at A2 B2 C2 D2
  have f3 : ((s1 a + 256 * (s1 b + 256 * (s1 c + 256 * s1 d))) / 4 &&& 858993459) + ((s1 a + 256 * (s1 b + 256 * (s1 c + 256 * s1 d))) &&& 858993459) = s2 a + 256 * (s2 b + 256 * (s2 c + 256 * s2 d)) := by
    rw [e2, m2, land4 _ _ _ _ _ (by omega) (by omega) (by omega) (by omega), land4 _ _ _ _ _ (by omega) (by omega) (by omega) (by omega), A2, B2, C2, D2]
    unfold s2; omega
  have e3 : (s2 a + 256 * (s2 b + 256 * (s2 c + 256 * s2 d))) + (s2 a + 256 * (s2 b + 256 * (s2 c + 256 * s2 d))) / 16 =
      ((s2 a + s2 a / 16) + 16 * (s2 b % 16)) + 256 * (((s2 b + s2 b / 16) + 16 * (s2 c % 16)) + 256 * (((s2 c + s2 c / 16) + 16 * (s2 d % 16)) + 256 * ((s2 d + s2 d / 16) + 16 * (0 : Nat)))) := by
    rw [div16]
    generalize s2 a / 16 = p1; generalize s2 b / 16 = p2; generalize s2 c / 16 = p3; generalize s2 d / 16 = p4
    generalize s2 b % 16 = r2; generalize s2 c % 16 = r3; generalize s2 d % 16 = r4
    omega
  have m3 : (252645135 : Nat) = 15 + 256 * (15 + 256 * (15 + 256 * 15)) := by decide
  have f4 : ((s2 a + 256 * (s2 b + 256 * (s2 c + 256 * s2 d))) + (s2 a + 256 * (s2 b + 256 * (s2 c + 256 * s2 d))) / 16) &&& 252645135 = cnt 8 a + 256 * (cnt 8 b + 256 * (cnt 8 c + 256 * cnt 8 d)) := by
    rw [e3, m3, land4 _ _ _ _ _ (by omega) (by omega) (by omega) (by omega), land15, land15, land15, land15, A3.2.2.1, B3.2.2.1, C3.2.2.1, D3.2.2.1]
  have La := cnt_le 8 a
  have Lb := cnt_le 8 b
  have Lc := cnt_le 8 c
  have Ld := cnt_le 8 d
  refine ⟨?_, by rw [f1]; omega, ?_⟩
  · unfold pc
    dsimp only
    rw [f1, f2, f3, f4]
    exact last _ _ _ _ La Lb Lc Ld
  · dsimp only
    rw [f1, f2, f3]
    omega

theorem pc_eq (n : Nat) (h : n < 4294967296) : pc n = cnt 64 n ∧ (n / 2 &&& 1431655765 ≤ n) ∧
    (let x1 := n - (n / 2 &&& 1431655765)
     let x2 := (x1 / 4 &&& 858993459) + (x1 &&& 858993459)
     x2 + x2 / 16 < 4294967296) := by
  have e : n = n % 256 + 256 * (n / 256 % 256 + 256 * (n / 65536 % 256 + 256 * (n / 16777216))) := by omega
  have k := pc_bytes (n % 256) (n / 256 % 256) (n / 65536 % 256) (n / 16777216) (by omega) (by omega) (by omega) (by omega)
  rw [← e] at k
  refine ⟨?_, k.2⟩
  rw [k.1, cnt_more 32 32 n (by omega)]
  conv => rhs; rw [e]
  rw [cnt_8 24 _ _ (by omega), cnt_8 16 _ _ (by omega), cnt_8 8 _ _ (by omega)]
  omega

/-- the same in the walk's own words -/
def pcE (b : Int) : Int :=
  bits .and .u32 ((bits .and .u32 ((b - bits .and .u32 (b / 2) 1431655765) % 4294967296 / 4) 858993459 + bits .and .u32 ((b - bits .and .u32 (b / 2) 1431655765) % 4294967296) 858993459 +
      (bits .and .u32 ((b - bits .and .u32 (b / 2) 1431655765) % 4294967296 / 4) 858993459 + bits .and .u32 ((b - bits .and .u32 (b / 2) 1431655765) % 4294967296) 858993459) % 4294967296 / 16) % 4294967296) 252645135 *
    16843009 % 4294967296 / 16777216

theorem and_u32 (a b : Nat) (A B : Int) (hA : A = (a : Int)) (hB : B = (b : Int)) (ha : a < 4294967296) (hb : b < 4294967296) : bits .and .u32 A B = ((a &&& b : Nat) : Int) := by
  rw [hA, hB]; exact u32_and_nat a b ha hb

theorem pcE_eq (n : Nat) (h : n < 4294967296) : pcE (n : Int) = (cnt 64 n : Int) := by
  obtain ⟨h1, h2, h3⟩ := pc_eq n h
  rw [← h1]
  unfold pcE pc
  dsimp only at h3 ⊢
  generalize hm1 : n / 2 &&& 1431655765 = y1 at *
  have a1 : bits .and .u32 ((n : Int) / 2) 1431655765 = (y1 : Int) := by
    rw [← hm1]; exact and_u32 (n / 2) 1431655765 _ _ (by omega) (by omega) (by omega) (by omega)
  rw [a1]
  have e1 : ((n : Int) - (y1 : Int)) % 4294967296 = ((n - y1 : Nat) : Int) := by omega
  rw [e1]
  generalize n - y1 = x1 at *
  have hx : x1 < 4294967296 := by omega
  generalize hm2 : x1 / 4 &&& 858993459 = y2 at *
  generalize hm3 : x1 &&& 858993459 = y3 at *
  have a2 : bits .and .u32 ((x1 : Int) / 4) 858993459 = (y2 : Int) := by
    rw [← hm2]; exact and_u32 (x1 / 4) 858993459 _ _ (by omega) (by omega) (by omega) (by omega)
  have a3 : bits .and .u32 (x1 : Int) 858993459 = (y3 : Int) := by
    rw [← hm3]; exact and_u32 x1 858993459 _ _ (by omega) (by omega) (by omega) (by omega)
  rw [a2, a3]
  have e20 : ((y2 : Int) + (y3 : Int)) % 4294967296 = ((y2 + y3 : Nat) : Int) := by omega
  have e2 : ((y2 : Int) + (y3 : Int) + ((y2 : Int) + (y3 : Int)) % 4294967296 / 16) % 4294967296 = ((y2 + y3 + (y2 + y3) / 16 : Nat) : Int) := by rw [e20]; omega
  rw [e2]
  generalize y2 + y3 + (y2 + y3) / 16 = x3 at *
  have a4 : bits .and .u32 (x3 : Int) 252645135 = ((x3 &&& 252645135 : Nat) : Int) := and_u32 x3 252645135 _ _ rfl (by omega) (by omega) (by omega)
  rw [a4]
  omega
end Go.Proofs.Ytncpcigbcafghaa.pop
