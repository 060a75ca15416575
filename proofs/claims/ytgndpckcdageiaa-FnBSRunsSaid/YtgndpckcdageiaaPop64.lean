/-
  Counting the bits of a number of 64 bits, side by side in its fields, is counting them one by one. No program in sight.
-/
import Derived.WalkKit
namespace Go.Proofs.Ytgndpckcdageiaa.pop64

/-- how many of the lowest f bits of b are set -/
def cnt : Nat → Nat → Nat
  | 0, _ => 0
  | f + 1, b => b % 2 + cnt f (b / 2)

theorem cnt_zero (f : Nat) : cnt f 0 = 0 := by
  induction f with
  | zero => rfl
  | succ f ih => simp [cnt, ih]
theorem cnt_le (f b : Nat) : cnt f b ≤ f := by
  induction f generalizing b with
  | zero => simp [cnt]
  | succ f ih => have := ih (b / 2); simp only [cnt]; omega
theorem cnt_8 (g a c : Nat) (ha : a < 256) : cnt (g + 8) (a + 256 * c) = cnt 8 a + cnt g c := by
  rw [show g + 8 = g + 1 + 1 + 1 + 1 + 1 + 1 + 1 + 1 from rfl, show (8 : Nat) = 0 + 1 + 1 + 1 + 1 + 1 + 1 + 1 + 1 from rfl]
  simp only [cnt]
  rw [show (a + 256 * c) / 2 / 2 / 2 / 2 / 2 / 2 / 2 / 2 = c from by omega]
  omega
/-- bit by bit -/
theorem cnt_testBit (f b : Nat) : cnt f b = ((List.range f).filter fun k => b.testBit k).length := by
  induction f generalizing b with
  | zero => rfl
  | succ f ih =>
    rw [cnt, ih, List.range_succ_eq_map, List.filter_cons, List.filter_map]
    have h0 : b.testBit 0 = decide (b % 2 = 1) := Nat.testBit_zero b
    have hm : ((fun k => b.testBit k) ∘ Nat.succ) = fun k => (b / 2).testBit k := by
      funext k
      show b.testBit (k + 1) = _
      rw [Nat.testBit_succ]
    rw [hm, h0]
    by_cases h : b % 2 = 1
    · simp [h]; omega
    · have : b % 2 = 0 := by omega
      simp [this]

/-- bytes make a number, the lowest one first -/
def comb : List Nat → Nat
  | [] => 0
  | b :: r => b + 256 * comb r
def Bytes (l : List Nat) : Prop := ∀ b ∈ l, b < 256

theorem land_split (a c m k : Nat) (ha : a < 256) (hm : m < 256) : (a + 256 * c) &&& (m + 256 * k) = (a &&& m) + 256 * (c &&& k) := by
  have e1 : a + 256 * c = 2 ^ 8 * c + a := by omega
  have e2 : m + 256 * k = 2 ^ 8 * k + m := by omega
  have hlt : a &&& m < 2 ^ 8 := Nat.lt_of_le_of_lt Nat.and_le_left (by omega)
  have e3 : (a &&& m) + 256 * (c &&& k) = 2 ^ 8 * (c &&& k) + (a &&& m) := by omega
  rw [e1, e2, e3]
  apply Nat.eq_of_testBit_eq
  intro i
  have ha' : a < 2 ^ 8 := by omega
  have hm' : m < 2 ^ 8 := by omega
  rw [Nat.testBit_and, Nat.testBit_two_pow_mul_add _ ha', Nat.testBit_two_pow_mul_add _ hm', Nat.testBit_two_pow_mul_add _ hlt]
  split <;> simp [Nat.testBit_and]

def p1 (b : Nat) : Nat := (b / 2 &&& 85) + (b &&& 85)
def p2 (b : Nat) : Nat := (b / 4 &&& 51) + (b &&& 51)
set_option maxRecDepth 100000 in
theorem byte1 : ∀ b : Fin 256, ∀ t : Fin 2, (b.val / 2 + 128 * t.val) &&& 85 = b.val / 2 &&& 85 := by decide +kernel
set_option maxRecDepth 100000 in
theorem byte2 : ∀ b : Fin 256, ∀ t : Fin 4, (b.val / 4 + 64 * t.val) &&& 51 = b.val / 4 &&& 51 := by decide +kernel
set_option maxRecDepth 100000 in
theorem byte3 : ∀ b : Fin 256, p1 b.val < 256 ∧ p2 (p1 b.val) % 16 ≤ 4 ∧ p2 (p1 b.val) ≤ 68 ∧ (p2 (p1 b.val) / 16 + p2 (p1 b.val)) % 16 = cnt 8 b.val := by decide +kernel

theorem step1 : ∀ l, Bytes l → (comb l / 2 &&& comb (l.map fun _ => 85)) + (comb l &&& comb (l.map fun _ => 85)) = comb (l.map p1) := by
  intro l
  induction l with
  | nil => intro _; rfl
  | cons b r ih =>
    intro h
    have hb : b < 256 := h b (by simp)
    have ih := ih (fun x hx => h x (by simp [hx]))
    simp only [comb, List.map_cons]
    have e : (b + 256 * comb r) / 2 = (b / 2 + 128 * (comb r % 2)) + 256 * (comb r / 2) := by omega
    have B := byte1 ⟨b, hb⟩ ⟨comb r % 2, by omega⟩
    dsimp only at B
    rw [e, land_split _ _ _ _ (by omega) (by omega), land_split _ _ _ _ hb (by omega), B, ← ih]
    unfold p1
    omega
theorem step2 : ∀ l, Bytes l → (comb l / 4 &&& comb (l.map fun _ => 51)) + (comb l &&& comb (l.map fun _ => 51)) = comb (l.map p2) := by
  intro l
  induction l with
  | nil => intro _; rfl
  | cons b r ih =>
    intro h
    have hb : b < 256 := h b (by simp)
    have ih := ih (fun x hx => h x (by simp [hx]))
    simp only [comb, List.map_cons]
    have e : (b + 256 * comb r) / 4 = (b / 4 + 64 * (comb r % 4)) + 256 * (comb r / 4) := by omega
    have B := byte2 ⟨b, hb⟩ ⟨comb r % 4, by omega⟩
    dsimp only at B
    rw [e, land_split _ _ _ _ (by omega) (by omega), land_split _ _ _ _ hb (by omega), B, ← ih]
    unfold p2
    omega
theorem land15 (x r : Nat) : (x + 16 * r) &&& 15 = x % 16 := by
  have : (15 : Nat) = 2 ^ 4 - 1 := rfl
  rw [this, Nat.and_two_pow_sub_one_eq_mod]; omega
theorem step3 : ∀ l, Bytes l → (comb (l.map fun b => p2 (p1 b)) / 16 + comb (l.map fun b => p2 (p1 b))) &&& comb (l.map fun _ => 15) = comb (l.map (cnt 8)) := by
  intro l
  induction l with
  | nil => intro _; rfl
  | cons b r ih =>
    intro h
    have hb : b < 256 := h b (by simp)
    have ih := ih (fun x hx => h x (by simp [hx]))
    simp only [comb, List.map_cons]
    have B := byte3 ⟨b, hb⟩
    dsimp only at B
    obtain ⟨-, B1, B2, B3⟩ := B
    have t4 : comb (r.map fun b => p2 (p1 b)) % 16 ≤ 4 := by
      cases r with
      | nil => simp [comb]
      | cons b' r' =>
        have B' := byte3 ⟨b', h b' (by simp)⟩
        dsimp only at B'
        simp only [comb, List.map_cons]
        omega
    have e : (p2 (p1 b) + 256 * comb (r.map fun b => p2 (p1 b))) / 16 + (p2 (p1 b) + 256 * comb (r.map fun b => p2 (p1 b))) =
        ((p2 (p1 b) / 16 + p2 (p1 b)) + 16 * (comb (r.map fun b => p2 (p1 b)) % 16)) + 256 * (comb (r.map fun b => p2 (p1 b)) / 16 + comb (r.map fun b => p2 (p1 b))) := by omega
    rw [e, land_split _ _ _ _ (by omega) (by omega), land15, B3, ih]

/-- the number that the Go text comes to -/
def pc (x : Nat) : Nat :=
  let x1 := (x / 2 &&& 6148914691236517205) + (x &&& 6148914691236517205)
  let x2 := (x1 / 4 &&& 3689348814741910323) + (x1 &&& 3689348814741910323)
  let x3 := (x2 / 16 + x2) &&& 1085102592571150095
  let x4 := x3 + x3 / 256
  let x5 := x4 + x4 / 65536
  let x6 := x5 + x5 / 4294967296
  x6 % 128

theorem comb_div (b : Nat) (r : List Nat) (hb : b < 256) : comb (b :: r) / 256 = comb r := by
  show (b + 256 * comb r) / 256 = comb r
  generalize comb r = y
  omega
theorem comb_lt : ∀ l, Bytes l → comb l < 256 ^ l.length := by
  intro l
  induction l with
  | nil => intro _; simp [comb]
  | cons b r ih =>
    intro h
    have hb : b < 256 := h b (by simp)
    have ih := ih (fun x hx => h x (by simp [hx]))
    show b + 256 * comb r < 256 ^ (r.length + 1)
    rw [Nat.pow_succ]
    generalize 256 ^ r.length = y at *
    omega
/-- the bytes of a number -/
def byt : Nat → Nat → List Nat
  | 0, _ => []
  | n + 1, x => x % 256 :: byt n (x / 256)
theorem byt_bytes (n : Nat) : ∀ x, Bytes (byt n x) := by
  induction n with
  | zero => intro x b hb; simp [byt] at hb
  | succ n ih =>
    intro x b hb
    rcases List.mem_cons.1 hb with rfl | hb
    · exact Nat.mod_lt _ (by omega)
    · exact ih _ b hb
theorem byt_comb (n : Nat) : ∀ x, x < 256 ^ n → comb (byt n x) = x := by
  induction n with
  | zero => intro x hx; simp at hx; simp [byt, comb, hx]
  | succ n ih =>
    intro x hx
    rw [Nat.pow_succ] at hx
    show x % 256 + 256 * comb (byt n (x / 256)) = x
    rw [ih _ (by generalize 256 ^ n = y at *; omega)]
    omega
theorem cnt_byt (n : Nat) : ∀ x, x < 256 ^ n → cnt (8 * n) x = ((byt n x).map (cnt 8)).sum := by
  induction n with
  | zero => intro x hx; rfl
  | succ n ih =>
    intro x hx
    rw [Nat.pow_succ] at hx
    have e : x = x % 256 + 256 * (x / 256) := by omega
    show _ = (cnt 8 (x % 256) :: (byt n (x / 256)).map (cnt 8)).sum
    rw [List.sum_cons, ← ih (x / 256) (by generalize 256 ^ n = y at *; omega), show 8 * (n + 1) = 8 * n + 8 from by omega]
    conv => lhs; rw [e]
    exact cnt_8 _ _ _ (by omega)
theorem byt_8 (x : Nat) : ∃ a b c d e f g h, byt 8 x = [a, b, c, d, e, f, g, h] := ⟨_, _, _, _, _, _, _, _, rfl⟩
theorem div_65536 (b c : Nat) (r : List Nat) (hb : b < 256) (hc : c < 256) : comb (b :: c :: r) / 65536 = comb r := by
  rw [show 65536 = 256 * 256 from rfl, ← Nat.div_div_eq_div_mul, comb_div _ _ hb, comb_div _ _ hc]
theorem tail (a b c d e f g h : Nat) (ha : a ≤ 8) (hb : b ≤ 8) (hc : c ≤ 8) (hd : d ≤ 8) (he : e ≤ 8) (hf : f ≤ 8) (hg : g ≤ 8) (hh : h ≤ 8) (x3 : Nat) (hx : x3 = comb [a, b, c, d, e, f, g, h]) :
    (let x4 := x3 + x3 / 256
     let x5 := x4 + x4 / 65536
     let x6 := x5 + x5 / 4294967296
     x6 % 128 = a + b + c + d + e + f + g + h ∧ x4 < 18446744073709551616 ∧ x5 < 18446744073709551616 ∧ x6 < 18446744073709551616) := by
  dsimp only
  rw [hx, comb_div _ _ (by omega)]
  have e4 : comb [a, b, c, d, e, f, g, h] + comb [b, c, d, e, f, g, h] = comb [a + b, b + c, c + d, d + e, e + f, f + g, g + h, h] := by simp only [comb]; omega
  rw [e4, div_65536 _ _ _ (by omega) (by omega)]
  have e5 : comb [a + b, b + c, c + d, d + e, e + f, f + g, g + h, h] + comb [c + d, d + e, e + f, f + g, g + h, h] = comb [a + b + (c + d), b + c + (d + e), c + d + (e + f), d + e + (f + g), e + f + (g + h), f + g + h, g + h, h] := by simp only [comb]; omega
  rw [e5, show 4294967296 = 65536 * 65536 from rfl, ← Nat.div_div_eq_div_mul, div_65536 _ _ _ (by omega) (by omega), div_65536 _ _ _ (by omega) (by omega)]
  have e6 : comb [a + b + (c + d), b + c + (d + e), c + d + (e + f), d + e + (f + g), e + f + (g + h), f + g + h, g + h, h] + comb [e + f + (g + h), f + g + h, g + h, h] =
      comb [a + b + (c + d) + (e + f + (g + h)), b + c + (d + e) + (f + g + h), c + d + (e + f) + (g + h), d + e + (f + g) + h, e + f + (g + h), f + g + h, g + h, h] := by simp only [comb]; omega
  rw [e6]
  have bd : ∀ l : List Nat, l.length = 8 → Bytes l → comb l < 18446744073709551616 := fun l hl hb => by
    have := comb_lt l hb
    rw [hl] at this
    exact this
  refine ⟨?_, bd _ rfl ?_, bd _ rfl ?_, bd _ rfl ?_⟩
  · generalize hR : comb [b + c + (d + e) + (f + g + h), c + d + (e + f) + (g + h), d + e + (f + g) + h, e + f + (g + h), f + g + h, g + h, h] = R
    have : comb [a + b + (c + d) + (e + f + (g + h)), b + c + (d + e) + (f + g + h), c + d + (e + f) + (g + h), d + e + (f + g) + h, e + f + (g + h), f + g + h, g + h, h] = (a + b + (c + d) + (e + f + (g + h))) + 256 * R := by rw [← hR]; rfl
    rw [this]
    omega
  all_goals
    intro x hx
    simp only [List.mem_cons, List.not_mem_nil, or_false] at hx
    rcases hx with rfl | rfl | rfl | rfl | rfl | rfl | rfl | rfl <;> omega

theorem pc_eq (x : Nat) (h : x < 18446744073709551616) : pc x = cnt 64 x ∧
    (let x1 := (x / 2 &&& 6148914691236517205) + (x &&& 6148914691236517205)
     let x2 := (x1 / 4 &&& 3689348814741910323) + (x1 &&& 3689348814741910323)
     let x3 := (x2 / 16 + x2) &&& 1085102592571150095
     let x4 := x3 + x3 / 256
     let x5 := x4 + x4 / 65536
     x1 < 18446744073709551616 ∧ x2 < 18446744073709551616 ∧ x2 / 16 + x2 < 18446744073709551616 ∧ x4 < 18446744073709551616 ∧ x5 < 18446744073709551616 ∧ x5 + x5 / 4294967296 < 18446744073709551616) := by
  have hx8 : x < 256 ^ 8 := h
  have hB := byt_bytes 8 x
  have hxc := byt_comb 8 x hx8
  have hcn := cnt_byt 8 x hx8
  obtain ⟨a, b, c, d, e, f, g, i, hl⟩ := byt_8 x
  rw [hl] at hB hxc hcn
  have s1 := step1 _ hB
  have hB1 : Bytes ([a, b, c, d, e, f, g, i].map p1) := by
    intro b hb
    obtain ⟨c, hc, rfl⟩ := List.mem_map.1 hb
    exact (byte3 ⟨c, hB c hc⟩).1
  have s2 := step2 _ hB1
  have s3 := step3 _ hB
  rw [hxc] at s1
  rw [← s1, List.map_map, List.map_map] at s2
  have c1 : comb ([a, b, c, d, e, f, g, i].map fun _ => 85) = 6148914691236517205 := by simp [comb]
  have c2 : comb ([a, b, c, d, e, f, g, i].map ((fun _ => 51) ∘ p1)) = 3689348814741910323 := by simp [comb]
  have c3 : comb ([a, b, c, d, e, f, g, i].map fun _ => 15) = 1085102592571150095 := by simp [comb]
  rw [c1] at s1 s2
  rw [c2] at s2
  have hs : (p2 ∘ p1) = fun b => p2 (p1 b) := rfl
  rw [hs] at s2
  have bd : ∀ l : List Nat, l.length = 8 → Bytes l → comb l < 18446744073709551616 := fun l hl hb => by
    have := comb_lt l hb
    rw [hl] at this
    exact this
  have l1 : comb ([a, b, c, d, e, f, g, i].map p1) < 18446744073709551616 := bd _ rfl hB1
  have l2 : comb ([a, b, c, d, e, f, g, i].map fun b => p2 (p1 b)) / 16 + comb ([a, b, c, d, e, f, g, i].map fun b => p2 (p1 b)) < 18446744073709551616 := by
    have h68 : ∀ z ∈ [a, b, c, d, e, f, g, i], p2 (p1 z) ≤ 68 := fun z hz => (byte3 ⟨z, hB z hz⟩).2.2.1
    have hlt : comb ([a, b, c, d, e, f, g, i].map fun b => p2 (p1 b)) ≤ 4919131752989213764 := by
      simp only [List.mem_cons, List.not_mem_nil, or_false, forall_eq_or_imp, forall_eq] at h68
      simp only [comb, List.map_cons, List.map_nil]
      omega
    omega
  rw [← s2] at l2 s3
  rw [c3] at s3
  rw [← s1] at l1
  have tl := tail (cnt 8 a) (cnt 8 b) (cnt 8 c) (cnt 8 d) (cnt 8 e) (cnt 8 f) (cnt 8 g) (cnt 8 i) (cnt_le _ _) (cnt_le _ _) (cnt_le _ _) (cnt_le _ _) (cnt_le _ _) (cnt_le _ _) (cnt_le _ _) (cnt_le _ _) _ s3
  have hsum : cnt 64 x = cnt 8 a + cnt 8 b + cnt 8 c + cnt 8 d + cnt 8 e + cnt 8 f + cnt 8 g + cnt 8 i := by
    rw [show (64 : Nat) = 8 * 8 from rfl, hcn]
    simp only [List.map_cons, List.map_nil, List.sum_cons, List.sum_nil]
    omega
  dsimp only at tl
  refine ⟨?_, ?_⟩
  · unfold pc
    dsimp only
    rw [tl.1, hsum]
  · dsimp only
    exact ⟨l1, by omega, l2, tl.2.1, tl.2.2.1, tl.2.2.2⟩
end Go.Proofs.Ytgndpckcdageiaa.pop64
