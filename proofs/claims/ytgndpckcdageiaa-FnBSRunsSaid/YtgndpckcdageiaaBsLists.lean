/-
  Lists of truth values: a bit inserted, deleted; bits shifted; two lists side by side; masks of words. Plain facts, no program in sight.
-/
import Derived.Test.YtgndpckcdageiaaBit
namespace Go.Proofs.Ytgndpckcdageiaa.bit

theorem getD_take (b : List Bool) (n i : Nat) : (b.take n).getD i false = if i < n then b.getD i false else false := by
  simp only [List.getD_eq_getElem?_getD, List.getElem?_take]
  split <;> simp
theorem getD_drop (b : List Bool) (n i : Nat) : (b.drop n).getD i false = b.getD (n + i) false := by
  simp only [List.getD_eq_getElem?_getD, List.getElem?_drop]
theorem getD_app (a b : List Bool) (i : Nat) : (a ++ b).getD i false = if i < a.length then a.getD i false else b.getD (i - a.length) false := by
  simp only [List.getD_eq_getElem?_getD]
  split
  · rw [List.getElem?_append_left (by assumption)]
  · rw [List.getElem?_append_right (by omega)]
theorem getD_far (b : List Bool) {i : Nat} (h : b.length ≤ i) : b.getD i false = false := by simp [h]

/-- a bit that is not set comes in at a place -/
def insertL (b : List Bool) (i : Nat) : List Bool := b.take i ++ false :: b.drop i
theorem insertL_len (b : List Bool) (i : Nat) (hi : i ≤ b.length) : (insertL b i).length = b.length + 1 := by
  simp [insertL]; omega
theorem insertL_get (b : List Bool) (i j : Nat) (hi : i ≤ b.length) : (insertL b i).getD j false = if j < i then b.getD j false else if j = i then false else b.getD (j - 1) false := by
  unfold insertL
  rw [getD_app, List.length_take, Nat.min_eq_left hi]
  by_cases h : j < i
  · rw [if_pos h, if_pos h, getD_take, if_pos h]
  · rw [if_neg h, if_neg h]
    by_cases e : j = i
    · subst e; rw [if_pos rfl]; simp
    · rw [if_neg e]
      obtain ⟨k, rfl⟩ : ∃ k, j = i + 1 + k := ⟨j - i - 1, by omega⟩
      rw [show i + 1 + k - i = k + 1 from by omega, show i + 1 + k - 1 = i + k from by omega, ← getD_drop b i k]
      rfl
/-- the bit at a place goes out -/
def deleteL (b : List Bool) (i : Nat) : List Bool := b.take i ++ b.drop (i + 1)
theorem deleteL_len (b : List Bool) (i : Nat) (hi : i < b.length) : (deleteL b i).length = b.length - 1 := by
  simp [deleteL]; omega
theorem deleteL_get (b : List Bool) (i j : Nat) (hi : i < b.length) : (deleteL b i).getD j false = if j < i then b.getD j false else b.getD (j + 1) false := by
  unfold deleteL
  rw [getD_app, List.length_take, Nat.min_eq_left (by omega)]
  by_cases h : j < i
  · rw [if_pos h, if_pos h, getD_take, if_pos h]
  · rw [if_neg h, if_neg h, getD_drop, show i + 1 + (j - i) = j + 1 from by omega]
theorem delete_insert (b : List Bool) (i : Nat) (hi : i ≤ b.length) : deleteL (insertL b i) i = b := by
  have hl := insertL_len b i hi
  apply ext_getD
  · rw [deleteL_len _ _ (by omega), hl]; rfl
  · intro j hj
    rw [deleteL_get _ _ _ (by omega), insertL_get _ _ _ hi, insertL_get _ _ _ hi]
    by_cases h : j < i
    · rw [if_pos h, if_pos h]
    · rw [if_neg h, if_neg (by omega), if_neg (by omega)]; rfl

/-- so many bits, those of b so many places further on -/
def shiftL (b : List Bool) (n L : Nat) : List Bool := (List.range L).map fun j => decide (n ≤ j) && b.getD (j - n) false
theorem shiftL_len (b : List Bool) (n L : Nat) : (shiftL b n L).length = L := by simp [shiftL]
theorem shiftL_get (b : List Bool) (n L j : Nat) : (shiftL b n L).getD j false = (decide (j < L) && (decide (n ≤ j) && b.getD (j - n) false)) := by
  by_cases h : j < L
  · simp [shiftL, h]
  · rw [getD_far _ (by rw [shiftL_len]; omega), decide_eq_false h]; rfl
theorem onesTo_low (b : List Bool) (n L : Nat) : ∀ k, k ≤ n → onesTo (shiftL b n L) k = [] := by
  intro k
  induction k with
  | zero => intro _; rfl
  | succ k ih =>
    intro h
    rw [onesTo_no _ _ (by rw [shiftL_get, decide_eq_false (show ¬ n ≤ k by omega)]; simp), ih (by omega)]
theorem onesTo_shift (b : List Bool) (n L : Nat) : ∀ k, n + k ≤ L → onesTo (shiftL b n L) (n + k) = (onesTo b k).map (· + n) := by
  intro k
  induction k with
  | zero => intro _; rw [Nat.add_zero, onesTo_low b n L n (Nat.le_refl _)]; rfl
  | succ k ih =>
    intro h
    have hg : (shiftL b n L).getD (n + k) false = b.getD k false := by
      rw [shiftL_get, decide_eq_true (show n + k < L by omega), decide_eq_true (show n ≤ n + k by omega), show n + k - n = k from by omega]; simp
    rw [← Nat.add_assoc, onesTo_succ, onesTo_succ, ih (by omega), hg, List.map_append]
    cases b.getD k false
    · simp
    · simp; omega
theorem onesTo_end (b : List Bool) {k k' : Nat} (h : k ≤ k') (hz : ∀ i, k ≤ i → b.getD i false = false) : onesTo b k' = onesTo b k := by
  induction k' with
  | zero => rw [show k = 0 from by omega]
  | succ k' ih =>
    by_cases e : k = k' + 1
    · rw [e]
    · rw [onesTo_no _ _ (hz k' (by omega)), ih (by omega)]
/-- top: no bit is set from top on -/
theorem ones_shift (b : List Bool) (n L top : Nat) (ht : ∀ i, top ≤ i → b.getD i false = false) (hL : n + top ≤ L) (htl : top ≤ b.length) : ones (shiftL b n L) = (ones b).map (· + n) := by
  have h1 : ones (shiftL b n L) = onesTo (shiftL b n L) (n + top) := by
    unfold ones
    refine onesTo_end _ (by rw [shiftL_len]; exact hL) (fun i hi => ?_)
    rw [shiftL_get, ht (i - n) (by omega)]; simp
  have h2 : ones b = onesTo b top := onesTo_end b htl ht
  rw [h1, onesTo_shift b n L top hL, h2]

/-- two lists side by side -/
def twoL (op : Bool → Bool → Bool) (a b : List Bool) (n : Nat) : List Bool := (List.range n).map fun i => op (a.getD i false) (b.getD i false)
theorem twoL_len (op : Bool → Bool → Bool) (a b : List Bool) (n : Nat) : (twoL op a b n).length = n := by simp [twoL]
theorem twoL_get (op : Bool → Bool → Bool) (a b : List Bool) (n i : Nat) : (twoL op a b n).getD i false = (decide (i < n) && op (a.getD i false) (b.getD i false)) := by
  by_cases h : i < n
  · simp [twoL, h]
  · rw [getD_far _ (by rw [twoL_len]; omega), decide_eq_false h]; rfl
theorem twoL_far (op : Bool → Bool → Bool) (h0 : op false false = false) (a b : List Bool) (n i : Nat) (hn : a.length ≤ n ∧ b.length ≤ n) : (twoL op a b n).getD i false = op (a.getD i false) (b.getD i false) := by
  rw [twoL_get]
  by_cases h : i < n
  · simp [h]
  · rw [getD_far a (by omega), getD_far b (by omega), h0]; simp
/-- a longer list of truth values has the same places -/
theorem ones_same {a b : List Bool} (h : ∀ i, a.getD i false = b.getD i false) : ones a = ones b := by
  have e : ∀ k, onesTo a k = onesTo b k := fun k => by
    unfold onesTo
    exact List.filter_congr (fun x _ => h x)
  have f : ∀ (c : List Bool) (k : Nat), c.length ≤ k → onesTo c k = ones c := fun c k hk => onesTo_end c hk (fun i hi => getD_far c hi)
  rw [← f a (max a.length b.length) (by omega), ← f b (max a.length b.length) (by omega), e]

/-! ### masks -/
theorem all_bit (k : Nat) : (18446744073709551615 : Nat).testBit k = decide (k < 64) := by
  rw [show (18446744073709551615 : Nat) = 2 ^ 64 - 1 from by decide, Nat.testBit_two_pow_sub_one]
theorem hi_bit (r k : Nat) (hk : k < 64) : (18446744073709551615 * 2 ^ r % 18446744073709551616).testBit k = decide (r ≤ k) := by
  rw [show (18446744073709551616 : Nat) = 2 ^ 64 from by decide, Nat.testBit_mod_two_pow, decide_eq_true hk, ← Nat.shiftLeft_eq, Nat.testBit_shiftLeft, all_bit]
  by_cases h : r ≤ k
  · simp [h]; omega
  · simp [h]
theorem lo_bit (r k : Nat) : (18446744073709551615 / 2 ^ r).testBit k = decide (r + k < 64) := by
  rw [Nat.testBit_div_two_pow, all_bit, Nat.add_comm]
theorem ones_bit {k n : Nat} : (2 ^ n - 1).testBit k = decide (k < n) := Nat.testBit_two_pow_sub_one ..
theorem lt64_hi (r : Nat) : Lt64 (18446744073709551615 * 2 ^ r % 18446744073709551616) := by unfold Lt64; exact Nat.mod_lt _ (by omega)
theorem lt64_lo (r : Nat) : Lt64 (18446744073709551615 / 2 ^ r) := Nat.lt_of_le_of_lt (Nat.div_le_self _ _) (by omega)
theorem lt64_all : Lt64 18446744073709551615 := by unfold Lt64; omega
/-- what is not set -/
def inv (x : Nat) : Nat := 18446744073709551615 - x
theorem lt64_inv (x : Nat) : Lt64 (inv x) := by unfold Lt64 inv; omega
theorem inv_bit {x k : Nat} (hx : Lt64 x) (hk : k < 64) : (inv x).testBit k = !x.testBit k := by
  rw [lt64_iff] at hx
  unfold inv
  rw [show 18446744073709551615 - x = 2 ^ 64 - (x + 1) from by omega, Nat.testBit_two_pow_sub_succ hx, decide_eq_true hk, Bool.true_and]
end Go.Proofs.Ytgndpckcdageiaa.bit
