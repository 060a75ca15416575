/-
  Bits in words, the places of the bits that are set: plain facts, no program in sight.
-/
import Derived.WalkKit
namespace Go.Proofs.Ytgndpckcdageiaa.bit

/-- a number of 64 bits -/
def Lt64 (x : Nat) : Prop := x < 18446744073709551616
theorem lt64_iff (x : Nat) : Lt64 x ↔ x < 2 ^ 64 := by unfold Lt64; rw [show (2 : Nat) ^ 64 = 18446744073709551616 from by decide]
theorem lt64_or {x y : Nat} (h : Lt64 x) (k : Lt64 y) : Lt64 (x ||| y) := by rw [lt64_iff] at *; exact Nat.or_lt_two_pow h k
theorem lt64_and {x y : Nat} (h : Lt64 x) : Lt64 (x &&& y) := Nat.lt_of_le_of_lt Nat.and_le_left h
theorem lt64_xor {x y : Nat} (h : Lt64 x) (k : Lt64 y) : Lt64 (x ^^^ y) := by rw [lt64_iff] at *; exact Nat.xor_lt_two_pow h k
theorem lt64_pow {k : Nat} (h : k < 64) : Lt64 (2 ^ k) := by rw [lt64_iff]; exact Nat.pow_lt_pow_right (by omega) h
theorem lt64_zero : Lt64 0 := by unfold Lt64; omega
theorem lt64_div {x y : Nat} (h : Lt64 x) : Lt64 (x / y) := Nat.lt_of_le_of_lt (Nat.div_le_self _ _) h

/-- every word has 64 bits -/
def Ok (ws : List Nat) : Prop := ∀ x ∈ ws, Lt64 x
theorem Ok.at {ws : List Nat} (h : Ok ws) (i : Nat) : Lt64 (ws.getD i 0) := by
  by_cases hi : i < ws.length
  · rw [show ws.getD i 0 = ws[i] from by simp [hi]]; exact h _ (List.getElem_mem hi)
  · rw [show ws.getD i 0 = 0 from by simp [Nat.le_of_not_lt hi]]; exact lt64_zero
theorem Ok.set {ws : List Nat} (h : Ok ws) (i : Nat) {x : Nat} (hx : Lt64 x) : Ok (ws.set i x) := by
  intro y hy
  rcases List.mem_or_eq_of_mem_set hy with hy | rfl
  · exact h y hy
  · exact hx
theorem Ok.append {l r : List Nat} (h : Ok l) (k : Ok r) : Ok (l ++ r) := fun x hx => (List.mem_append.1 hx).elim (h x) (k x)
theorem Ok.take {l : List Nat} (h : Ok l) (n : Nat) : Ok (l.take n) := fun x hx => h x (List.mem_of_mem_take hx)
theorem Ok.drop {l : List Nat} (h : Ok l) (n : Nat) : Ok (l.drop n) := fun x hx => h x (List.mem_of_mem_drop hx)
theorem Ok.zeros (n : Nat) : Ok (List.replicate n 0) := fun x hx => by rw [List.eq_of_mem_replicate hx]; exact lt64_zero

/-- bit i of words -/
def bit (ws : List Nat) (i : Nat) : Bool := (ws.getD (i / 64) 0).testBit (i % 64)

theorem bit_far (ws : List Nat) (i : Nat) (h : 64 * ws.length ≤ i) : bit ws i = false := by
  unfold bit
  rw [show ws.getD (i / 64) 0 = 0 from by simp only [List.getD_eq_getElem?_getD]; rw [List.getElem?_eq_none (by omega)]; rfl]
  simp
theorem bit_zeros (n i : Nat) : bit (List.replicate n 0) i = false := by
  unfold bit
  have : (List.replicate n 0).getD (i / 64) 0 = 0 := by
    simp only [List.getD_eq_getElem?_getD, List.getElem?_replicate]
    split <;> rfl
  rw [this]; simp
theorem testBit_far {x k : Nat} (h : Lt64 x) (hk : 64 ≤ k) : x.testBit k = false := by
  rw [lt64_iff] at h
  exact Nat.testBit_lt_two_pow (Nat.lt_of_lt_of_le h (Nat.pow_le_pow_right (by omega) hk))

theorem getD_set (ws : List Nat) (k j x : Nat) : (ws.set k x).getD j 0 = if k = j ∧ j < ws.length then x else ws.getD j 0 := by
  simp only [List.getD_eq_getElem?_getD, List.getElem?_set]
  by_cases h : k = j
  · subst h
    by_cases h2 : k < ws.length <;> simp [h2]
  · simp [h]

/-- a word is written -/
theorem bit_set (ws : List Nat) (k x i : Nat) (hk : k < ws.length) : bit (ws.set k x) i = if i / 64 = k then x.testBit (i % 64) else bit ws i := by
  unfold bit
  rw [getD_set]
  by_cases h : i / 64 = k
  · subst h; rw [if_pos ⟨rfl, hk⟩, if_pos rfl]
  · rw [if_neg (fun hh => h hh.1.symm), if_neg h]

theorem tb_pow (k j : Nat) : (2 ^ k).testBit j = decide (k = j) := Nat.testBit_two_pow

theorem bit_or (ws : List Nat) (i j : Nat) (hi : i / 64 < ws.length) : bit (ws.set (i / 64) (ws.getD (i / 64) 0 ||| 2 ^ (i % 64))) j = (bit ws j || decide (j = i)) := by
  rw [bit_set _ _ _ _ hi]
  by_cases h : j / 64 = i / 64
  · rw [if_pos h, Nat.testBit_or, tb_pow]
    unfold bit
    rw [h]
    congr 1
    by_cases h2 : j = i
    · subst h2; simp
    · have : i % 64 ≠ j % 64 := by omega
      simp [h2, this]
  · rw [if_neg h]
    have : j ≠ i := by intro e; subst e; exact h rfl
    simp [this]

theorem and_pow (w k : Nat) : (w &&& 2 ^ k = 0) = (w.testBit k = false) := by
  rw [nat_bit]
  have h := Nat.testBit_eq_decide_div_mod_eq (x := w) (i := k)
  have hp : 0 < 2 ^ k := Nat.pow_pos (by omega)
  have hx : w / 2 ^ k % 2 = 0 ∨ w / 2 ^ k % 2 = 1 := by omega
  rcases hx with hx | hx
  · simp [h, hx]
  · rw [hx, h, hx]; simp

/-- the places below k of the bits that are set -/
def onesTo (b : List Bool) (k : Nat) : List Nat := (List.range k).filter fun i => b.getD i false
def ones (b : List Bool) : List Nat := onesTo b b.length

theorem onesTo_succ (b : List Bool) (k : Nat) : onesTo b (k + 1) = onesTo b k ++ if b.getD k false then [k] else [] := by
  unfold onesTo
  rw [List.range_succ, List.filter_append]
  rw [List.filter_cons]
  cases b.getD k false <;> rfl
theorem onesTo_yes (b : List Bool) (k : Nat) (h : b.getD k false = true) : onesTo b (k + 1) = onesTo b k ++ [k] := by rw [onesTo_succ, h]; rfl
theorem onesTo_no (b : List Bool) (k : Nat) (h : b.getD k false = false) : onesTo b (k + 1) = onesTo b k := by rw [onesTo_succ, h]; simp
theorem onesTo_zero (b : List Bool) : onesTo b 0 = [] := rfl
theorem onesTo_le (b : List Bool) (k : Nat) : (onesTo b k).length ≤ k := by
  have := List.length_filter_le (fun i => b.getD i false) (List.range k)
  simpa [onesTo] using this
theorem ones_le (b : List Bool) : (ones b).length ≤ b.length := onesTo_le b _
theorem mem_onesTo {b : List Bool} {k i : Nat} : i ∈ onesTo b k ↔ i < k ∧ b.getD i false = true := by simp [onesTo]
theorem mem_ones {b : List Bool} {i : Nat} : i ∈ ones b ↔ i < b.length ∧ b.getD i false = true := mem_onesTo
theorem ones_lt {b : List Bool} {i : Nat} (h : i ∈ ones b) : i < b.length := (mem_ones.1 h).1
theorem ones_inj {a b : List Bool} (hl : a.length = b.length) (h : ones a = ones b) : a = b := by
  apply List.ext_getElem?
  intro i
  by_cases hi : i < a.length
  · have h1 : i ∈ ones a ↔ i ∈ ones b := by rw [h]
    rw [mem_ones, mem_ones] at h1
    have ha : a.getD i false = a[i] := by simp [hi]
    have hb : b.getD i false = b[i]'(by omega) := by simp [show i < b.length by omega]
    rw [List.getElem?_eq_getElem hi, List.getElem?_eq_getElem (show i < b.length by omega)]
    congr 1
    rw [ha, hb] at h1
    cases h2 : a[i] <;> cases h3 : b[i]'(by omega) <;> simp_all <;> omega
  · rw [List.getElem?_eq_none (by omega), List.getElem?_eq_none (by omega)]
theorem ones_nil {b : List Bool} (h : ∀ i, i < b.length → b.getD i false = false) : ones b = [] := by
  apply List.eq_nil_iff_forall_not_mem.2
  intro i hi
  have := mem_ones.1 hi
  rw [h i this.1] at this
  simp at this

/-- n bits, those in l set -/
def marks (n : Nat) (l : List Nat) : List Bool := (List.range n).map fun i => decide (i ∈ l)
theorem marks_length (n : Nat) (l : List Nat) : (marks n l).length = n := by simp [marks]
theorem marks_get (n : Nat) (l : List Nat) (i : Nat) : (marks n l).getD i false = decide (i < n ∧ i ∈ l) := by
  unfold marks
  simp only [List.getD_eq_getElem?_getD, List.getElem?_map]
  by_cases h : i < n
  · rw [List.getElem?_range h]; simp [h]
  · rw [List.getElem?_eq_none (by simpa using Nat.le_of_not_lt h)]; simp [h]
theorem marks_ones (b : List Bool) : marks b.length (ones b) = b := by
  apply List.ext_getElem?
  intro i
  by_cases hi : i < b.length
  · have h1 := marks_get b.length (ones b) i
    rw [List.getElem?_eq_getElem hi, List.getElem?_eq_getElem (by rw [marks_length]; exact hi)]
    congr 1
    have h2 : (marks b.length (ones b)).getD i false = (marks b.length (ones b))[i]'(by rw [marks_length]; exact hi) := by simp [marks_length, hi]
    have h3 : b.getD i false = b[i] := by simp [hi]
    rw [← h2, h1, ← h3]
    cases hb : b.getD i false
    · have : ¬ (i < b.length ∧ i ∈ ones b) := fun h => by have := (mem_ones.1 h.2).2; rw [hb] at this; cases this
      simp [this]
    · have : i < b.length ∧ i ∈ ones b := ⟨hi, mem_ones.2 ⟨hi, hb⟩⟩
      simp [this]
  · rw [List.getElem?_eq_none (by rw [marks_length]; omega), List.getElem?_eq_none (by omega)]
theorem ext_getD {a b : List Bool} (hl : a.length = b.length) (h : ∀ i, i < a.length → a.getD i false = b.getD i false) : a = b := by
  apply List.ext_getElem?
  intro i
  by_cases hi : i < a.length
  · have := h i hi
    rw [List.getElem?_eq_getElem hi, List.getElem?_eq_getElem (show i < b.length by omega)]
    congr 1
    simpa [hi, show i < b.length by omega] using this
  · rw [List.getElem?_eq_none (by omega), List.getElem?_eq_none (by omega)]
end Go.Proofs.Ytgndpckcdageiaa.bit
