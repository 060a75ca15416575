/-
  How many bits are set, up to a place; the place of the n-th one: plain facts, no program in sight.
-/
import Derived.Test.YtgndpckcdageiaaBit
import Derived.Test.YtgndpckcdageiaaPop64
namespace Go.Proofs.Ytgndpckcdageiaa.bit
open Go.Proofs.Ytgndpckcdageiaa.pop64

/-- how many bits of words are set below a place -/
def countW (ws : List Nat) (k : Nat) : Nat := ((List.range k).filter (bit ws)).length
theorem countW_zero (ws : List Nat) : countW ws 0 = 0 := rfl
theorem countW_succ (ws : List Nat) (k : Nat) : countW ws (k + 1) = countW ws k + if bit ws k then 1 else 0 := by
  unfold countW
  rw [List.range_succ, List.filter_append, List.length_append, List.filter_cons]
  cases bit ws k <;> simp
theorem cnt_succ (f x : Nat) : cnt (f + 1) x = cnt f x + if x.testBit f then 1 else 0 := by
  rw [cnt_testBit, cnt_testBit, List.range_succ, List.filter_append, List.length_append, List.filter_cons]
  cases x.testBit f <;> simp
theorem countW_word (ws : List Nat) (i r : Nat) (hr : r ≤ 64) : countW ws (64 * i + r) = countW ws (64 * i) + cnt r (ws.getD i 0) := by
  induction r with
  | zero => simp [cnt]
  | succ r ih =>
    rw [← Nat.add_assoc, countW_succ, ih (by omega), cnt_succ]
    have : bit ws (64 * i + r) = (ws.getD i 0).testBit r := by
      unfold bit
      rw [show (64 * i + r) / 64 = i from by omega, show (64 * i + r) % 64 = r from by omega]
    rw [this]
    omega
theorem countW_next (ws : List Nat) (i : Nat) : countW ws (64 * (i + 1)) = countW ws (64 * i) + cnt 64 (ws.getD i 0) := countW_word ws i 64 (Nat.le_refl _)
theorem countW_mono (ws : List Nat) {i j : Nat} (h : i ≤ j) : countW ws i ≤ countW ws j := by
  induction j with
  | zero => have : i = 0 := by omega
            rw [this]; exact Nat.le_refl _
  | succ j ih =>
    by_cases e : i = j + 1
    · rw [e]; exact Nat.le_refl _
    · rw [countW_succ]; have := ih (by omega); omega
theorem countW_le (ws : List Nat) (k : Nat) : countW ws k ≤ k := by
  have := List.length_filter_le (bit ws) (List.range k)
  simpa [countW] using this
/-- the same of truth values -/
theorem countW_ones {ws : List Nat} {b : List Bool} (h : ∀ i, bit ws i = b.getD i false) (k : Nat) : countW ws k = (onesTo b k).length := by
  unfold countW onesTo
  congr 1
  exact List.filter_congr (fun x _ => h x)
theorem onesTo_far (b : List Bool) {k : Nat} (h : b.length ≤ k) : onesTo b k = ones b := by
  induction k with
  | zero => have : b.length = 0 := by omega
            unfold ones; rw [this]
  | succ k ih =>
    by_cases e : b.length = k + 1
    · unfold ones; rw [e]
    · rw [onesTo_no b k (by simp [show b.length ≤ k by omega]), ih (by omega)]
theorem countW_all {ws : List Nat} {b : List Bool} (h : ∀ i, bit ws i = b.getD i false) {k : Nat} (hk : b.length ≤ k) : countW ws k = (ones b).length := by
  rw [countW_ones h, onesTo_far b hk]

/-- the n-th place of those below k -/
theorem onesTo_pre (b : List Bool) {i k : Nat} (h : i ≤ k) : ∃ r, onesTo b k = onesTo b i ++ r := by
  induction k with
  | zero => exact ⟨[], by rw [show i = 0 from by omega]; rfl⟩
  | succ k ih =>
    by_cases e : i = k + 1
    · exact ⟨[], by rw [e]; simp⟩
    · obtain ⟨r, hr⟩ := ih (by omega)
      exact ⟨r ++ if b.getD k false then [k] else [], by rw [onesTo_succ, hr, List.append_assoc]⟩
theorem ones_nth {b : List Bool} {p : Nat} (hp : b.getD p false = true) : (ones b).getD (onesTo b p).length 0 = p := by
  have hl : p < b.length := by
    by_cases h : p < b.length
    · exact h
    · simp [show b.length ≤ p by omega] at hp
  obtain ⟨r, hr⟩ := onesTo_pre b (i := p + 1) (k := b.length) hl
  unfold ones
  rw [hr, onesTo_yes b p hp]
  simp

/-- p is the place of the j-th set bit of w -/
def Nth (w j p : Nat) : Prop := w.testBit p = true ∧ cnt p w = j
theorem Nth.words {ws : List Nat} {i j p : Nat} (h : Nth (ws.getD i 0) j p) (hp : p < 64) : bit ws (64 * i + p) = true ∧ countW ws (64 * i + p) = countW ws (64 * i) + j := by
  refine ⟨?_, ?_⟩
  · unfold bit
    rw [show (64 * i + p) / 64 = i from by omega, show (64 * i + p) % 64 = p from by omega]; exact h.1
  · rw [countW_word _ _ _ (by omega), h.2]
theorem cnt_mod {f k : Nat} (w : Nat) (h : f ≤ k) : cnt f (w % 2 ^ k) = cnt f w := by
  rw [cnt_testBit, cnt_testBit]
  congr 1
  refine List.filter_congr (fun x hx => ?_)
  have hx : x < f := by simpa using hx
  rw [Nat.testBit_mod_two_pow, decide_eq_true (by omega)]; rfl
theorem cnt_low {f k w : Nat} (hw : w < 2 ^ k) (h : k ≤ f) : cnt f w = cnt k w := by
  induction f with
  | zero => rw [show k = 0 from by omega]
  | succ f ih =>
    by_cases e : k = f + 1
    · rw [e]
    · rw [cnt_succ, ih (by omega), Nat.testBit_lt_two_pow (Nat.lt_of_lt_of_le hw (Nat.pow_le_pow_right (by omega) (show k ≤ f by omega)))]; simp
theorem cnt_split (k p w : Nat) : cnt (k + p) w = cnt k w + cnt p (w / 2 ^ k) := by
  induction p with
  | zero => simp [cnt]
  | succ p ih =>
    rw [← Nat.add_assoc, cnt_succ, ih, cnt_succ]
    have : (w / 2 ^ k).testBit p = w.testBit (k + p) := by rw [Nat.testBit_div_two_pow, Nat.add_comm]
    rw [this]; omega
theorem Nth.lo {w j p k : Nat} (h : Nth (w % 2 ^ k) j p) : p < k ∧ Nth w j p := by
  have hp : p < k := by
    have := h.1
    rw [Nat.testBit_mod_two_pow] at this
    simp at this; exact this.1
  refine ⟨hp, ?_, ?_⟩
  · have := h.1
    rw [Nat.testBit_mod_two_pow] at this
    simp at this; exact this.2
  · rw [← h.2, cnt_mod _ (by omega)]
theorem Nth.hi {w j p k : Nat} (h : Nth (w / 2 ^ k) j p) : Nth w (cnt k w + j) (k + p) := by
  refine ⟨?_, ?_⟩
  · have := h.1
    rwa [Nat.testBit_div_two_pow, Nat.add_comm] at this
  · rw [cnt_split, h.2]
end Go.Proofs.Ytgndpckcdageiaa.bit
