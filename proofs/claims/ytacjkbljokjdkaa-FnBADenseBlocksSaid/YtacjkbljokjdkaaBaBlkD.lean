/-
  The blocks that a dense array lists, by its bits.
-/
import Derived.Test.YtacjkbljokjdkaaBaBlk
import Derived.Test.YtacjkbljokjdkaaBaBlkW
namespace Go.Proofs.Ytacjkbljokjdkaa.ba
open Go.RowKit Go.Proofs.Ytacjkbljokjdkaa.base Go.Proofs.Ytacjkbljokjdkaa.heap Go.Proofs.Ytacjkbljokjdkaa.rows Go.Proofs.Ytacjkbljokjdkaa.bit Go.Proofs.Ytacjkbljokjdkaa.bs
set_option linter.unusedVariables false
/-- d blocks from j0 on, of any words -/
def BLf (f : Nat → Nat) (j0 : Nat) : Nat → List Nat
  | 0 => []
  | d + 1 => BLf f j0 d ++ [j0 + d, f (j0 + d)]
theorem BLf_len (f : Nat → Nat) (j0 : Nat) : ∀ d, (BLf f j0 d).length = 2 * d
  | 0 => rfl
  | d + 1 => by show (BLf f j0 d ++ _).length = _; rw [List.length_append, BLf_len f j0 d]; simp; omega
theorem BL_BLf {ws : List Nat} {f : Nat → Nat} (h : ∀ j, wf ws j = f j) (j0 : Nat) : ∀ d, BL ws j0 d = BLf f j0 d
  | 0 => rfl
  | d + 1 => by show BL ws j0 d ++ _ = BLf f j0 d ++ _; rw [BL_BLf h j0 d, h]
theorem BLf_at (f : Nat → Nat) (j0 : Nat) : ∀ {d k : Nat}, k < d → (BLf f j0 d)[2 * k]? = some (j0 + k) ∧ (BLf f j0 d)[2 * k + 1]? = some (f (j0 + k))
  | 0, k, h => absurd h (by omega)
  | d + 1, k, h => by
    have hl := BLf_len f j0 d
    show (BLf f j0 d ++ _)[2 * k]? = _ ∧ (BLf f j0 d ++ _)[2 * k + 1]? = _
    rcases Nat.lt_or_ge k d with h1 | h1
    · obtain ⟨h2, h3⟩ := BLf_at f j0 h1
      rw [List.getElem?_append_left (by omega), List.getElem?_append_left (by omega)]
      exact ⟨h2, h3⟩
    · obtain rfl : k = d := by omega
      rw [List.getElem?_append_right (by omega), List.getElem?_append_right (by omega), hl, Nat.sub_self, show 2 * k + 1 - 2 * k = 1 by omega]
      exact ⟨rfl, rfl⟩
/-- words are told by their bits -/
theorem words_eq {f g : Nat → Nat} {l : List Nat} (hf : ∀ j, Lt64 (f j)) (hg : ∀ j, Lt64 (g j)) (r1 : Rep f l) (r2 : Rep g l) (j : Nat) : f j = g j := by
  apply Nat.eq_of_testBit_eq
  intro i
  rcases Nat.lt_or_ge i 64 with hi | hi
  · have h1 := r1.2 (64 * j + i)
    have h2 := r2.2 (64 * j + i)
    rw [show (64 * j + i) / 64 = j by omega, show (64 * j + i) % 64 = i by omega] at h1 h2
    have h3 := h1.symm.trans h2
    cases ha : (f j).testBit i <;> cases hb : (g j).testBit i <;> simp_all
  · have e : ∀ x, Lt64 x → x.testBit i = false := fun x hx => by
      rw [lt64_iff] at hx
      exact Nat.testBit_lt_two_pow (Nat.lt_of_lt_of_le hx (Nat.pow_le_pow_right (by omega) hi))
    rw [e _ (hf j), e _ (hg j)]
theorem pairs_lt {P : List (Nat × Nat)} (h : Good P) (j : Nat) : Lt64 (wd P j) := by
  by_cases h0 : wd P j = 0
  · rw [h0]; unfold Lt64; omega
  · exact (h.2 _ (wd_some h0)).1
/-- the first bit and the last one -/
def loS (l : List Nat) : Nat := l.headD 0
def hiS (l : List Nat) : Nat := l.getLastD 0
theorem lo_mem {l : List Nat} (h : l ≠ []) : loS l ∈ l := by
  cases l with
  | nil => exact absurd rfl h
  | cons x l => exact List.mem_cons_self
theorem hi_mem {l : List Nat} (h : l ≠ []) : hiS l ∈ l := by
  unfold hiS
  rw [List.getLastD_eq_getLast?, List.getLast?_eq_some_getLast h]
  exact List.getLast_mem h
theorem lo_low {l : List Nat} (hl : Asc l) {x : Nat} (hx : x ∈ l) : loS l ≤ x := by
  cases l with
  | nil => cases hx
  | cons y l =>
    rcases List.mem_cons.1 hx with rfl | h
    · exact Nat.le_refl _
    · exact Nat.le_of_lt ((List.pairwise_cons.1 hl).1 x h)
theorem hi_high {l : List Nat} (hl : Asc l) {x : Nat} (hx : x ∈ l) : x ≤ hiS l := by
  rcases List.eq_nil_or_concat l with h | ⟨Q, y, h⟩
  · subst h; cases hx
  · subst h
    rw [List.concat_eq_append] at hl hx ⊢
    unfold hiS
    rw [List.getLastD_eq_getLast?, List.getLast?_append]
    show x ≤ y
    rcases List.mem_append.1 hx with h | h
    · exact Nat.le_of_lt ((List.pairwise_append.1 hl).2.2 x h y (by simp))
    · have : x = y := by simpa using h
      omega
/-- the words that a set of bits lists -/
def blS (l : List Nat) : List Nat := BLf (wd (bkP l)) (loS l / 64) (hiS l / 64 + 1 - loS l / 64)
theorem bk_all {l : List Nat} (hl : Asc l) (h60 : ∀ x ∈ l, x < 2 ^ 60) : Good (bkP l) ∧ Rep (wd (bkP l)) l := by
  have := bkP_good hl h60 l.length (Nat.le_refl _)
  rw [List.take_of_length_le (Nat.le_refl _)] at this
  exact this
/-- those that are not 0 are the words of the set bits -/
theorem nz_bk {l : List Nat} (hl : Asc l) (h60 : ∀ x ∈ l, x < 2 ^ 60) (hne : l ≠ []) : nzP (wd (bkP l)) (loS l / 64) (hiS l / 64 + 1 - loS l / 64) = bkP l := by
  obtain ⟨hG, hR⟩ := bk_all hl h60
  have h1 := h60 _ (hi_mem hne)
  have h2 := lo_low hl (hi_mem hne)
  have h3 : loS l / 64 ≤ hiS l / 64 := Nat.div_le_div_right h2
  refine good_eq (nzP_good (pairs_lt hG) (by omega)) hG (fun j => nzP_wd (fun j hj => ?_) j)
  refine Classical.byContradiction fun h0 => ?_
  obtain ⟨k, hk, e⟩ := pair_bit hG hR (wd_some h0)
  have h4 := lo_low hl hk
  have h5 := hi_high hl hk
  have e' : k / 64 = j := e
  omega
theorem does_blocksD {s : List BA} {i : Nat} {d : BA} (hd : s[i]? = some d) (hdd : d.dense = true) (hne : d.set ≠ []) : Does s { op := 17, on := i } s { nums := blS d.set } := by
  intro w q c a l h hs hl
  obtain ⟨p, ab, cb, ws, lo, hi, any, hx, h1, h2, h3, h4⟩ := dense_at hd hdd h hs
  have hany : any = true := by
    have := any_set h3 h4
    cases any with
    | true => rfl
    | false => cases hS : d.set with
      | nil => exact absurd hS hne
      | cons x l => rw [hS] at this; cases this
  obtain ⟨hLo, hHi⟩ := h4.2.2.2 hany
  have hlt : hi / 64 < ws.length := by
    rcases Nat.lt_or_ge hi (64 * ws.length) with h5 | h5
    · omega
    · have := hHi.1; rw [bit_far ws hi h5] at this; cases this
  have hsm := h2.sm
  have h60 : ∀ x ∈ d.set, x < 2 ^ 60 := fun x hx => by
    have := (rep_bit h3 x).1 hx
    rcases Nat.lt_or_ge x (64 * ws.length) with h5 | h5
    · omega
    · rw [bit_far ws x h5] at this; cases this
  have elo : lo = loS d.set := Nat.le_antisymm (hLo.2 _ ((rep_bit h3 _).1 (lo_mem hne))) (lo_low h3.1 ((rep_bit h3 _).2 hLo.1))
  have ehi : hi = hiS d.set := Nat.le_antisymm (hi_high h3.1 ((rep_bit h3 _).2 hHi.1)) (hHi.2 _ ((rep_bit h3 _).1 (hi_mem hne)))
  obtain ⟨hG, hR⟩ := bk_all h3.1 h60
  have ew : BL ws (lo / 64) (hi / 64 + 1 - lo / 64) = blS d.set := by
    unfold blS
    rw [← elo, ← ehi]
    exact BL_BLf (fun j => words_eq (fun j => h2.ok.at j) (pairs_lt hG) h3 hR j) _ _
  refine (stepBlocks h i p d _ hx h2 h4.1 hlt).mono fun e w' hp => ?_
  rw [ew] at hp
  exact does_nums h hs (blS d.set) hp
end Go.Proofs.Ytacjkbljokjdkaa.ba
