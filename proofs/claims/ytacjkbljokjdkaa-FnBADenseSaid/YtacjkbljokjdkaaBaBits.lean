/-
  Sets of bits told by words: what they hold, as ascending lists. No program in sight.
-/
import Derived.Test.YtacjkbljokjdkaaBit
namespace Go.Proofs.Ytacjkbljokjdkaa.ba
open Go.Proofs.Ytacjkbljokjdkaa.bit
set_option linter.unusedVariables false

/-- ascending -/
def Asc (l : List Nat) : Prop := l.Pairwise (· < ·)
theorem Asc.nil : Asc [] := List.Pairwise.nil
theorem Asc.nodup {l : List Nat} (h : Asc l) : l.Nodup := List.Pairwise.imp (fun h => Nat.ne_of_lt h) h
theorem Asc.eq {a b : List Nat} (ha : Asc a) (hb : Asc b) (h : ∀ k, k ∈ a ↔ k ∈ b) : a = b :=
  List.Perm.eq_of_pairwise (fun x y _ _ h1 h2 => absurd (show x < y from h1) (Nat.not_lt.2 (Nat.le_of_lt h2))) ha hb ((List.perm_ext_iff_of_nodup ha.nodup hb.nodup).2 h)
theorem Asc.filter {l : List Nat} (h : Asc l) (p : Nat → Bool) : Asc (l.filter p) := List.Pairwise.filter p h
theorem Asc.range (n : Nat) : Asc (List.range n) := List.pairwise_lt_range
theorem Asc.append {a b : List Nat} (ha : Asc a) (hb : Asc b) (h : ∀ x ∈ a, ∀ y ∈ b, x < y) : Asc (a ++ b) := List.pairwise_append.2 ⟨ha, hb, h⟩
theorem Asc.map_add {l : List Nat} (h : Asc l) (c : Nat) : Asc (l.map (c + ·)) := by
  unfold Asc
  rw [List.pairwise_map]
  exact List.Pairwise.imp (fun h => by omega) h
theorem Asc.take {l : List Nat} (h : Asc l) (n : Nat) : Asc (l.take n) := List.Pairwise.sublist (List.take_sublist n l) h
theorem Asc.drop {l : List Nat} (h : Asc l) (n : Nat) : Asc (l.drop n) := List.Pairwise.sublist (List.drop_sublist n l) h
theorem Asc.get {l : List Nat} (h : Asc l) {i j x y : Nat} (hij : i < j) (hx : l[i]? = some x) (hy : l[j]? = some y) : x < y := by
  obtain ⟨h1, rfl⟩ := List.getElem?_eq_some_iff.1 hx
  obtain ⟨h2, rfl⟩ := List.getElem?_eq_some_iff.1 hy
  exact (List.pairwise_iff_getElem.1 h) i j h1 h2 hij
theorem Asc.snoc {l : List Nat} (h : Asc l) {x : Nat} (hx : ∀ y ∈ l, y < x) : Asc (l ++ [x]) := h.append (List.pairwise_singleton _ _) (fun a ha b hb => by simp at hb; subst hb; exact hx a ha)

/-- the bits that are set in words W, as a list -/
def Rep (W : Nat → Nat) (l : List Nat) : Prop := Asc l ∧ ∀ k, k ∈ l ↔ (W (k / 64)).testBit (k % 64) = true
theorem Rep.eq {W : Nat → Nat} {a b : List Nat} (ha : Rep W a) (hb : Rep W b) : a = b := ha.1.eq hb.1 (fun k => (ha.2 k).trans (hb.2 k).symm)
theorem Rep.congr {W V : Nat → Nat} {a : List Nat} (h : Rep W a) (e : ∀ j, W j = V j) : Rep V a := ⟨h.1, fun k => by rw [← e]; exact h.2 k⟩

/-- the bits of one word, from a place on -/
def wbits (off b n : Nat) : List Nat := ((List.range n).filter fun i => b.testBit i).map (off + ·)
theorem wbits_zero (off b : Nat) : wbits off b 0 = [] := rfl
theorem wbits_succ (off b n : Nat) : wbits off b (n + 1) = wbits off b n ++ if b.testBit n then [off + n] else [] := by
  unfold wbits
  rw [List.range_succ, List.filter_append, List.map_append, List.filter_cons]
  cases b.testBit n <;> rfl
theorem wbits_asc (off b n : Nat) : Asc (wbits off b n) := ((Asc.range n).filter _).map_add off
theorem wbits_mem {off b n k : Nat} : k ∈ wbits off b n ↔ ∃ i, i < n ∧ b.testBit i = true ∧ k = off + i := by
  simp only [wbits, List.mem_map, List.mem_filter, List.mem_range]
  exact ⟨fun ⟨i, ⟨h1, h2⟩, h3⟩ => ⟨i, h1, h2, h3.symm⟩, fun ⟨i, h1, h2, h3⟩ => ⟨i, ⟨h1, h2⟩, h3.symm⟩⟩
theorem wbits_len (off b n : Nat) : (wbits off b n).length ≤ n := by
  unfold wbits
  rw [List.length_map]
  have := List.length_filter_le (fun i => b.testBit i) (List.range n)
  simpa using this

/-- the bits of a row of words -/
def nums (ws : List Nat) (n : Nat) : List Nat := (List.range n).flatMap fun j => wbits (64 * j) (ws.getD j 0) 64
theorem nums_zero (ws : List Nat) : nums ws 0 = [] := rfl
theorem nums_succ (ws : List Nat) (n : Nat) : nums ws (n + 1) = nums ws n ++ wbits (64 * n) (ws.getD n 0) 64 := by
  unfold nums
  rw [List.range_succ, List.flatMap_append]; simp
theorem nums_mem {ws : List Nat} {n k : Nat} : k ∈ nums ws n ↔ k < 64 * n ∧ bit ws k = true := by
  simp only [nums, List.mem_flatMap, List.mem_range, wbits_mem]
  constructor
  · rintro ⟨j, hj, i, hi, hb, rfl⟩
    refine ⟨by omega, ?_⟩
    unfold bit
    rw [show (64 * j + i) / 64 = j by omega, show (64 * j + i) % 64 = i by omega]
    exact hb
  · rintro ⟨h1, h2⟩
    exact ⟨k / 64, by omega, k % 64, by omega, h2, by omega⟩
theorem nums_asc (ws : List Nat) : ∀ n, Asc (nums ws n)
  | 0 => Asc.nil
  | n + 1 => by
    rw [nums_succ]
    refine (nums_asc ws n).append (wbits_asc _ _ _) (fun x hx y hy => ?_)
    have h1 := (nums_mem.1 hx).1
    obtain ⟨i, _, _, rfl⟩ := wbits_mem.1 hy
    omega
theorem nums_len (ws : List Nat) (n : Nat) : (nums ws n).length ≤ 64 * n := by
  induction n with
  | zero => simp [nums]
  | succ n ih =>
    rw [nums_succ, List.length_append]
    have := wbits_len (64 * n) (ws.getD n 0) 64
    omega
theorem nums_rep (ws : List Nat) : Rep (fun j => ws.getD j 0) (nums ws ws.length) :=
  ⟨nums_asc _ _, fun k => by
    rw [nums_mem]
    constructor
    · exact fun h => h.2
    · intro h
      refine ⟨?_, h⟩
      rcases Nat.lt_or_ge k (64 * ws.length) with h1 | h1
      · exact h1
      · have := bit_far ws k h1
        unfold bit at this
        rw [this] at h; cases h⟩

/-- a list of pairs of a place and a word: the word at a place -/
def wd (P : List (Nat × Nat)) (j : Nat) : Nat := ((P.find? fun p => p.1 == j).map (·.2)).getD 0
def PAsc (P : List (Nat × Nat)) : Prop := Asc (P.map (·.1))
theorem wd_mem {P : List (Nat × Nat)} (h : PAsc P) {j b : Nat} (hm : (j, b) ∈ P) : wd P j = b := by
  induction P with
  | nil => cases hm
  | cons p P ih =>
    have h' : Asc (p.1 :: P.map (·.1)) := h
    obtain ⟨h1, h2⟩ := List.pairwise_cons.1 h'
    unfold wd
    rw [List.find?_cons]
    rcases List.mem_cons.1 hm with e | hm'
    · rw [← e]; simp
    · have hlt : p.1 < j := h1 j (List.mem_map.2 ⟨(j, b), hm', rfl⟩)
      have hne : (p.1 == j) = false := by simp; omega
      rw [hne]
      exact ih h2 hm'
theorem wd_none {P : List (Nat × Nat)} {j : Nat} (h : ∀ b, (j, b) ∉ P) : wd P j = 0 := by
  unfold wd
  have : P.find? (fun p => p.1 == j) = none := by
    rw [List.find?_eq_none]
    intro p hp he
    have he' : p.1 = j := by simpa using he
    exact h p.2 (by rw [← he']; exact hp)
  rw [this]; rfl
theorem wd_some {P : List (Nat × Nat)} {j : Nat} (h : wd P j ≠ 0) : (j, wd P j) ∈ P := by
  unfold wd at h ⊢
  cases hf : P.find? (fun p => p.1 == j) with
  | none => rw [hf] at h; exact absurd rfl h
  | some p =>
    have h1 := List.mem_of_find?_eq_some hf
    have h2 : p.1 = j := by simpa using List.find?_some hf
    show (j, p.2) ∈ P
    rw [← h2]; exact h1
/-- the bits of such a list -/
def pnums (P : List (Nat × Nat)) : List Nat := P.flatMap fun p => wbits (64 * p.1) p.2 64
theorem pnums_mem {P : List (Nat × Nat)} {k : Nat} : k ∈ pnums P ↔ ∃ b, (k / 64, b) ∈ P ∧ b.testBit (k % 64) = true := by
  simp only [pnums, List.mem_flatMap, wbits_mem]
  constructor
  · rintro ⟨p, hp, i, hi, hb, rfl⟩
    refine ⟨p.2, ?_, ?_⟩
    · rw [show (64 * p.1 + i) / 64 = p.1 by omega]; exact hp
    · rw [show (64 * p.1 + i) % 64 = i by omega]; exact hb
  · rintro ⟨b, hp, hb⟩
    exact ⟨_, hp, k % 64, by omega, hb, by show k = 64 * (k / 64) + k % 64; omega⟩
theorem pnums_asc {P : List (Nat × Nat)} (h : PAsc P) : Asc (pnums P) := by
  induction P with
  | nil => exact Asc.nil
  | cons p P ih =>
    have h' : Asc (p.1 :: P.map (·.1)) := h
    obtain ⟨h1, h2⟩ := List.pairwise_cons.1 h'
    show Asc (wbits (64 * p.1) p.2 64 ++ pnums P)
    refine (wbits_asc _ _ _).append (ih h2) (fun x hx y hy => ?_)
    obtain ⟨i, hi, _, rfl⟩ := wbits_mem.1 hx
    obtain ⟨b, hb, _⟩ := pnums_mem.1 hy
    have := h1 (y / 64) (List.mem_map.2 ⟨_, hb, rfl⟩)
    omega
theorem pnums_rep {P : List (Nat × Nat)} (h : PAsc P) : Rep (wd P) (pnums P) :=
  ⟨pnums_asc h, fun k => by
    rw [pnums_mem]
    constructor
    · rintro ⟨b, hb, ht⟩; rw [wd_mem h hb]; exact ht
    · intro ht
      refine ⟨_, wd_some (fun e => ?_), ht⟩
      rw [e] at ht; simp at ht⟩

/-- lists put together -/
theorem rep_or {W V : Nat → Nat} {a b c : List Nat} (ha : Rep W a) (hb : Rep V b) (hc : Asc c) (h : ∀ k, k ∈ c ↔ k ∈ a ∨ k ∈ b) : Rep (fun j => W j ||| V j) c :=
  ⟨hc, fun k => by rw [h, ha.2, hb.2, Nat.testBit_or]; simp⟩
theorem rep_and {W V : Nat → Nat} {a b c : List Nat} (ha : Rep W a) (hb : Rep V b) (hc : Asc c) (h : ∀ k, k ∈ c ↔ k ∈ a ∧ k ∈ b) : Rep (fun j => W j &&& V j) c :=
  ⟨hc, fun k => by rw [h, ha.2, hb.2, Nat.testBit_and]; simp⟩
/-- the bits of the first one that the second one lacks -/
def nandW (x y : Nat) : Nat := x &&& (18446744073709551615 - y)
theorem nandW_bit {x y : Nat} (hx : Lt64 x) (hy : Lt64 y) (i : Nat) : (nandW x y).testBit i = (x.testBit i && !y.testBit i) := by
  unfold nandW
  rw [Nat.testBit_and]
  have hy' : y < 2 ^ 64 := (lt64_iff y).1 hy
  have e : 18446744073709551615 - y = 2 ^ 64 - (y + 1) := by
    rw [show (2 : Nat) ^ 64 = 18446744073709551616 from by decide]; omega
  rw [e, Nat.testBit_two_pow_sub_succ hy']
  by_cases hi : i < 64
  · simp [hi]
  · rw [testBit_far hx (Nat.le_of_not_lt hi)]; simp
theorem nandW_lt {x y : Nat} (hx : Lt64 x) : Lt64 (nandW x y) := lt64_and hx
theorem rep_nand {W V : Nat → Nat} {a b c : List Nat} (hW : ∀ j, Lt64 (W j)) (hV : ∀ j, Lt64 (V j)) (ha : Rep W a) (hb : Rep V b) (hc : Asc c) (h : ∀ k, k ∈ c ↔ k ∈ a ∧ ¬ k ∈ b) : Rep (fun j => nandW (W j) (V j)) c :=
  ⟨hc, fun k => by rw [h, ha.2, hb.2, nandW_bit (hW _) (hV _)]; simp⟩
theorem rep_put {W : Nat → Nat} {a c : List Nat} {x : Nat} (ha : Rep W a) (hc : Asc c) (h : ∀ k, k ∈ c ↔ k = x ∨ k ∈ a) : Rep (fun j => if j = x / 64 then W j ||| 2 ^ (x % 64) else W j) c :=
  ⟨hc, fun k => by
    rw [h, ha.2]
    show _ ↔ (if k / 64 = x / 64 then W (k / 64) ||| 2 ^ (x % 64) else W (k / 64)).testBit (k % 64) = true
    by_cases e : k / 64 = x / 64
    · rw [if_pos e, Nat.testBit_or, tb_pow, Bool.or_eq_true, decide_eq_true_iff]
      constructor
      · rintro (rfl | h)
        · exact .inr rfl
        · exact .inl h
      · rintro (h | h)
        · exact .inr h
        · exact .inl (by omega)
    · rw [if_neg e]
      constructor
      · rintro (rfl | h)
        · exact absurd rfl e
        · exact h
      · exact .inr⟩
theorem rep_drop {W : Nat → Nat} {a c : List Nat} {x : Nat} (hW : ∀ j, Lt64 (W j)) (ha : Rep W a) (hc : Asc c) (h : ∀ k, k ∈ c ↔ k ∈ a ∧ k ≠ x) : Rep (fun j => if j = x / 64 then nandW (W j) (2 ^ (x % 64)) else W j) c :=
  ⟨hc, fun k => by
    rw [h, ha.2]
    show _ ↔ (if k / 64 = x / 64 then nandW (W (k / 64)) (2 ^ (x % 64)) else W (k / 64)).testBit (k % 64) = true
    by_cases e : k / 64 = x / 64
    · rw [if_pos e, nandW_bit (hW _) (lt64_pow (Nat.mod_lt _ (by omega))), tb_pow]
      simp only [Bool.and_eq_true, Bool.not_eq_true', decide_eq_false_iff_not]
      constructor
      · rintro ⟨h1, h2⟩; exact ⟨h1, by omega⟩
      · rintro ⟨h1, h2⟩; exact ⟨h1, by rintro rfl; exact h2 rfl⟩
    · rw [if_neg e]
      constructor
      · exact fun h => h.1
      · exact fun h => ⟨h, by rintro rfl; exact e rfl⟩⟩
end Go.Proofs.Ytacjkbljokjdkaa.ba
