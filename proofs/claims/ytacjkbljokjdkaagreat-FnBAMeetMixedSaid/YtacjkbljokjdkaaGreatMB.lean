/-
  What the proofs of this claim share, part 2 of 8: small laws and walks of the functions that it reaches.
-/
import Derived.Test.YtacjkbljokjdkaaGreatMA
import Derived.RegionTactic
import Derived.BigRegion
import Derived.StillTailTactics
import Derived.Deep.CutRange
import Derived.Deep.DeepCutAuto
import Derived.Deep.RegionHeld3
namespace Go.Proofs.YtacjkbljokjdkaaGreat.ba
open Go.Proofs.YtacjkbljokjdkaaGreat.bit
set_option linter.unusedVariables false

/-- ascending -/
def Asc (l : List Nat) : Prop := l.Pairwise (· < ·)
theorem Asc.nil : Asc [] := List.Pairwise.nil
theorem Asc.nodup {l : List Nat} (h : Asc l) : l.Nodup := List.Pairwise.imp (fun h => Nat.ne_of_lt h) h
theorem Asc.eq {a b : List Nat} (ha : Asc a) (hb : Asc b) (h : ∀ k, k ∈ a ↔ k ∈ b) : a = b :=
  List.Perm.eq_of_pairwise (fun x y _ _ h1 h2 => absurd (show x < y from h1) (Nat.not_lt.2 (Nat.le_of_lt h2))) ha hb ((List.perm_ext_iff_of_nodup ha.nodup hb.nodup).2 h)
theorem Asc.filter {l : List Nat} (h : Asc l) (p : Nat → Bool) : Asc (l.filter p) := List.Pairwise.filter p h
theorem Asc.range (n : Nat) : Asc (List.range n) := List.pairwise_lt_range
theorem Asc.append {a b : List Nat} (ha : Asc a) (hb : Asc b) (h : ∀ x ∈ a, ∀ y ∈ b, x < y) : Asc (a ++ b) := List.pairwise_append.2 ⟨ha, hb, h⟩
theorem Asc.map_add {l : List Nat} (h : Asc l) (c : Nat) : Asc (l.map (c + ·)) := by
  unfold Asc
  rw [List.pairwise_map]
  exact List.Pairwise.imp (fun h => by omega) h
theorem Asc.take {l : List Nat} (h : Asc l) (n : Nat) : Asc (l.take n) := List.Pairwise.sublist (List.take_sublist n l) h
theorem Asc.drop {l : List Nat} (h : Asc l) (n : Nat) : Asc (l.drop n) := List.Pairwise.sublist (List.drop_sublist n l) h
theorem Asc.get {l : List Nat} (h : Asc l) {i j x y : Nat} (hij : i < j) (hx : l[i]? = some x) (hy : l[j]? = some y) : x < y := by
  obtain ⟨h1, rfl⟩ := List.getElem?_eq_some_iff.1 hx
  obtain ⟨h2, rfl⟩ := List.getElem?_eq_some_iff.1 hy
  exact (List.pairwise_iff_getElem.1 h) i j h1 h2 hij
theorem Asc.snoc {l : List Nat} (h : Asc l) {x : Nat} (hx : ∀ y ∈ l, y < x) : Asc (l ++ [x]) := h.append (List.pairwise_singleton _ _) (fun a ha b hb => by simp at hb; subst hb; exact hx a ha)

/-- the bits that are set in words W, as a list -/
def Rep (W : Nat → Nat) (l : List Nat) : Prop := Asc l ∧ ∀ k, k ∈ l ↔ (W (k / 64)).testBit (k % 64) = true
theorem Rep.eq {W : Nat → Nat} {a b : List Nat} (ha : Rep W a) (hb : Rep W b) : a = b := ha.1.eq hb.1 (fun k => (ha.2 k).trans (hb.2 k).symm)
theorem Rep.congr {W V : Nat → Nat} {a : List Nat} (h : Rep W a) (e : ∀ j, W j = V j) : Rep V a := ⟨h.1, fun k => by rw [← e]; exact h.2 k⟩

/-- the bits of one word, from a place on -/
def wbits (off b n : Nat) : List Nat := ((List.range n).filter fun i => b.testBit i).map (off + ·)
theorem wbits_zero (off b : Nat) : wbits off b 0 = [] := rfl
theorem wbits_succ (off b n : Nat) : wbits off b (n + 1) = wbits off b n ++ if b.testBit n then [off + n] else [] := by
  unfold wbits
  rw [List.range_succ, List.filter_append, List.map_append, List.filter_cons]
  cases b.testBit n <;> rfl
theorem wbits_asc (off b n : Nat) : Asc (wbits off b n) := ((Asc.range n).filter _).map_add off
theorem wbits_mem {off b n k : Nat} : k ∈ wbits off b n ↔ ∃ i, i < n ∧ b.testBit i = true ∧ k = off + i := by
  simp only [wbits, List.mem_map, List.mem_filter, List.mem_range]
  exact ⟨fun ⟨i, ⟨h1, h2⟩, h3⟩ => ⟨i, h1, h2, h3.symm⟩, fun ⟨i, h1, h2, h3⟩ => ⟨i, ⟨h1, h2⟩, h3.symm⟩⟩
theorem wbits_len (off b n : Nat) : (wbits off b n).length ≤ n := by
  unfold wbits
  rw [List.length_map]
  have := List.length_filter_le (fun i => b.testBit i) (List.range n)
  simpa using this

/-- the bits of a row of words -/
def nums (ws : List Nat) (n : Nat) : List Nat := (List.range n).flatMap fun j => wbits (64 * j) (ws.getD j 0) 64
theorem nums_zero (ws : List Nat) : nums ws 0 = [] := rfl
theorem nums_succ (ws : List Nat) (n : Nat) : nums ws (n + 1) = nums ws n ++ wbits (64 * n) (ws.getD n 0) 64 := by
  unfold nums
  rw [List.range_succ, List.flatMap_append]; simp
theorem nums_mem {ws : List Nat} {n k : Nat} : k ∈ nums ws n ↔ k < 64 * n ∧ bit ws k = true := by
  simp only [nums, List.mem_flatMap, List.mem_range, wbits_mem]
  constructor
  · rintro ⟨j, hj, i, hi, hb, rfl⟩
    refine ⟨by omega, ?_⟩
    unfold bit
    rw [show (64 * j + i) / 64 = j by omega, show (64 * j + i) % 64 = i by omega]
    exact hb
  · rintro ⟨h1, h2⟩
    exact ⟨k / 64, by omega, k % 64, by omega, h2, by omega⟩
theorem nums_asc (ws : List Nat) : ∀ n, Asc (nums ws n)
  | 0 => Asc.nil
  | n + 1 => by
    rw [nums_succ]
    refine (nums_asc ws n).append (wbits_asc _ _ _) (fun x hx y hy => ?_)
    have h1 := (nums_mem.1 hx).1
    obtain ⟨i, _, _, rfl⟩ := wbits_mem.1 hy
    omega
theorem nums_len (ws : List Nat) (n : Nat) : (nums ws n).length ≤ 64 * n := by
  induction n with
  | zero => simp [nums]
  | succ n ih =>
    rw [nums_succ, List.length_append]
    have := wbits_len (64 * n) (ws.getD n 0) 64
    omega
theorem nums_rep (ws : List Nat) : Rep (fun j => ws.getD j 0) (nums ws ws.length) :=
  ⟨nums_asc _ _, fun k => by
    rw [nums_mem]
    constructor
    · exact fun h => h.2
    · intro h
      refine ⟨?_, h⟩
      rcases Nat.lt_or_ge k (64 * ws.length) with h1 | h1
      · exact h1
      · have := bit_far ws k h1
        unfold bit at this
        rw [this] at h; cases h⟩

/-- a list of pairs of a place and a word: the word at a place -/
def wd (P : List (Nat × Nat)) (j : Nat) : Nat := ((P.find? fun p => p.1 == j).map (·.2)).getD 0
def PAsc (P : List (Nat × Nat)) : Prop := Asc (P.map (·.1))
theorem wd_mem {P : List (Nat × Nat)} (h : PAsc P) {j b : Nat} (hm : (j, b) ∈ P) : wd P j = b := by
  induction P with
  | nil => cases hm
  | cons p P ih =>
    have h' : Asc (p.1 :: P.map (·.1)) := h
    obtain ⟨h1, h2⟩ := List.pairwise_cons.1 h'
    unfold wd
    rw [List.find?_cons]
    rcases List.mem_cons.1 hm with e | hm'
    · rw [← e]; simp
    · have hlt : p.1 < j := h1 j (List.mem_map.2 ⟨(j, b), hm', rfl⟩)
      have hne : (p.1 == j) = false := by simp; omega
      rw [hne]
      exact ih h2 hm'
theorem wd_none {P : List (Nat × Nat)} {j : Nat} (h : ∀ b, (j, b) ∉ P) : wd P j = 0 := by
  unfold wd
  have : P.find? (fun p => p.1 == j) = none := by
    rw [List.find?_eq_none]
    intro p hp he
    have he' : p.1 = j := by simpa using he
    exact h p.2 (by rw [← he']; exact hp)
  rw [this]; rfl
theorem wd_some {P : List (Nat × Nat)} {j : Nat} (h : wd P j ≠ 0) : (j, wd P j) ∈ P := by
  unfold wd at h ⊢
  cases hf : P.find? (fun p => p.1 == j) with
  | none => rw [hf] at h; exact absurd rfl h
  | some p =>
    have h1 := List.mem_of_find?_eq_some hf
    have h2 : p.1 = j := by simpa using List.find?_some hf
    show (j, p.2) ∈ P
    rw [← h2]; exact h1
/-- the bits of such a list -/
def pnums (P : List (Nat × Nat)) : List Nat := P.flatMap fun p => wbits (64 * p.1) p.2 64
theorem pnums_mem {P : List (Nat × Nat)} {k : Nat} : k ∈ pnums P ↔ ∃ b, (k / 64, b) ∈ P ∧ b.testBit (k % 64) = true := by
  simp only [pnums, List.mem_flatMap, wbits_mem]
  constructor
  · rintro ⟨p, hp, i, hi, hb, rfl⟩
    refine ⟨p.2, ?_, ?_⟩
    · rw [show (64 * p.1 + i) / 64 = p.1 by omega]; exact hp
    · rw [show (64 * p.1 + i) % 64 = i by omega]; exact hb
  · rintro ⟨b, hp, hb⟩
    exact ⟨_, hp, k % 64, by omega, hb, by show k = 64 * (k / 64) + k % 64; omega⟩
theorem pnums_asc {P : List (Nat × Nat)} (h : PAsc P) : Asc (pnums P) := by
  induction P with
  | nil => exact Asc.nil
  | cons p P ih =>
    have h' : Asc (p.1 :: P.map (·.1)) := h
    obtain ⟨h1, h2⟩ := List.pairwise_cons.1 h'
    show Asc (wbits (64 * p.1) p.2 64 ++ pnums P)
    refine (wbits_asc _ _ _).append (ih h2) (fun x hx y hy => ?_)
    obtain ⟨i, hi, _, rfl⟩ := wbits_mem.1 hx
    obtain ⟨b, hb, _⟩ := pnums_mem.1 hy
    have := h1 (y / 64) (List.mem_map.2 ⟨_, hb, rfl⟩)
    omega
theorem pnums_rep {P : List (Nat × Nat)} (h : PAsc P) : Rep (wd P) (pnums P) :=
  ⟨pnums_asc h, fun k => by
    rw [pnums_mem]
    constructor
    · rintro ⟨b, hb, ht⟩; rw [wd_mem h hb]; exact ht
    · intro ht
      refine ⟨_, wd_some (fun e => ?_), ht⟩
      rw [e] at ht; simp at ht⟩

/-- lists put together -/
theorem rep_or {W V : Nat → Nat} {a b c : List Nat} (ha : Rep W a) (hb : Rep V b) (hc : Asc c) (h : ∀ k, k ∈ c ↔ k ∈ a ∨ k ∈ b) : Rep (fun j => W j ||| V j) c :=
  ⟨hc, fun k => by rw [h, ha.2, hb.2, Nat.testBit_or]; simp⟩
theorem rep_and {W V : Nat → Nat} {a b c : List Nat} (ha : Rep W a) (hb : Rep V b) (hc : Asc c) (h : ∀ k, k ∈ c ↔ k ∈ a ∧ k ∈ b) : Rep (fun j => W j &&& V j) c :=
  ⟨hc, fun k => by rw [h, ha.2, hb.2, Nat.testBit_and]; simp⟩
/-- the bits of the first one that the second one lacks -/
def nandW (x y : Nat) : Nat := x &&& (18446744073709551615 - y)
theorem nandW_bit {x y : Nat} (hx : Lt64 x) (hy : Lt64 y) (i : Nat) : (nandW x y).testBit i = (x.testBit i && !y.testBit i) := by
  unfold nandW
  rw [Nat.testBit_and]
  have hy' : y < 2 ^ 64 := (lt64_iff y).1 hy
  have e : 18446744073709551615 - y = 2 ^ 64 - (y + 1) := by
    rw [show (2 : Nat) ^ 64 = 18446744073709551616 from by decide]; omega
  rw [e, Nat.testBit_two_pow_sub_succ hy']
  by_cases hi : i < 64
  · simp [hi]
  · rw [testBit_far hx (Nat.le_of_not_lt hi)]; simp
theorem nandW_lt {x y : Nat} (hx : Lt64 x) : Lt64 (nandW x y) := lt64_and hx
theorem rep_nand {W V : Nat → Nat} {a b c : List Nat} (hW : ∀ j, Lt64 (W j)) (hV : ∀ j, Lt64 (V j)) (ha : Rep W a) (hb : Rep V b) (hc : Asc c) (h : ∀ k, k ∈ c ↔ k ∈ a ∧ ¬ k ∈ b) : Rep (fun j => nandW (W j) (V j)) c :=
  ⟨hc, fun k => by rw [h, ha.2, hb.2, nandW_bit (hW _) (hV _)]; simp⟩
theorem rep_put {W : Nat → Nat} {a c : List Nat} {x : Nat} (ha : Rep W a) (hc : Asc c) (h : ∀ k, k ∈ c ↔ k = x ∨ k ∈ a) : Rep (fun j => if j = x / 64 then W j ||| 2 ^ (x % 64) else W j) c :=
  ⟨hc, fun k => by
    rw [h, ha.2]
    show _ ↔ (if k / 64 = x / 64 then W (k / 64) ||| 2 ^ (x % 64) else W (k / 64)).testBit (k % 64) = true
    by_cases e : k / 64 = x / 64
    · rw [if_pos e, Nat.testBit_or, tb_pow, Bool.or_eq_true, decide_eq_true_iff]
      constructor
      · rintro (rfl | h)
        · exact .inr rfl
        · exact .inl h
      · rintro (h | h)
        · exact .inr h
        · exact .inl (by omega)
    · rw [if_neg e]
      constructor
      · rintro (rfl | h)
        · exact absurd rfl e
        · exact h
      · exact .inr⟩
theorem rep_drop {W : Nat → Nat} {a c : List Nat} {x : Nat} (hW : ∀ j, Lt64 (W j)) (ha : Rep W a) (hc : Asc c) (h : ∀ k, k ∈ c ↔ k ∈ a ∧ k ≠ x) : Rep (fun j => if j = x / 64 then nandW (W j) (2 ^ (x % 64)) else W j) c :=
  ⟨hc, fun k => by
    rw [h, ha.2]
    show _ ↔ (if k / 64 = x / 64 then nandW (W (k / 64)) (2 ^ (x % 64)) else W (k / 64)).testBit (k % 64) = true
    by_cases e : k / 64 = x / 64
    · rw [if_pos e, nandW_bit (hW _) (lt64_pow (Nat.mod_lt _ (by omega))), tb_pow]
      simp only [Bool.and_eq_true, Bool.not_eq_true', decide_eq_false_iff_not]
      constructor
      · rintro ⟨h1, h2⟩; exact ⟨h1, by omega⟩
      · rintro ⟨h1, h2⟩; exact ⟨h1, by rintro rfl; exact h2 rfl⟩
    · rw [if_neg e]
      constructor
      · exact fun h => h.1
      · exact fun h => ⟨h, by rintro rfl; exact e rfl⟩⟩
end Go.Proofs.YtacjkbljokjdkaaGreat.ba
namespace Go.Proofs.YtacjkbljokjdkaaGreat.ba
open Go.Proofs.YtacjkbljokjdkaaGreat.bit
set_option linter.unusedVariables false

/-- how many are below a bit -/
def at_ (l : List Nat) (k : Nat) : Nat := (l.takeWhile fun x => decide (x < k)).length
theorem at_le (l : List Nat) (k : Nat) : at_ l k ≤ l.length := by
  unfold at_
  have := (List.takeWhile_prefix (fun x => decide (x < k)) (l := l)).length_le
  exact this
theorem at_below (l : List Nat) (k : Nat) : ∀ i x, i < at_ l k → l[i]? = some x → x < k := by
  intro i x hi hx
  have hp := List.takeWhile_prefix (fun x => decide (x < k)) (l := l)
  obtain ⟨r, hr⟩ := hp
  have h1 : (l.takeWhile fun x => decide (x < k))[i]? = some x := by
    rw [← hr, List.getElem?_append_left hi] at hx
    exact hx
  have h2 : x ∈ l.takeWhile fun x => decide (x < k) := List.mem_of_getElem? h1
  have h3 : ∀ y ∈ l.takeWhile (fun x => decide (x < k)), decide (y < k) = true := fun y hy => by
    have : (l.takeWhile fun x => decide (x < k)).all (fun x => decide (x < k)) = true := List.all_takeWhile
    exact List.all_eq_true.1 this y hy
  simpa using h3 x h2
theorem at_stop (l : List Nat) (k : Nat) : ∀ x, l[at_ l k]? = some x → k ≤ x := by
  intro x hx
  induction l with
  | nil => simp at hx
  | cons y l ih =>
    unfold at_ at hx ih
    rw [List.takeWhile_cons] at hx
    by_cases h : y < k
    · simp only [decide_eq_true h, if_true, List.length_cons] at hx
      exact ih (by simpa using hx)
    · simp only [decide_eq_false h] at hx
      simp at hx
      omega
/-- the place is found step by step -/
theorem at_eq {l : List Nat} {k n : Nat} (hn : n ≤ l.length) (h1 : ∀ i x, i < n → l[i]? = some x → x < k) (h2 : ∀ x, l[n]? = some x → k ≤ x) : at_ l k = n := by
  rcases Nat.lt_trichotomy (at_ l k) n with h | h | h
  · obtain ⟨x, hx⟩ : ∃ x, l[at_ l k]? = some x := ⟨_, List.getElem?_eq_getElem (by omega)⟩
    have a1 := at_stop l k x hx
    have a2 := h1 _ x h hx
    omega
  · exact h
  · obtain ⟨x, hx⟩ : ∃ x, l[n]? = some x := ⟨_, List.getElem?_eq_getElem (by have := at_le l k; omega)⟩
    have a1 := at_below l k n x h hx
    have a2 := h2 x hx
    omega
theorem mem_at {l : List Nat} (h : Asc l) {k : Nat} : k ∈ l ↔ l[at_ l k]? = some k := by
  constructor
  · intro hm
    obtain ⟨j, hj⟩ := List.mem_iff_getElem?.1 hm
    have hjl := (List.getElem?_eq_some_iff.1 hj).1
    have e : at_ l k = j := at_eq (by omega) (fun i x hi hx => h.get hi hx hj) (fun x hx => by rw [hj] at hx; cases hx; exact Nat.le_refl _)
    rw [e]; exact hj
  · exact fun h => List.mem_of_getElem? h
theorem take_lt {l : List Nat} {k : Nat} : ∀ x ∈ l.take (at_ l k), x < k := by
  intro x hx
  obtain ⟨i, hi⟩ := List.mem_iff_getElem?.1 hx
  have hil := (List.getElem?_eq_some_iff.1 hi).1
  rw [List.length_take] at hil
  rw [List.getElem?_take, if_pos (by omega)] at hi
  exact at_below l k i x (by omega) hi
theorem drop_ge {l : List Nat} (h : Asc l) {k : Nat} : ∀ x ∈ l.drop (at_ l k), k ≤ x := by
  intro x hx
  obtain ⟨i, hi⟩ := List.mem_iff_getElem?.1 hx
  rw [List.getElem?_drop] at hi
  obtain ⟨y, hy⟩ : ∃ y, l[at_ l k]? = some y := ⟨_, List.getElem?_eq_getElem (by have := (List.getElem?_eq_some_iff.1 hi).1; omega)⟩
  have h1 := at_stop l k y hy
  rcases Nat.eq_zero_or_pos i with rfl | hp
  · rw [Nat.add_zero, hy] at hi; cases hi; exact h1
  · have := h.get (show at_ l k < at_ l k + i by omega) hy hi
    omega
/-- with a further one -/
def put (l : List Nat) (k : Nat) : List Nat := if k ∈ l then l else l.take (at_ l k) ++ k :: l.drop (at_ l k)
/-- without one -/
def drp (l : List Nat) (k : Nat) : List Nat := if k ∈ l then l.take (at_ l k) ++ l.drop (at_ l k + 1) else l
theorem put_mem {l : List Nat} {k x : Nat} : x ∈ put l k ↔ x = k ∨ x ∈ l := by
  unfold put
  split
  · constructor
    · exact .inr
    · rintro (rfl | h) <;> assumption
  · rw [List.mem_append, List.mem_cons]
    have : x ∈ l ↔ x ∈ l.take (at_ l k) ∨ x ∈ l.drop (at_ l k) := by rw [← List.mem_append, List.take_append_drop]
    rw [this]
    constructor
    · rintro (h | h | h)
      · exact .inr (.inl h)
      · exact .inl h
      · exact .inr (.inr h)
    · rintro (h | h | h)
      · exact .inr (.inl h)
      · exact .inl h
      · exact .inr (.inr h)
theorem put_asc {l : List Nat} (h : Asc l) (k : Nat) : Asc (put l k) := by
  unfold put
  split
  · exact h
  · rename_i hk
    have hd : ∀ y ∈ l.drop (at_ l k), k < y := fun y hy => by
      have h1 := drop_ge h y hy
      have h2 : y ≠ k := fun e => hk (by rw [← e]; exact List.mem_of_mem_drop hy)
      omega
    refine (h.take _).append (List.pairwise_cons.2 ⟨hd, h.drop _⟩) (fun x hx y hy => ?_)
    have h1 := take_lt x hx
    rcases List.mem_cons.1 hy with rfl | hy
    · exact h1
    · have := hd y hy; omega
theorem put_len (l : List Nat) (k : Nat) : (put l k).length ≤ l.length + 1 := by
  unfold put
  split
  · omega
  · rw [List.length_append, List.length_cons, List.length_take, List.length_drop]; have := at_le l k; omega
theorem drp_split {l : List Nat} (h : Asc l) {k : Nat} (hk : k ∈ l) : l = l.take (at_ l k) ++ k :: l.drop (at_ l k + 1) := by
  have h1 := (mem_at h).1 hk
  obtain ⟨h2, h3⟩ := List.getElem?_eq_some_iff.1 h1
  conv => lhs; rw [← List.take_append_drop (at_ l k) l, List.drop_eq_getElem_cons h2, h3]
theorem drp_mem {l : List Nat} (h : Asc l) {k x : Nat} : x ∈ drp l k ↔ x ∈ l ∧ x ≠ k := by
  unfold drp
  split
  · rename_i hk
    have hs := drp_split h hk
    have hn := h.nodup
    rw [hs] at hn
    rw [List.nodup_append] at hn
    obtain ⟨n1, n2, n3⟩ := hn
    rw [List.nodup_cons] at n2
    constructor
    · intro hx
      rcases List.mem_append.1 hx with hx | hx
      · exact ⟨List.mem_of_mem_take hx, n3 x hx k (List.mem_cons_self ..)⟩
      · exact ⟨List.mem_of_mem_drop hx, fun e => n2.1 (by subst e; exact hx)⟩
    · rintro ⟨hx, hne⟩
      rw [hs] at hx
      rcases List.mem_append.1 hx with hx | hx
      · exact List.mem_append_left _ hx
      · rcases List.mem_cons.1 hx with hx | hx
        · exact absurd hx hne
        · exact List.mem_append_right _ hx
  · rename_i hk
    exact ⟨fun hx => ⟨hx, fun e => hk (by rw [← e]; exact hx)⟩, fun hx => hx.1⟩
theorem drp_asc {l : List Nat} (h : Asc l) (k : Nat) : Asc (drp l k) := by
  unfold drp
  split
  · rename_i hk
    have hs := drp_split h hk
    have h' : Asc (l.take (at_ l k) ++ k :: l.drop (at_ l k + 1)) := by rw [← hs]; exact h
    obtain ⟨a1, a2, a3⟩ := List.pairwise_append.1 h'
    obtain ⟨b1, b2⟩ := List.pairwise_cons.1 a2
    exact Asc.append a1 b2 (fun x hx y hy => a3 x hx y (List.mem_cons_of_mem _ hy))
  · exact h
theorem drp_len (l : List Nat) (k : Nat) : (drp l k).length ≤ l.length := by
  unfold drp
  split
  · rw [List.length_append, List.length_take, List.length_drop]; have := at_le l k; omega
  · omega
/-- either, both, the first alone -/
def orL (a b : List Nat) : List Nat := b.foldl put a
def andL (a b : List Nat) : List Nat := a.filter fun x => decide (x ∈ b)
def nandL (a b : List Nat) : List Nat := a.filter fun x => !decide (x ∈ b)
theorem orL_spec (b : List Nat) : ∀ {a : List Nat}, Asc a → Asc (orL a b) ∧ ∀ x, x ∈ orL a b ↔ x ∈ a ∨ x ∈ b := by
  induction b with
  | nil => intro a h; exact ⟨h, fun x => by simp [orL]⟩
  | cons y b ih =>
    intro a h
    obtain ⟨h1, h2⟩ := ih (put_asc h y)
    refine ⟨h1, fun x => ?_⟩
    have := h2 x
    show x ∈ orL (put a y) b ↔ _
    rw [this, put_mem, List.mem_cons]
    constructor
    · rintro ((h | h) | h)
      · exact .inr (.inl h)
      · exact .inl h
      · exact .inr (.inr h)
    · rintro (h | h | h)
      · exact .inl (.inr h)
      · exact .inl (.inl h)
      · exact .inr h
theorem andL_spec {a : List Nat} (h : Asc a) (b : List Nat) : Asc (andL a b) ∧ ∀ x, x ∈ andL a b ↔ x ∈ a ∧ x ∈ b := ⟨h.filter _, fun x => by simp [andL]⟩
theorem nandL_spec {a : List Nat} (h : Asc a) (b : List Nat) : Asc (nandL a b) ∧ ∀ x, x ∈ nandL a b ↔ x ∈ a ∧ ¬ x ∈ b := ⟨h.filter _, fun x => by simp [nandL]⟩
/-- from one on, at most so many -/
def fromL (l : List Nat) (k n : Nat) : List Nat := (l.drop (at_ l k)).take n
end Go.Proofs.YtacjkbljokjdkaaGreat.ba
namespace Go.Proofs.YtacjkbljokjdkaaGreat.ba
open Go.RowKit Go.Proofs.YtacjkbljokjdkaaGreat.base Go.Proofs.YtacjkbljokjdkaaGreat.heap Go.Proofs.YtacjkbljokjdkaaGreat.rows Go.Proofs.YtacjkbljokjdkaaGreat.bit Go.Proofs.YtacjkbljokjdkaaGreat.bs
set_option linter.unusedVariables false

theorem wrap_pow {p : Nat} (hp : p < 64) : IntKind.u64.wrap (2 ^ p) = ((2 ^ p : Nat) : Int) := by
  have h := lt64_pow hp
  unfold Lt64 at h
  have e : (2 : Int) ^ p = ((2 ^ p : Nat) : Int) := by push_cast; rfl
  rw [e, IntKind.wrap_u64]
  generalize 2 ^ p = y at *
  omega
theorem not_nat {y : Nat} (hy : Lt64 y) : bits .xor .u64 IntKind.u64.max (y : Int) = ((18446744073709551615 - y : Nat) : Int) := by
  have h1 : bits .xor .u64 ((18446744073709551615 : Nat) : Int) (y : Int) = ((18446744073709551615 ^^^ y : Nat) : Int) := xor_nat (by unfold Lt64; omega) hy
  have h2 : (18446744073709551615 ^^^ y) = 18446744073709551615 - y := by
    apply Nat.eq_of_testBit_eq
    intro i
    have hy' : y < 2 ^ 64 := (lt64_iff y).1 hy
    have e : 18446744073709551615 - y = 2 ^ 64 - (y + 1) := by
      rw [show (2 : Nat) ^ 64 = 18446744073709551616 from by decide]; omega
    have e1 : (18446744073709551615 : Nat) = 2 ^ 64 - 1 := by decide
    rw [e, Nat.testBit_two_pow_sub_succ hy', Nat.testBit_xor, e1, Nat.testBit_two_pow_sub_one]
    by_cases hi : i < 64
    · simp [hi]
    · rw [testBit_far hy (Nat.le_of_not_lt hi)]; simp [hi]
  rw [← h2]; exact h1
theorem lt64_not {y : Nat} : Lt64 (18446744073709551615 - y) := by unfold Lt64; omega
theorem and_test {x p : Nat} (hx : Lt64 x) (hp : p < 64) : (x &&& 2 ^ p = 0) ↔ x.testBit p = false := by rw [and_pow]

set_option maxRecDepth 100000 in
theorem insertW (x p : Nat) (hx : Lt64 x) (hp : p < 64) (w : World) : Calls Tryz.prog 84 #[.int .u64 (x : Int), .int .u64 (p : Int)] w fun e w' => e = .returned (.int .u64 ((x ||| 2 ^ p : Nat) : Int)) ∧ w' = w := by
  have h0 := wrap_pow hp
  have h1 := or_nat hx (lt64_pow hp)
  have hp' : (p : Int) < 64 := by omega
  generalize 2 ^ p = y at *
  go_enter Tryz.func84, Tryz.ntmps84
  go_wp2
  go_ret
  exact ⟨rfl, rfl⟩
set_option maxRecDepth 100000 in
theorem orW (x y : Nat) (hx : Lt64 x) (hy : Lt64 y) (w : World) : Calls Tryz.prog 97 #[.int .u64 (x : Int), .int .u64 (y : Int)] w fun e w' => e = .returned (.int .u64 ((x ||| y : Nat) : Int)) ∧ w' = w := by
  have h1 := or_nat hx hy
  go_enter Tryz.func97, Tryz.ntmps97
  go_wp2
  go_ret
  exact ⟨rfl, rfl⟩
set_option maxRecDepth 100000 in
theorem andW (x y : Nat) (hx : Lt64 x) (hy : Lt64 y) (w : World) : Calls Tryz.prog 87 #[.int .u64 (x : Int), .int .u64 (y : Int)] w fun e w' => e = .returned (.int .u64 ((x &&& y : Nat) : Int)) ∧ w' = w := by
  have h1 := and_nat hx hy
  go_enter Tryz.func87, Tryz.ntmps87
  go_wp2
  go_ret
  exact ⟨rfl, rfl⟩
set_option maxRecDepth 100000 in
theorem nandWc (x y : Nat) (hx : Lt64 x) (hy : Lt64 y) (w : World) : Calls Tryz.prog 94 #[.int .u64 (x : Int), .int .u64 (y : Int)] w fun e w' => e = .returned (.int .u64 ((nandW x y : Nat) : Int)) ∧ w' = w := by
  have h1 : bits .andNot .u64 (x : Int) (y : Int) = ((nandW x y : Nat) : Int) := u64_andNot_nat x y hx hy
  go_enter Tryz.func94, Tryz.ntmps94
  go_wp2
  go_ret
  exact ⟨rfl, rfl⟩
set_option maxRecDepth 100000 in
theorem equalsW (x y : Nat) (w : World) : Calls Tryz.prog 76 #[.int .u64 (x : Int), .int .u64 (y : Int)] w fun e w' => e = .returned (.bool (decide (x = y))) ∧ w' = w := by
  have h1 : ((x : Int) == (y : Int)) = decide (x = y) := by
    by_cases h : x = y
    · subst h; simp
    · simp [h]; omega
  go_enter Tryz.func76, Tryz.ntmps76
  go_wp2
  go_ret
  exact ⟨rfl, rfl⟩
set_option maxRecDepth 100000 in
theorem intersectsW (x y : Nat) (hx : Lt64 x) (hy : Lt64 y) (w : World) : Calls Tryz.prog 93 #[.int .u64 (x : Int), .int .u64 (y : Int)] w fun e w' => e = .returned (.bool (decide (x &&& y = y))) ∧ w' = w := by
  have h1 := and_nat hx hy
  have h2 : ((((x &&& y : Nat) : Int)) == (y : Int)) = decide (x &&& y = y) := by
    generalize x &&& y = z
    by_cases h : z = y
    · subst h; simp
    · simp [h]; omega
  generalize x &&& y = z at *
  go_enter Tryz.func93, Tryz.ntmps93
  go_wp2
  go_ret
  exact ⟨rfl, rfl⟩
set_option maxRecDepth 100000 in
theorem removeW (x p : Nat) (hx : Lt64 x) (hp : p < 64) (w : World) : Calls Tryz.prog 116 #[.int .u64 (x : Int), .int .u64 (p : Int)] w fun e w' => e = .returned (.int .u64 ((nandW x (2 ^ p) : Nat) : Int)) ∧ w' = w := by
  have hp' : (p : Int) < 64 := by omega
  have h0 := wrap_pow hp
  have h1 := not_nat (lt64_pow hp)
  have h2 : bits .and .u64 (x : Int) ((18446744073709551615 - 2 ^ p : Nat) : Int) = ((nandW x (2 ^ p) : Nat) : Int) := and_nat hx lt64_not
  have hs : ¬ IntKind.u64.signed = true := by decide
  generalize 18446744073709551615 - 2 ^ p = z at *
  generalize 2 ^ p = y at *
  go_enter Tryz.func116, Tryz.ntmps116
  go_wp2
  go_ret
  exact ⟨rfl, rfl⟩
set_option maxRecDepth 100000 in
theorem getW (x p : Nat) (hx : Lt64 x) (hp : p < 64) (w : World) : Calls Tryz.prog 117 #[.int .u64 (x : Int), .int .u64 (p : Int)] w fun e w' => e = .returned (.bool (x.testBit p)) ∧ w' = w := by
  have hp' : (p : Int) < 64 := by omega
  have h0 := wrap_pow hp
  have h1 := and_nat hx (lt64_pow hp)
  have h2 : ((((x &&& 2 ^ p : Nat) : Int)) != 0) = x.testBit p := by
    have h := and_test hx hp
    generalize x &&& 2 ^ p = z at *
    cases ht : x.testBit p
    · have := h.2 ht; subst this; rfl
    · have : ¬ z = 0 := fun e => by have := h.1 e; rw [ht] at this; cases this
      simp [bne]; exact this
  generalize 2 ^ p = y at *
  generalize x &&& y = z at *
  generalize x.testBit p = t at *
  go_enter Tryz.func117, Tryz.ntmps117
  go_wp2
  go_ret
  exact ⟨rfl, rfl⟩
set_option maxRecDepth 100000 in
theorem indexW (k : Nat) (hk : Lt64 k) (w : World) : Calls Tryz.prog 38 #[.int .u64 (k : Int)] w fun e w' => e = .returned (.tuple #[.int .u64 ((k / 64 : Nat) : Int), .int .u64 ((k % 64 : Nat) : Int)]) ∧ w' = w := by
  have h1 : IntKind.u64.wrap ((k : Int) / 64) = ((k / 64 : Nat) : Int) := by
    rw [IntKind.wrap_u64]; unfold Lt64 at hk; omega
  have h2 : (k : Int) % 64 = ((k % 64 : Nat) : Int) := by omega
  have H1 := Lib.hid h1
  have H2 := Lib.hid h2
  clear h1 h2 hk
  go_enter Tryz.func38, Tryz.ntmps38
  go_wp2
  go_ret2
  rw [← H1.out, ← H2.out]
  exact ⟨rfl, rfl⟩
end Go.Proofs.YtacjkbljokjdkaaGreat.ba
namespace Go.Proofs.YtacjkbljokjdkaaGreat.ba
open Go.RowKit Go.Proofs.YtacjkbljokjdkaaGreat.base Go.Proofs.YtacjkbljokjdkaaGreat.heap Go.Proofs.YtacjkbljokjdkaaGreat.rows Go.Proofs.YtacjkbljokjdkaaGreat.bit Go.Proofs.YtacjkbljokjdkaaGreat.bs
set_option linter.unusedVariables false

/-- t is the highest bit of x that is set -/
def High (x t : Nat) : Prop := x.testBit t = true ∧ ∀ i, t < i → x.testBit i = false
theorem high_ex {x : Nat} (hx : Lt64 x) (h0 : x ≠ 0) : ∃ t, t < 64 ∧ High x t := by
  have key : ∀ n, (∀ i, n ≤ i → x.testBit i = false) → ∃ t, t < n ∧ High x t := by
    intro n
    induction n with
    | zero =>
      intro h
      exact absurd (Nat.eq_of_testBit_eq (fun i => by rw [h i (Nat.zero_le _)]; simp)) h0
    | succ n ih =>
      intro h
      cases ht : x.testBit n with
      | true => exact ⟨n, by omega, ht, fun i hi => h i hi⟩
      | false =>
        obtain ⟨t, h1, h2⟩ := ih (fun i hi => by
          by_cases e : i = n
          · rw [e]; exact ht
          · exact h i (by omega))
        exact ⟨t, by omega, h2⟩
  exact key 64 (fun i hi => testBit_far hx hi)
theorem and_same {x p : Nat} : (x &&& 2 ^ p = 2 ^ p) ↔ x.testBit p = true := by
  constructor
  · intro h
    have := congrArg (fun z => z.testBit p) h
    simpa using this
  · intro h
    apply Nat.eq_of_testBit_eq
    intro i
    rw [Nat.testBit_and, tb_pow]
    by_cases e : p = i
    · subst e; simp [h]
    · simp [e]

set_option maxRecDepth 100000 in
set_option maxHeartbeats 800000 in
theorem findRight (x : Nat) (hx : Lt64 x) (h0 : x ≠ 0) (w : World) : Calls Tryz.prog 91 #[.int .u64 (x : Int)] w fun e w' => ∃ t, Hid (t < 64 ∧ Low x t) ∧ e = .returned (.int .u64 (t : Int)) ∧ w' = w := by
  obtain ⟨t, ht, hl⟩ := low_ex hx h0
  have HX := Lib.hid hx
  have HT := Lib.hid hl
  clear hx h0 hl
  go_enter Tryz.func91, Tryz.ntmps91
  go_wp2_with fail
  go_loop [3] (fun i => ∃ k : Nat, k ≤ t ∧ i = .int .u64 (k : Int)) (fun i => 64 - (intOf i).toNat)
  case atStart => exact ⟨0, Nat.zero_le _, rfl⟩
  case round =>
    obtain ⟨k, hk, rfl⟩ := hrel
    have hk' : (k : Int) < 64 := by omega
    have e0 := wrap_pow (show k < 64 by omega)
    have e1 := and_nat HX.out (lt64_pow (show k < 64 by omega))
    have HS : Hid ((x &&& 2 ^ k = 2 ^ k) ↔ x.testBit k = true) := Lib.hid and_same
    generalize x &&& 2 ^ k = z at *
    generalize 2 ^ k = y at *
    by_cases hkt : k = t
    · subst hkt
      have e2 : z = y := HS.out.2 HT.out.1
      subst e2
      go_wp2_with fail
      go_ret
      exact ⟨k, Lib.hid ⟨ht, HT.out⟩, rfl, rfl⟩
    · have e2 : ((z : Int) == (y : Int)) = false := by
        have h : ¬ z = y := fun e => by
          have := HS.out.1 e
          rw [HT.out.2 k (by omega)] at this
          cases this
        simp; omega
      have e3 : (z == y) = false := by
        have := e2
        simp at this ⊢; omega
      go_wp2_with fail
      go_round
      case rel => exact ⟨k + 1, by omega, by go_num⟩
      case measure => simp [intOf]; omega

set_option maxRecDepth 100000 in
set_option maxHeartbeats 800000 in
theorem findLeft (x : Nat) (hx : Lt64 x) (h0 : x ≠ 0) (w : World) : Calls Tryz.prog 54 #[.int .u64 (x : Int)] w fun e w' => ∃ t, Hid (t < 64 ∧ High x t) ∧ e = .returned (.int .u64 (t : Int)) ∧ w' = w := by
  obtain ⟨t, ht, hl⟩ := high_ex hx h0
  have HX := Lib.hid hx
  have HT := Lib.hid hl
  clear hx h0 hl
  go_enter Tryz.func54, Tryz.ntmps54
  go_wp2_with fail
  go_loop [3] (fun i => ∃ k : Nat, t ≤ k ∧ k < 64 ∧ i = .int .u64 (k : Int)) (fun i => (intOf i).toNat)
  case atStart => exact ⟨63, by omega, by omega, rfl⟩
  case round =>
    obtain ⟨k, hk, hk6, rfl⟩ := hrel
    have hk' : (k : Int) < 64 := by omega
    have e0 := wrap_pow (show k < 64 by omega)
    have e1 := and_nat HX.out (lt64_pow (show k < 64 by omega))
    have HS : Hid ((x &&& 2 ^ k = 2 ^ k) ↔ x.testBit k = true) := Lib.hid and_same
    generalize x &&& 2 ^ k = z at *
    generalize 2 ^ k = y at *
    by_cases hkt : k = t
    · subst hkt
      have e2 : z = y := HS.out.2 HT.out.1
      subst e2
      go_wp2_with fail
      go_ret
      exact ⟨k, Lib.hid ⟨ht, HT.out⟩, rfl, rfl⟩
    · have e2 : ((z : Int) == (y : Int)) = false := by
        have h : ¬ z = y := fun e => by
          have := HS.out.1 e
          rw [HT.out.2 k (by omega)] at this
          cases this
        simp; omega
      have e3 : (z == y) = false := by
        have := e2
        simp at this ⊢; omega
      obtain ⟨k1, hk1⟩ : ∃ k1, k = k1 + 1 := ⟨k - 1, by omega⟩
      subst hk1
      go_wp2_with fail
      go_round
      case rel => exact ⟨k1, by omega, by omega, rfl⟩
      case measure => simp [intOf]
end Go.Proofs.YtacjkbljokjdkaaGreat.ba
namespace Go.Proofs.YtacjkbljokjdkaaGreat.ba
open Go.RowKit Go.Proofs.YtacjkbljokjdkaaGreat.base Go.Proofs.YtacjkbljokjdkaaGreat.heap Go.Proofs.YtacjkbljokjdkaaGreat.rows Go.Proofs.YtacjkbljokjdkaaGreat.bit Go.Proofs.YtacjkbljokjdkaaGreat.bs
set_option linter.unusedVariables false

/-- a variable that holds a list of numbers of its own -/
structure NV (w : World) (vb : Nat) (a : Option Addr) (cap : Nat) (L : List Nat) : Prop where
  obj : w.heap[vb]? = some (.cells #[.slice a L.length cap] 24 (0, 0))
  row : Own 34 1 w a L.length cap (U L)
  nap : ¬ At a vb
def NV.foot (vb : Nat) (a : Option Addr) (k : Nat) : Prop := k = vb ∨ At a k
theorem NV.keep {w w' : World} {vb cap : Nat} {a : Option Addr} {L : List Nat} {S : Nat → Prop} (h : NV w vb a cap L) (ho : Only S w w') (hn : ∀ k, NV.foot vb a k → ¬ S k) : NV w' vb a cap L :=
  ⟨ho.obj h.obj (hn _ (.inl rfl)), h.row.keep ho (fun k hk => hn k (.inr hk)), h.nap⟩
theorem NV.app {w w1 w2 : World} {vb cap cap2 x : Nat} {a a2 : Option Addr} {L : List Nat} (h : NV w vb a cap L) (hs : Same w w1) (hG : Grew 34 1 w1 w2 a a2 1 (L.length + 1) cap cap2 (U L ++ U [x])) :
    NV (w2.setCell ⟨vb, 0, none⟩ (.slice a2 (L.length + 1) cap2)) vb a2 cap2 (L ++ [x]) ∧ Only (NV.foot vb a) w (w2.setCell ⟨vb, 0, none⟩ (.slice a2 (L.length + 1) cap2)) ∧ w2.cell? ⟨vb, 0, none⟩ = some (.slice a L.length cap) ∧ w2.frozen? ⟨vb, 0, none⟩ = false ∧ ∀ k, At a2 k → At a k ∨ w.heap.size ≤ k := by
  have hO : Only (At a) w w2 := Only.trans (S := At a) (hs.mono (fun _ _ h => h.elim)) hG.only (fun _ _ h => h)
  have hob := hO.obj h.obj h.nap
  have hfr : ∀ k, At a2 k → At a k ∨ w.heap.size ≤ k := fun k hk => (hG.fresh k hk).imp id (fun h' => Nat.le_trans hs.size h')
  have nap : ¬ At a2 vb := fun e => (hfr _ e).elim h.nap (fun h' => by have := lt_of_heap h.obj; omega)
  have hO2 : Only (fun k => k = vb) w2 (w2.setCell ⟨vb, 0, none⟩ (.slice a2 (L.length + 1) cap2)) := (Only.refl _ _).setCell _ _ (fun _ => rfl)
  refine ⟨⟨?_, ?_, nap⟩, (hO.mono (fun k _ hk => .inr hk)).trans hO2 (fun k _ e => .inl e), block_cell hob rfl, block_free hob, hfr⟩
  · rw [List.length_append]
    have := setCell_heap hob 0 (.slice a2 (L.length + 1) cap2)
    simpa using this
  · rw [List.length_append]
    have := hG.own.keep hO2 (fun k hk e => nap (by rw [← e]; exact hk))
    rw [U_app] at this
    exact this
/-- the variable has grown -/
structure NVs (w w' : World) (vb : Nat) (a a' : Option Addr) (cap' : Nat) (L' : List Nat) : Prop where
  nv : NV w' vb a' cap' L'
  only : Only (NV.foot vb a) w w'
  fresh : ∀ k, At a' k → At a k ∨ w.heap.size ≤ k
theorem NVs.trans {w w1 w2 : World} {vb cap cap2 : Nat} {a a1 a2 : Option Addr} {L1 L2 : List Nat} (h : NVs w w1 vb a a1 cap L1) (h' : NVs w1 w2 vb a1 a2 cap2 L2) : NVs w w2 vb a a2 cap2 L2 :=
  ⟨h'.nv, h.only.trans h'.only (fun k hk hf => by
    rcases hf with e | e
    · exact .inl e
    · rcases h.fresh k e with h1 | h1
      · exact .inr h1
      · omega), fun k hk => by
    rcases h'.fresh k hk with h1 | h1
    · exact h.fresh k h1
    · exact .inr (Nat.le_trans h.only.size h1)⟩

set_option maxRecDepth 100000 in
set_option maxHeartbeats 1600000 in
theorem toNumsW (x off vb : Nat) (a : Option Addr) (cap : Nat) (L : List Nat) (w : World) (hx : Lt64 x) (ho : off < 4611686018427387904) (hl : L.length < 1000000000) (h : NV w vb a cap L) :
    Calls Tryz.prog 85 #[.int .u64 (x : Int), .int .u64 (off : Int), .pointer (some ⟨vb, 0, none⟩)] w fun e w' => e = .returned (.tuple #[]) ∧ ∃ a' cap', NVs w w' vb a a' cap' (L ++ wbits off x 64) := by
  have HX := Lib.hid hx
  have H := Lib.hid h
  clear hx h
  go_enter Tryz.func85, Tryz.ntmps85
  go_wp2_with fail
  go_loopw [6] (fun i wr => ∃ (k : Nat) (a' : Option Addr) (cap' : Nat), k ≤ 64 ∧ i = .int .u64 (k : Int) ∧ Hid (NVs w wr vb a a' cap' (L ++ wbits off x k))) (fun i _ => 64 - (intOf i).toNat)
  case atStart => exact ⟨0, a, cap, by omega, rfl, Lib.hid ⟨by rw [wbits_zero, List.append_nil]; exact H.out, Only.refl _ _, fun k hk => .inl hk⟩⟩
  case round =>
    obtain ⟨k, a', cap', hk, rfl, HI⟩ := hrel
    by_cases hlt : k < 64
    · have hk' : (k : Int) < 64 := by omega
      have e0 := wrap_pow hlt
      have e1 := and_nat HX.out (lt64_pow hlt)
      have HS : Hid ((x &&& 2 ^ k = 0) ↔ x.testBit k = false) := Lib.hid (and_test HX.out hlt)
      generalize x &&& 2 ^ k = z at *
      generalize 2 ^ k = y at *
      have hbl : (L ++ wbits off x k).length < 1000000100 := by
        rw [List.length_append]; have := wbits_len off x k; omega
      obtain ⟨n, HN⟩ : ∃ n, Hid ((L ++ wbits off x k).length = n) := ⟨_, Lib.hid rfl⟩
      rw [HN.out] at hbl
      have hob := HI.out.nv.obj
      rw [HN.out] at hob
      have v0 : wr.cell? ⟨vb, 0, none⟩ = some (.slice a' n cap') := block_cell hob rfl
      clear hob
      have HROW : Hid (Own 34 1 wr a' n cap' (U (L ++ wbits off x k))) := Lib.hid (by have := HI.out.nv.row; rw [HN.out] at this; exact this)
      have hbo := HROW.out.bound
      cases ht : x.testBit k with
      | false =>
        have hz : z = 0 := HS.out.2 ht
        subst hz
        have HI2 : Hid (NVs w wr vb a a' cap' (L ++ wbits off x (k + 1))) := Lib.hid (by rw [wbits_succ, ht]; simpa using HI.out)
        clear ht
        go_wp2_with fail
        go_roundw
        case rel => exact ⟨k + 1, a', cap', by omega, by go_num, HI2⟩
        case measure => simp [intOf]; omega
      | true =>
        have hz : (0 : Int) < (z : Int) := by
          have : ¬ z = 0 := fun e => by have := HS.out.1 e; rw [ht] at this; cases this
          omega
        have HT := Lib.hid ht
        have hko : IntKind.u64.wrap ((k : Int) + (off : Int)) = ((off + k : Nat) : Int) := by rw [IntKind.wrap_u64]; omega
        clear ht
        go_wp2_with (at_builtin; refine wpList_append (n + 1) (U (L ++ wbits off x k) ++ U [off + k]) rfl _ _ _ _ rfl slWord rfl (HROW.out.keep (S := fun _ => False) (by repeat (first | exact Only.refl _ _ | apply Only.alloc | apply Only.drew)) (fun _ _ => id)) rfl (Src.row (size := 1) (cs := #[.int .u64 ((off + k : Nat) : Int)]) (t := 34) (fr := (0, 0)) Tryz.underlying24 (by exact heap_alloc_new _ _) 1 1 rfl (by simp [Value.oneCell'])) rfl rfl (by unfold maxLen; omega) (by omega) ?_)
        intro a2 cap2 w2 hG
        have hG' : Grew 34 1 (wr.alloc (.cells #[.int .u64 ((off + k : Nat) : Int)] 34)) w2 a' a2 1 ((L ++ wbits off x k).length + 1) cap' cap2 (U (L ++ wbits off x k) ++ U [off + k]) := by
          rw [HN.out]; simpa using hG
        obtain ⟨g1, g2, g3, g4, g5⟩ := HI.out.nv.app ((Only.refl _ _).alloc _) hG'
        rw [HN.out] at g1 g2 g3
        have HI2 : Hid (NVs w (w2.setCell ⟨vb, 0, none⟩ (.slice a2 (n + 1) cap2)) vb a a2 cap2 (L ++ wbits off x (k + 1))) := Lib.hid (by
          refine HI.out.trans ⟨?_, g2, g5⟩
          rw [wbits_succ, HT.out, if_pos rfl, ← List.append_assoc]
          exact g1)
        clear hG hG' g1 g2 g5
        go_wp2_with fail
        go_roundw
        case rel => exact ⟨k + 1, a2, cap2, by omega, by go_num, HI2⟩
        case measure => simp [intOf]; omega
    · have hlt' : ¬ (k : Int) < 64 := by omega
      obtain rfl : k = 64 := by omega
      go_wp2_with fail
      go_end0
      exact ⟨rfl, a', cap', HI.out⟩
end Go.Proofs.YtacjkbljokjdkaaGreat.ba
namespace Go.Proofs.YtacjkbljokjdkaaGreat.ba
open Go.RowKit Go.Proofs.YtacjkbljokjdkaaGreat.base Go.Proofs.YtacjkbljokjdkaaGreat.heap Go.Proofs.YtacjkbljokjdkaaGreat.rows Go.Proofs.YtacjkbljokjdkaaGreat.bit Go.Proofs.YtacjkbljokjdkaaGreat.bs
set_option linter.unusedVariables false

/-- a dense bit array: its object, its blocks -/
structure Dn (w : World) (p : Nat) (a : Option Addr) (c : Nat) (ws : List Nat) (lo hi : Nat) (any : Bool) : Prop where
  obj : w.heap[p]? = some (.cells #[.slice a ws.length c, .int .u64 (lo : Int), .int .u64 (hi : Int), .bool any] 90 (0, 0))
  row : Own 74 1 w a ws.length c (U ws)
  ok : Ok ws
  nn : a ≠ none
  nap : ¬ At a p
  sm : ws.length ≤ 1000000
def Ft (p : Nat) (a : Option Addr) (k : Nat) : Prop := k = p ∨ At a k
section
variable {w w' : World} {p c lo hi : Nat} {a : Option Addr} {ws : List Nat} {any : Bool}
theorem Dn.keep {S : Nat → Prop} (h : Dn w p a c ws lo hi any) (ho : Only S w w') (hn : ∀ k, Ft p a k → ¬ S k) : Dn w' p a c ws lo hi any :=
  ⟨ho.obj h.obj (hn _ (.inl rfl)), h.row.keep ho (fun k hk => hn k (.inr hk)), h.ok, h.nn, h.nap, h.sm⟩
theorem Dn.still (h : Dn w p a c ws lo hi any) (ho : Same w w') : Dn w' p a c ws lo hi any := h.keep ho (fun _ _ => id)
theorem Dn.lt (h : Dn w p a c ws lo hi any) : ∀ k, Ft p a k → k < w.heap.size := by
  rintro k (rfl | hk)
  · exact lt_of_heap h.obj
  · exact h.row.lt k hk
/-- all that a walk asks of it -/
theorem Dn.facts (h : Dn w p a c ws lo hi any) : ∃ b, a = some ⟨b, 0, none⟩ ∧ b < w.heap.size ∧ b ≠ p ∧
    w.cell? ⟨p, 0, none⟩ = some (.slice (some ⟨b, 0, none⟩) ws.length c) ∧ w.cell? ⟨p, 1, none⟩ = some (.int .u64 (lo : Int)) ∧ w.cell? ⟨p, 2, none⟩ = some (.int .u64 (hi : Int)) ∧ w.cell? ⟨p, 3, none⟩ = some (.bool any) ∧
    (∀ j, w.frozen? ⟨p, j, none⟩ = false) ∧ (∀ i, i < ws.length → w.cell? ⟨b, i, none⟩ = some (.int .u64 (ws.getD i 0 : Nat))) ∧ (∀ i, w.frozen? ⟨b, i, none⟩ = false) := by
  rcases h.row.alt with ⟨ha, _⟩ | ⟨b, cur, ha, hb, hs, ht⟩
  · exact absurd ha h.nn
  · have ho := h.obj
    rw [ha] at ho
    refine ⟨b, ha, lt_of_heap hb, fun e => h.nap (by rw [ha, e]; exact rfl), block_cell ho rfl, block_cell ho rfl, block_cell ho rfl, block_cell ho rfl, fun j => block_free ho, fun i hi => ?_, fun i => h.row.frozen ha i⟩
    obtain ⟨b', hb', _, hc⟩ := h.row.at (by omega)
    rw [ha] at hb'
    cases hb'
    have := hc i _ (U_get ws i hi)
    simpa using this
theorem Dn.set3 (h : Dn w p a c ws lo hi any) (lo' hi' : Nat) (any' : Bool) (hw : w'.heap[p]? = some (.cells #[.slice a ws.length c, .int .u64 (lo' : Int), .int .u64 (hi' : Int), .bool any'] 90 (0, 0))) (ho : Only (fun k => k = p) w w') : Dn w' p a c ws lo' hi' any' :=
  ⟨hw, h.row.keep ho (fun k hk e => h.nap (by rw [← e]; exact hk)), h.ok, h.nn, h.nap, h.sm⟩
end
theorem first_word (l : List Nat) (n : Nat) : ∃ d, d ≤ n ∧ (∀ k, k < d → l.getD k 0 = 0) ∧ (d < n → l.getD d 0 ≠ 0) := by
  induction n with
  | zero => exact ⟨0, Nat.le_refl _, fun k hk => absurd hk (by omega), fun h => absurd h (by omega)⟩
  | succ n ih =>
    obtain ⟨d, h1, h2, h3⟩ := ih
    by_cases hd : d < n
    · exact ⟨d, by omega, h2, fun _ => h3 hd⟩
    · have : d = n := by omega
      subst this
      by_cases h0 : l.getD d 0 = 0
      · exact ⟨d + 1, Nat.le_refl _, fun k hk => by
          by_cases e : k = d
          · subst e; exact h0
          · exact h2 k (by omega), fun h => absurd h (by omega)⟩
      · exact ⟨d, by omega, h2, fun _ => h0⟩
theorem last_word (l : List Nat) (n : Nat) : (∀ k, k < n → l.getD k 0 = 0) ∨ ∃ d, d < n ∧ l.getD d 0 ≠ 0 ∧ ∀ k, d < k → k < n → l.getD k 0 = 0 := by
  induction n with
  | zero => exact .inl (fun k hk => absurd hk (by omega))
  | succ n ih =>
    by_cases h0 : l.getD n 0 = 0
    · rcases ih with h | ⟨d, h1, h2, h3⟩
      · exact .inl (fun k hk => by
          by_cases e : k = n
          · subst e; exact h0
          · exact h k (by omega))
      · exact .inr ⟨d, by omega, h2, fun k hk hk2 => by
          by_cases e : k = n
          · subst e; exact h0
          · exact h3 k hk (by omega)⟩
    · exact .inr ⟨n, by omega, h0, fun k hk hk2 => absurd hk2 (by omega)⟩
/-- no bit is set; k is the lowest, the highest one -/
def NoB (ws : List Nat) : Prop := ∀ k, bit ws k = false
def LoB (ws : List Nat) (k : Nat) : Prop := bit ws k = true ∧ ∀ j, bit ws j = true → k ≤ j
def HiB (ws : List Nat) (k : Nat) : Prop := bit ws k = true ∧ ∀ j, bit ws j = true → j ≤ k
theorem no_words {ws : List Nat} (h : ∀ k, k < ws.length → ws.getD k 0 = 0) : NoB ws := fun k => by
  rcases Nat.lt_or_ge k (64 * ws.length) with h1 | h1
  · unfold bit; rw [h (k / 64) (by omega)]; simp
  · exact bit_far ws k h1
theorem lo_word {ws : List Nat} {d t : Nat} (h1 : ∀ k, k < d → ws.getD k 0 = 0) (ht : t < 64) (h : Low (ws.getD d 0) t) : LoB ws (64 * d + t) := by
  constructor
  · unfold bit
    rw [show (64 * d + t) / 64 = d by omega, show (64 * d + t) % 64 = t by omega]; exact h.1
  · intro j hj
    unfold bit at hj
    by_cases e : j / 64 < d
    · rw [h1 _ e] at hj; simp at hj
    · by_cases e2 : j / 64 = d
      · rw [e2] at hj
        rcases Nat.lt_or_ge (j % 64) t with h3 | h3
        · rw [h.2 _ h3] at hj; cases hj
        · omega
      · omega
theorem hi_word {ws : List Nat} {d t : Nat} (h1 : ∀ k, d < k → k < ws.length → ws.getD k 0 = 0) (ht : t < 64) (h : High (ws.getD d 0) t) : HiB ws (64 * d + t) := by
  constructor
  · unfold bit
    rw [show (64 * d + t) / 64 = d by omega, show (64 * d + t) % 64 = t by omega]; exact h.1
  · intro j hj
    rcases Nat.lt_or_ge j (64 * ws.length) with hjl | hjl
    · unfold bit at hj
      by_cases e : d < j / 64
      · rw [h1 _ e (by omega)] at hj; simp at hj
      · by_cases e2 : j / 64 = d
        · rw [e2] at hj
          rcases Nat.lt_or_ge t (j % 64) with h3 | h3
          · rw [h.2 _ h3] at hj; cases hj
          · omega
        · omega
    · rw [bit_far ws j hjl] at hj; cases hj

/-- the lowest bit is told; the highest one -/
def LoP (w : World) (p : Nat) (a : Option Addr) (c : Nat) (ws : List Nat) (hi : Nat) (e : Ending) (w' : World) : Prop :=
  e = .returned (.tuple #[]) ∧ Only (fun k => k = p) w w' ∧ ((NoB ws ∧ Dn w' p a c ws 0 0 false) ∨ ∃ lo, LoB ws lo ∧ Dn w' p a c ws lo hi true)
def HiP (w : World) (p : Nat) (a : Option Addr) (c : Nat) (ws : List Nat) (lo : Nat) (e : Ending) (w' : World) : Prop :=
  e = .returned (.tuple #[]) ∧ Only (fun k => k = p) w w' ∧ ((NoB ws ∧ Dn w' p a c ws 0 0 false) ∨ ∃ hi, HiB ws hi ∧ Dn w' p a c ws lo hi true)
section
variable {w : World} {p c lo hi : Nat} {a : Option Addr} {ws : List Nat} {any : Bool}
set_option maxRecDepth 100000 in
set_option maxHeartbeats 1600000 in
theorem setLowest (h : Dn w p a c ws lo hi any) : Calls Tryz.prog 74 #[.pointer (some ⟨p, 0, none⟩)] w (LoP w p a c ws hi) := by
  obtain ⟨b, ha, hb, hbp, c0, c1, c2, c3, hf, hc, hfb⟩ := h.facts
  have hbd := h.row.bound
  have hsm := h.sm
  have H := Lib.hid h
  have HC := Lib.hid hc
  have f1 := hf 1
  have f2 := hf 2
  have f3 := hf 3
  obtain ⟨d, hd1, hd2, hd3⟩ := first_word ws ws.length
  have HD : Hid ((∀ k, k < d → ws.getD k 0 = 0) ∧ (d < ws.length → ws.getD d 0 ≠ 0)) := Lib.hid ⟨hd2, hd3⟩
  obtain ⟨n, HN⟩ : ∃ n, Hid (ws.length = n) := ⟨_, Lib.hid rfl⟩
  rw [HN.out] at c0 hbd hsm hd1
  clear h hc hf hfb hd2 hd3
  subst ha
  go_enter Tryz.func74, Tryz.ntmps74
  go_wp2_with fail
  go_loop [2] (fun i => ∃ k : Nat, k ≤ d ∧ i = .int .u64 (k : Int)) (fun i => n - (intOf i).toNat)
  case atStart => exact ⟨0, Nat.zero_le _, rfl⟩
  case round =>
    obtain ⟨k, hk, rfl⟩ := hrel
    have hn63 : IntKind.u64.wrap (n : Int) = (n : Int) := by rw [IntKind.wrap_u64]; omega
    by_cases hkd : k < d
    · have hkn : (k : Int) < (n : Int) := by omega
      have e0 := HC.out k (by rw [HN.out]; omega)
      rw [HD.out.1 k hkd] at e0
      go_wp2_with fail
      go_round
      case rel => exact ⟨k + 1, by omega, by go_num⟩
      case measure => simp [intOf]; omega
    · obtain rfl : k = d := by omega
      by_cases hdn : k < n
      · have hkn : (k : Int) < (n : Int) := by omega
        have e0 := HC.out k (by rw [HN.out]; omega)
        have hne := HD.out.2 (by rw [HN.out]; exact hdn)
        have HFR : Hid (∀ wx, Calls Tryz.prog 91 #[.int .u64 ((ws.getD k 0 : Nat) : Int)] wx fun e w' => ∃ t, Hid (t < 64 ∧ Low (ws.getD k 0) t) ∧ e = .returned (.int .u64 (t : Int)) ∧ w' = wx) := Lib.hid (fun wx => findRight _ (H.out.ok.at k) hne wx)
        have h1 : (((ws.getD k 0 : Nat) : Int) == 0) = false := by rw [beq_eq_false_iff_ne]; omega
        have h2 : ((ws.getD k 0 : Nat) == 0) = false := by rw [beq_eq_false_iff_ne]; exact hne
        have HNE := Lib.hid hne
        clear hne
        generalize hX : ws.getD k 0 = X at *
        have HX := Lib.hid hX
        clear hX
        go_wp2_with fail
        refine (HFR.out _).mono ?_
        rintro e w1 ⟨t, ht, rfl, rfl⟩
        have HT := Lib.hid ht.out
        have ht64 : t < 64 := ht.out.1
        have hsum : IntKind.u64.wrap ((k : Int) * 64 + (t : Int)) = ((64 * k + t : Nat) : Int) := by rw [IntKind.wrap_u64]; omega
        have hmul : IntKind.u64.wrap ((k : Int) * 64) = (k : Int) * 64 := by rw [IntKind.wrap_u64]; omega
        clear ht HFR
        go_wp2_with fail
        refine bodyPost_ret (results_none rfl _ _ _) rfl ?_
        have hO : Only (fun j => j = p) w1 ((w1.setCell ⟨p, 1, none⟩ (.int .u64 (64 * (k : Int) + (t : Int)))).setCell ⟨p, 3, none⟩ (.bool true)) := ((Only.refl (fun j => j = p) _).setCell ⟨p, 1, none⟩ _ (fun _ => rfl)).setCell ⟨p, 3, none⟩ _ (fun _ => rfl)
        refine ⟨rfl, hO, .inr ⟨64 * k + t, lo_word HD.out.1 ht64 (by rw [HX.out]; exact HT.out.2), H.out.set3 _ _ _ ?_ hO⟩⟩
        have h3 := setCell_heap (setCell_heap H.out.obj 1 (.int .u64 (64 * (k : Int) + (t : Int)))) 3 (.bool true)
        rw [show ((64 * k + t : Nat) : Int) = 64 * (k : Int) + (t : Int) by omega]
        exact h3
      · obtain rfl : k = n := by omega
        have hkn : ¬ (k : Int) < (k : Int) := by omega
        go_wp2_with fail
        go_end0
        have hO : Only (fun j => j = p) w (((w.setCell ⟨p, 3, none⟩ (.bool false)).setCell ⟨p, 1, none⟩ (.int .u64 0)).setCell ⟨p, 2, none⟩ (.int .u64 0)) := (((Only.refl (fun j => j = p) _).setCell ⟨p, 3, none⟩ _ (fun _ => rfl)).setCell ⟨p, 1, none⟩ _ (fun _ => rfl)).setCell ⟨p, 2, none⟩ _ (fun _ => rfl)
        refine ⟨rfl, hO, .inl ⟨no_words (fun j hj => HD.out.1 j (by rw [HN.out] at hj; exact hj)), H.out.set3 _ _ _ ?_ hO⟩⟩
        exact setCell_heap (setCell_heap (setCell_heap H.out.obj 3 (.bool false)) 1 (.int .u64 0)) 2 (.int .u64 0)

set_option maxRecDepth 100000 in
set_option maxHeartbeats 1600000 in
theorem setHighest (h : Dn w p a c ws lo hi any) : Calls Tryz.prog 73 #[.pointer (some ⟨p, 0, none⟩)] w (HiP w p a c ws lo) := by
  obtain ⟨b, ha, hb, hbp, c0, c1, c2, c3, hf, hc, hfb⟩ := h.facts
  have hbd := h.row.bound
  have hsm := h.sm
  have H := Lib.hid h
  have HC := Lib.hid hc
  have f1 := hf 1
  have f2 := hf 2
  have f3 := hf 3
  have HD := Lib.hid (last_word ws ws.length)
  obtain ⟨n, HN⟩ : ∃ n, Hid (ws.length = n) := ⟨_, Lib.hid rfl⟩
  rw [HN.out] at c0 hbd hsm
  clear h hc hf hfb
  subst ha
  go_enter Tryz.func73, Tryz.ntmps73
  go_wp2_with fail
  go_loop [2] (fun i => ∃ k : Int, -1 ≤ k ∧ k < (n : Int) ∧ i = .int .i64 k ∧ Hid (∀ j : Nat, k < (j : Int) → j < n → ws.getD j 0 = 0)) (fun i => (intOf i + 1).toNat)
  case atStart => exact ⟨_, by omega, by omega, rfl, Lib.hid (fun j h1 h2 => absurd h1 (by omega))⟩
  case round =>
    obtain ⟨k, hk, hkn, rfl, HZ⟩ := hrel
    by_cases hk0 : 0 ≤ k
    · obtain ⟨d, rfl⟩ : ∃ d : Nat, k = (d : Int) := ⟨k.toNat, by omega⟩
      have e0 := HC.out d (by rw [HN.out]; omega)
      by_cases hne : ws.getD d 0 = 0
      · rw [hne] at e0
        have HZ2 : Hid (∀ j : Nat, (d : Int) - 1 < (j : Int) → j < n → ws.getD j 0 = 0) := Lib.hid (fun j h1 h2 => by
          by_cases e : j = d
          · rw [e]; exact hne
          · exact HZ.out j (by omega) h2)
        clear hne
        go_wp2_with fail
        go_round
        case rel => exact ⟨(d : Int) - 1, by omega, by omega, rfl, HZ2⟩
        case measure => first | (simp [intOf]; done) | (simp [intOf]; omega)
      · have HFR : Hid (∀ wx, Calls Tryz.prog 54 #[.int .u64 ((ws.getD d 0 : Nat) : Int)] wx fun e w' => ∃ t, Hid (t < 64 ∧ High (ws.getD d 0) t) ∧ e = .returned (.int .u64 (t : Int)) ∧ w' = wx) := Lib.hid (fun wx => findLeft _ (H.out.ok.at d) hne wx)
        have h1 : (((ws.getD d 0 : Nat) : Int) == 0) = false := by rw [beq_eq_false_iff_ne]; omega
        have h2 : ((ws.getD d 0 : Nat) == 0) = false := by rw [beq_eq_false_iff_ne]; exact hne
        clear hne
        generalize hX : ws.getD d 0 = X at *
        have HX := Lib.hid hX
        clear hX
        go_wp2_with fail
        refine (HFR.out _).mono ?_
        rintro e w1 ⟨t, ht, rfl, rfl⟩
        have HT := Lib.hid ht.out
        have ht64 : t < 64 := ht.out.1
        have hsum : IntKind.u64.wrap ((d : Int) * 64 + (t : Int)) = ((64 * d + t : Nat) : Int) := by rw [IntKind.wrap_u64]; omega
        have hmul : IntKind.u64.wrap ((d : Int) * 64) = (d : Int) * 64 := by rw [IntKind.wrap_u64]; omega
        have hcv : IntKind.u64.wrap (d : Int) = (d : Int) := by rw [IntKind.wrap_u64]; omega
        clear ht HFR
        go_wp2_with fail
        refine bodyPost_ret (results_none rfl _ _ _) rfl ?_
        have hO : Only (fun j => j = p) w1 ((w1.setCell ⟨p, 2, none⟩ (.int .u64 (64 * (d : Int) + (t : Int)))).setCell ⟨p, 3, none⟩ (.bool true)) := ((Only.refl (fun j => j = p) _).setCell ⟨p, 2, none⟩ _ (fun _ => rfl)).setCell ⟨p, 3, none⟩ _ (fun _ => rfl)
        refine ⟨rfl, hO, .inr ⟨64 * d + t, hi_word (fun j h1 h2 => HZ.out j (by omega) (by rw [HN.out] at h2; exact h2)) ht64 (by rw [HX.out]; exact HT.out.2), H.out.set3 _ _ _ ?_ hO⟩⟩
        have h3 := setCell_heap (setCell_heap H.out.obj 2 (.int .u64 (64 * (d : Int) + (t : Int)))) 3 (.bool true)
        rw [show ((64 * d + t : Nat) : Int) = 64 * (d : Int) + (t : Int) by omega]
        exact h3
    · have hkn : ¬ (0 : Int) ≤ k := by omega
      obtain rfl : k = -1 := by omega
      go_wp2_with fail
      go_end0
      have hO : Only (fun j => j = p) w (((w.setCell ⟨p, 3, none⟩ (.bool false)).setCell ⟨p, 2, none⟩ (.int .u64 0)).setCell ⟨p, 1, none⟩ (.int .u64 0)) := (((Only.refl (fun j => j = p) _).setCell ⟨p, 3, none⟩ _ (fun _ => rfl)).setCell ⟨p, 2, none⟩ _ (fun _ => rfl)).setCell ⟨p, 1, none⟩ _ (fun _ => rfl)
      refine ⟨rfl, hO, .inl ⟨no_words (fun j hj => HZ.out j (by omega) (by rw [HN.out] at hj; exact hj)), H.out.set3 _ _ _ ?_ hO⟩⟩
      exact setCell_heap (setCell_heap (setCell_heap H.out.obj 3 (.bool false)) 2 (.int .u64 0)) 1 (.int .u64 0)
end
end Go.Proofs.YtacjkbljokjdkaaGreat.ba
namespace Go.Proofs.YtacjkbljokjdkaaGreat.ba
open Go.RowKit Go.Proofs.YtacjkbljokjdkaaGreat.base Go.Proofs.YtacjkbljokjdkaaGreat.heap Go.Proofs.YtacjkbljokjdkaaGreat.rows Go.Proofs.YtacjkbljokjdkaaGreat.bit Go.Proofs.YtacjkbljokjdkaaGreat.bs
set_option linter.unusedVariables false
section
variable {w : World} {p c lo hi : Nat} {a : Option Addr} {ws : List Nat} {any : Bool}
set_option maxRecDepth 100000 in
theorem capD (h : Dn w p a c ws lo hi any) : Calls Tryz.prog 57 #[.pointer (some ⟨p, 0, none⟩)] w fun e w' => e = .returned (.int .u64 ((64 * ws.length : Nat) : Int)) ∧ w' = w := by
  obtain ⟨b, ha, hb, hbp, c0, c1, c2, c3, hf, hc, hfb⟩ := h.facts
  have hsm := h.sm
  clear h hc hf hfb
  generalize ws.length = n at *
  have h1 : IntKind.u64.wrap (n : Int) = (n : Int) := by rw [IntKind.wrap_u64]; omega
  have h2 : IntKind.u64.wrap ((n : Int) * 64) = (n : Int) * 64 := by rw [IntKind.wrap_u64]; omega
  have h3 : ((64 * n : Nat) : Int) = (n : Int) * 64 := by omega
  rw [h3]
  go_enter Tryz.func57, Tryz.ntmps57
  go_wp2
  go_ret
  first | exact ⟨rfl, rfl⟩ | exact ⟨ret_int (by omega), rfl⟩
set_option maxRecDepth 100000 in
theorem emptyD (h : Dn w p a c ws lo hi any) : Calls Tryz.prog 64 #[.pointer (some ⟨p, 0, none⟩)] w fun e w' => e = .returned (.bool (!any)) ∧ w' = w := by
  obtain ⟨b, ha, hb, hbp, c0, c1, c2, c3, hf, hc, hfb⟩ := h.facts
  clear h hc hf hfb
  go_enter Tryz.func64, Tryz.ntmps64
  go_wp2
  go_ret
  exact ⟨rfl, rfl⟩

set_option maxRecDepth 100000 in
set_option maxHeartbeats 1600000 in
theorem setOut (h : Dn w p a c ws lo hi any) (k : Nat) (hk : Lt64 k) (ho : 64 * ws.length ≤ k) : Calls Tryz.prog 68 #[.pointer (some ⟨p, 0, none⟩), .int .u64 (k : Int)] w fun e w' => e = .returned (.iface 115 (.int .u64 (k : Int))) ∧ w' = w := by
  have HC := Lib.hid (capD h)
  have ho' : ((64 * ws.length : Nat) : Int) ≤ (k : Int) := by omega
  generalize 64 * ws.length = n at *
  clear h ho hk
  go_enter Tryz.func68, Tryz.ntmps68
  go_wp2_with fail
  refine HC.out.mono ?_
  rintro e w1 ⟨rfl, rfl⟩
  go_wp2_with fail
  go_ret
  exact ⟨rfl, rfl⟩

def SetP (w : World) (p : Nat) (a : Option Addr) (c : Nat) (ws : List Nat) (lo hi : Nat) (any : Bool) (k : Nat) (e : Ending) (w' : World) : Prop :=
  e = .returned .nilIface ∧ Only (Ft p a) w w' ∧ ∃ lo' hi', Dn w' p a c (ws.set (k / 64) (ws.getD (k / 64) 0 ||| 2 ^ (k % 64))) lo' hi' true ∧ (any = false → lo' = k ∧ hi' = k) ∧ (any = true → lo' = min lo k ∧ hi' = max hi k)

theorem Dn.put {w w' : World} {p c lo hi lo' hi' : Nat} {a : Option Addr} {ws : List Nat} {any any' : Bool} (h : Dn w p a c ws lo hi any) {b : Nat} (ha : a = some ⟨b, 0, none⟩) (j x : Nat) (hj : j < ws.length) (hx : Lt64 x) (ho : Only (fun k => k = p) w w') (hw : w'.heap[p]? = some (.cells #[.slice a ws.length c, .int .u64 (lo' : Int), .int .u64 (hi' : Int), .bool any'] 90 (0, 0))) :
    Dn (w'.setCell ⟨b, j, none⟩ (.int .u64 (x : Int))) p a c (ws.set j x) lo' hi' any' ∧ Only (Ft p a) w (w'.setCell ⟨b, j, none⟩ (.int .u64 (x : Int))) := by
  have h1 := h.set3 lo' hi' any' hw ho
  have hbp : b ≠ p := fun e => h.nap (by rw [ha, e]; exact rfl)
  have hO : Only (fun k => k = b) w' (w'.setCell ⟨b, j, none⟩ (.int .u64 (x : Int))) := (Only.refl _ _).setCell _ _ (fun _ => rfl)
  refine ⟨⟨?_, ?_, h.ok.set j hx, h.nn, h.nap, by rw [List.length_set]; exact h.sm⟩, (ho.mono (fun k _ e => .inl e)).trans hO (fun k _ e => .inr (by rw [ha]; exact e.symm))⟩
  · rw [List.length_set]; exact hO.obj h1.obj (fun e => hbp e.symm)
  · rw [List.length_set, ← U_set]
    exact h1.row.set ha j _ rfl (by omega)
theorem Dn.drew {w : World} {p c lo hi : Nat} {a : Option Addr} {ws : List Nat} {any : Bool} (h : Dn w p a c ws lo hi any) (n : Nat) : Dn (w.drewN n) p a c ws lo hi any := h.still ((Only.refl _ _).drewN n)

set_option maxRecDepth 100000 in
set_option maxHeartbeats 1600000 in
theorem setD (h : Dn w p a c ws lo hi any) (hlh : lo ≤ hi) (k : Nat) (hk : k < 64 * ws.length) : Calls Tryz.prog 68 #[.pointer (some ⟨p, 0, none⟩), .int .u64 (k : Int)] w (SetP w p a c ws lo hi any k) := by
  have HC := Lib.hid (capD h)
  obtain ⟨b, ha, hb, hbp, c0, c1, c2, c3, hf, hc, hfb⟩ := h.facts
  have hsm := h.sm
  have HL64 : Hid (Lt64 k) := Lib.hid (by unfold Lt64; omega)
  have HIW : Hid (∀ wx, Calls Tryz.prog 38 #[.int .u64 (k : Int)] wx fun e w' => e = .returned (.tuple #[.int .u64 ((k / 64 : Nat) : Int), .int .u64 ((k % 64 : Nat) : Int)]) ∧ w' = wx) := Lib.hid (fun wx => indexW k HL64.out wx)
  have hko : ¬ ((64 * ws.length : Nat) : Int) ≤ (k : Int) := by omega
  have hj : k / 64 < ws.length := by omega
  have e0 := hc (k / 64) hj
  have HIN : Hid (∀ wx, Calls Tryz.prog 84 #[.int .u64 ((ws.getD (k / 64) 0 : Nat) : Int), .int .u64 ((k % 64 : Nat) : Int)] wx fun e w' => e = .returned (.int .u64 ((ws.getD (k / 64) 0 ||| 2 ^ (k % 64) : Nat) : Int)) ∧ w' = wx) := Lib.hid (fun wx => insertW _ _ (h.ok.at _) (Nat.mod_lt _ (by omega)) wx)
  have H := Lib.hid h
  have HX : Hid (Lt64 (ws.getD (k / 64) 0 ||| 2 ^ (k % 64))) := Lib.hid (lt64_or (h.ok.at _) (lt64_pow (Nat.mod_lt _ (by omega))))
  have f1 := hf 1
  have f2 := hf 2
  have f3 := hf 3
  have fb := hfb (k / 64)
  have HA := Lib.hid ha
  clear h hc hf hfb
  unfold SetP
  generalize ws.getD (k / 64) 0 ||| 2 ^ (k % 64) = y at *
  generalize ws.getD (k / 64) 0 = x at *
  generalize k / 64 = j at *
  generalize k % 64 = r at *
  obtain ⟨n, HN⟩ : ∃ n, Hid (ws.length = n) := ⟨_, Lib.hid rfl⟩
  rw [HN.out] at c0 hj HC hko hsm
  have hj' : (j : Int) < (n : Int) := by omega
  have hj0 : (0 : Int) ≤ (j : Int) := by omega
  generalize 64 * n = cp at *
  go_enter Tryz.func68, Tryz.ntmps68
  go_wp2_with fail
  refine HC.out.mono ?_
  rintro e w1 ⟨rfl, rfl⟩
  go_upto_if 17 with fail
  go_cut [5] (fun _ wx => Hid (∃ lo' hi' : Nat, wx.heap[p]? = some (.cells #[.slice a ws.length c, .int .u64 (lo' : Int), .int .u64 (hi' : Int), .bool true] 90 (0, 0)) ∧ Only (fun j => j = p) w1 wx ∧ (any = false → lo' = k ∧ hi' = k) ∧ (any = true → lo' = min lo k ∧ hi' = max hi k)))
  case first =>
    cases any with
    | false =>
      go_wp2_with fail
      go_meet
      exact Lib.hid ⟨k, k, setCell_heap (setCell_heap (setCell_heap H.out.obj 1 (.int .u64 (k : Int))) 2 (.int .u64 (k : Int))) 3 (.bool true), (((Only.refl (fun j => j = p) _).setCell ⟨p, 1, none⟩ _ (fun _ => rfl)).setCell ⟨p, 2, none⟩ _ (fun _ => rfl)).setCell ⟨p, 3, none⟩ _ (fun _ => rfl), fun _ => ⟨rfl, rfl⟩, fun h => by cases h⟩
    | true =>
      by_cases h1 : k < lo
      · have h1' : (k : Int) < (lo : Int) := by omega
        go_wp2_with fail
        go_meet
        exact Lib.hid ⟨k, hi, setCell_heap H.out.obj 1 (.int .u64 (k : Int)), (Only.refl (fun j => j = p) _).setCell ⟨p, 1, none⟩ _ (fun _ => rfl), (fun h => by cases h), fun _ => ⟨by omega, by omega⟩⟩
      · have h1' : ¬ (k : Int) < (lo : Int) := by omega
        by_cases h2 : hi < k
        · have h2' : (hi : Int) < (k : Int) := by omega
          go_wp2_with fail
          go_meet
          exact Lib.hid ⟨lo, k, setCell_heap H.out.obj 2 (.int .u64 (k : Int)), (Only.refl (fun j => j = p) _).setCell ⟨p, 2, none⟩ _ (fun _ => rfl), (fun h => by cases h), fun _ => ⟨by omega, by omega⟩⟩
        · have h2' : ¬ (hi : Int) < (k : Int) := by omega
          go_wp2_with fail
          go_meet
          exact Lib.hid ⟨lo, hi, H.out.obj, Only.refl _ _, (fun h => by cases h), fun _ => ⟨by omega, by omega⟩⟩
  case rest =>
    obtain ⟨w2, hw2⟩ : ∃ w2, w2 = wc := ⟨_, rfl⟩
    rw [← hw2] at hcut ⊢
    clear hw2
    obtain ⟨lo', hi', ho2, hO2, hA1, hA2⟩ := hcut.out
    have HO2 : Hid (w2.heap[p]? = some (.cells #[.slice a ws.length c, .int .u64 (lo' : Int), .int .u64 (hi' : Int), .bool true] 90 (0, 0)) ∧ Only (fun j => j = p) w1 w2 ∧ (any = false → lo' = k ∧ hi' = k) ∧ (any = true → lo' = min lo k ∧ hi' = max hi k)) := Lib.hid ⟨ho2, hO2, hA1, hA2⟩
    have d0 : w2.cell? ⟨p, 0, none⟩ = some (.slice (some ⟨b, 0, none⟩) n c) := by
      have := block_cell ho2 rfl (j := 0)
      rw [HN.out, HA.out] at this; exact this
    have d1 : w2.cell? ⟨b, j, none⟩ = some (.int .u64 (x : Int)) := (hO2.cell (p := ⟨b, j, none⟩) hb hbp).trans e0
    have d2 : w2.frozen? ⟨b, j, none⟩ = false := (hO2.frozen (p := ⟨b, j, none⟩) hb hbp).trans fb
    clear ho2 hO2 hA1 hA2 hcut c0 c1 c2 c3 e0 f1 f2 f3 fb HC
    go_wp2_with fail
    refine (HIW.out _).mono ?_
    rintro e w3 ⟨rfl, rfl⟩
    go_wp2_with fail
    refine wp_region_still_tail 15 (by kernel_rfl) (by kernel_rfl) ?_
    simp only [List.take_succ_cons, List.take_zero, List.drop_succ_cons, List.drop_zero]
    repeat still_step
    still_call (HIN.out _)
    repeat still_step
    refine wpStill_nil ?_
    go_wp2_with fail
    go_ret
    obtain ⟨g1, g2⟩ := H.out.put HA.out j y (by rw [HN.out]; exact hj) HX.out HO2.out.2.1 HO2.out.1
    exact ⟨rfl, g2.drew, lo', hi', g1.still ((Only.refl _ _).drew), HO2.out.2.2.1, HO2.out.2.2.2⟩

set_option maxRecDepth 100000 in
set_option maxHeartbeats 1600000 in
theorem countD (h : Dn w p a c ws lo hi any) : Calls Tryz.prog 59 #[.pointer (some ⟨p, 0, none⟩)] w fun e w' => e = .returned (.int .i64 ((nums ws ws.length).length : Int)) ∧ w' = w := by
  obtain ⟨b, ha, hb, hbp, c0, c1, c2, c3, hf, hc, hfb⟩ := h.facts
  have hbd := h.row.bound
  have hsm := h.sm
  have HOK := Lib.hid h.ok
  have HC := Lib.hid hc
  obtain ⟨n, HN⟩ : ∃ n, Hid (ws.length = n) := ⟨_, Lib.hid rfl⟩
  rw [HN.out] at c0 hbd hsm ⊢
  clear h hc hf hfb
  subst ha
  go_enter Tryz.func59, Tryz.ntmps59
  go_wp2_with fail
  go_loop [3, 11] (fun t i => ∃ k z : Nat, k ≤ n ∧ z ≤ 64 * k ∧ i = .int .i64 (k : Int) ∧ t = .int .i64 (z : Int) ∧ Hid ((nums ws k).length = z)) (fun _ i => n - (intOf i).toNat)
  case atStart => exact ⟨0, 0, Nat.zero_le _, Nat.zero_le _, rfl, rfl, Lib.hid rfl⟩
  case round =>
    obtain ⟨k, z, hk, hz, rfl, rfl, HZ⟩ := hrel
    by_cases hkn : k < n
    · have hkn' : (k : Int) < (n : Int) := by omega
      have e0 := HC.out k (by rw [HN.out]; exact hkn)
      have HPC := Lib.hid (onesCount (ws.getD k 0) (HOK.out.at k) w)
      have HP : Hid ((nums ws (k + 1)).length = z + Go.Proofs.YtacjkbljokjdkaaGreat.pop64.cnt 64 (ws.getD k 0)) := Lib.hid (by
        rw [nums_succ, List.length_append, HZ.out, Go.Proofs.YtacjkbljokjdkaaGreat.pop64.cnt_testBit]
        unfold wbits
        rw [List.length_map])
      have hle : Go.Proofs.YtacjkbljokjdkaaGreat.pop64.cnt 64 (ws.getD k 0) ≤ 64 := Go.Proofs.YtacjkbljokjdkaaGreat.pop64.cnt_le _ _
      generalize Go.Proofs.YtacjkbljokjdkaaGreat.pop64.cnt 64 (ws.getD k 0) = y at *
      generalize ws.getD k 0 = x at *
      go_wp2_with fail
      refine HPC.out.mono ?_
      rintro e w1 ⟨rfl, rfl⟩
      go_wp2_with fail
      go_round
      case rel => exact ⟨k + 1, z + y, by omega, by omega, by go_num, by go_num, HP⟩
      case measure => simp [intOf]; omega
    · have hkn' : ¬ (k : Int) < (n : Int) := by omega
      obtain rfl : k = n := by omega
      go_wp2_with fail
      go_ret
      exact ⟨by rw [HZ.out]; rfl, rfl⟩
end
end Go.Proofs.YtacjkbljokjdkaaGreat.ba
namespace Go.Proofs.YtacjkbljokjdkaaGreat.ba
open Go.RowKit Go.Proofs.YtacjkbljokjdkaaGreat.base Go.Proofs.YtacjkbljokjdkaaGreat.heap Go.Proofs.YtacjkbljokjdkaaGreat.rows Go.Proofs.YtacjkbljokjdkaaGreat.bit Go.Proofs.YtacjkbljokjdkaaGreat.bs
set_option linter.unusedVariables false
theorem make0_eq {P : Program} {e size : Nat} {t : Nat} {z : Value} {bytes : Nat} (kl kc : IntKind) (ht : P.underlying t = some (.slice e)) (h' : (P.info? e).map (fun i => (i.zero, i.size, i.bytes)) = some (some z, size, bytes)) (k : Nat)
    (hb : bytes * k ≤ 281474976710656) (hk : k ≤ 9223372036854775807) (w : World) :
    (Instr.makeSlice t (.int kl 0) (.int kc (k : Int))).run P w = .ok (.slice (some ⟨w.heap.size, 0, none⟩) 0 k) (w.alloc (.cells (madeCells z.cells (k * size)) e)) := by
  obtain ⟨i, hi, h1, h2, h3⟩ := info_parts h'
  have h := run_make (P := P) w t e i z ht hi h1 kl kc 0 (k : Int) (by omega) (by omega) (by rw [h3]; have : ((bytes * k : Nat) : Int) = (bytes : Int) * (k : Int) := Int.natCast_mul _ _; omega) (by omega)
  rw [h2, Int.toNat_natCast] at h
  exact h
theorem heap2_a (w : World) (A B : Obj) : ((w.alloc A).alloc B).drew.heap[w.heap.size]? = some A := by
  show ((w.heap.push A).push B)[w.heap.size]? = _
  rw [Array.getElem?_push, if_neg (by simp), Array.getElem?_push, if_pos rfl]
theorem heap2_b (w : World) (A B : Obj) : ((w.alloc A).alloc B).drew.heap[w.heap.size + 1]? = some B := by
  show ((w.heap.push A).push B)[w.heap.size + 1]? = _
  rw [Array.getElem?_push, if_pos (by simp)]
theorem nv_made {w : World} {vb g k : Nat} (h1 : w.heap[vb]? = some (.cells #[.slice (some ⟨g, 0, none⟩) 0 k] 24 (0, 0))) (h2 : w.heap[g]? = some (.cells (madeCells #[.int .u64 0] k) 34 (0, 0))) (hk : k ≤ 1000000000) (hn : g ≠ vb) : NV w vb (some ⟨g, 0, none⟩) k [] := by
  refine ⟨h1, ?_, hn⟩
  have := Own.of_block (e := 34) (size := 1) h2 0 k (Nat.zero_le _) (by unfold maxLen; omega) (by simp [madeCells]) (by simp)
  simpa [U] using this

/-- a list of numbers is handed back: it is new -/
def NumsP (L : List Nat) (w : World) (e : Ending) (w' : World) : Prop :=
  ∃ a cap, e = .returned (.slice a L.length cap) ∧ Own 34 1 w' a L.length cap (U L) ∧ Same w w' ∧ ∀ k, At a k → w.heap.size ≤ k
section
variable {w : World} {p c lo hi : Nat} {a : Option Addr} {ws : List Nat} {any : Bool}
set_option maxRecDepth 100000 in
set_option maxHeartbeats 1600000 in
theorem numsD (h : Dn w p a c ws lo hi any) (hlh : lo ≤ hi) (hhi : hi ≤ 64 * ws.length) : Calls Tryz.prog 69 #[.pointer (some ⟨p, 0, none⟩)] w (NumsP (nums ws ws.length) w) := by
  obtain ⟨b, ha, hb, hbp, c0, c1, c2, c3, hf, hc, hfb⟩ := h.facts
  have hsm := h.sm
  have hbd := h.row.bound
  have H := Lib.hid h
  obtain ⟨n, HN⟩ : ∃ n, Hid (ws.length = n) := ⟨_, Lib.hid rfl⟩
  rw [HN.out] at c0 hsm hhi hbd
  rw [HN.out]
  have hq : (lo : Int) / 4 = ((lo / 4 : Nat) : Int) := by omega
  have hs : IntKind.u64.wrap ((hi : Int) - ((lo / 4 : Nat) : Int)) = ((hi - lo / 4 : Nat) : Int) := by rw [IntKind.wrap_u64]; omega
  have hq2 : IntKind.u64.wrap ((lo / 4 : Nat) : Int) = ((lo / 4 : Nat) : Int) := by rw [IntKind.wrap_u64]; omega
  obtain ⟨q, HQ⟩ : ∃ q, Hid (lo / 4 = q) := ⟨_, Lib.hid rfl⟩
  obtain ⟨m, HM⟩ : ∃ m, Hid (hi - q = m) := ⟨_, Lib.hid rfl⟩
  rw [HQ.out] at hq hs hq2
  rw [HM.out] at hs
  have hm : m ≤ 64000000 := by have := HM.out; omega
  have hmk := make0_eq (P := Tryz.prog) (e := 34) (size := 1) (t := 24) (z := .int .u64 0) (bytes := 8) .i64 .u64 Tryz.underlying24 (by kernel_rfl) m (by omega) (by omega)
  clear h hc hf hfb
  go_enter Tryz.func69, Tryz.ntmps69
  go_upto_region 1 with fail
  go_cut [3] (fun t wx => ∃ vb : Nat, t = .pointer (some ⟨vb, 0, none⟩) ∧ Hid (∃ g, NV wx vb (some ⟨g, 0, none⟩) m [] ∧ Same w wx ∧ w.heap.size ≤ g ∧ w.heap.size ≤ vb))
  case first =>
    subst ha
    have n1 := World.new_ne w _ c1
    have n2 := World.new_ne w _ c2
    go_region_held3 (fun w' => w'.cell? ⟨p, 1, none⟩ = some (.int .u64 (lo : Int)) ∧ w'.cell? ⟨p, 2, none⟩ = some (.int .u64 (hi : Int))) (go_keep) (fail)
    all_goals
      go_wp2_with fail
      go_meet
      first
        | exact ⟨_, rfl, Lib.hid ⟨_, nv_made (heap2_b _ _ _) (heap2_a _ _ _) (by omega) (by omega), (((Only.refl _ _).alloc _).alloc _).drew, by omega, by omega⟩⟩
        | exact ⟨_, rfl, Lib.hid ⟨_, nv_made (heap2_a _ _ _) (heap2_b _ _ _) (by omega) (by omega), (((Only.refl _ _).alloc _).alloc _).drew, by omega, by omega⟩⟩
  case rest =>
    obtain ⟨vb, rfl, hcc⟩ := hcut
    obtain ⟨g, hnv, hsw, hg, hvb⟩ := hcc.out
    obtain ⟨w2, hw2⟩ : ∃ w2, w2 = wc := ⟨_, rfl⟩
    rw [← hw2] at hnv hsw ⊢
    have HI0 : Hid (NVs w2 w2 vb (some ⟨g, 0, none⟩) (some ⟨g, 0, none⟩) m (nums ws 0)) := Lib.hid ⟨hnv, Only.refl _ _, fun k hk => .inl hk⟩
    have HW2 : Hid (Same w w2 ∧ w.heap.size ≤ g ∧ w.heap.size ≤ vb) := Lib.hid ⟨hsw, hg, hvb⟩
    have d0 : w2.cell? ⟨p, 0, none⟩ = some (.slice (some ⟨b, 0, none⟩) n c) := (hsw.cell (World.block_lt_of_cell? w _ c0) id).trans c0
    clear hcc hnv hsw hg hvb hw2 hmk hq hs hq2 c1 c2 c3 c0
    go_wp2_with fail
    clear d0
    go_loopw [22] (fun i wr => ∃ (k : Nat) (a' : Option Addr) (cap' : Nat), k ≤ n ∧ i = .int .i64 (k : Int) ∧ Hid (NVs w2 wr vb (some ⟨g, 0, none⟩) a' cap' (nums ws k))) (fun i _ => n - (intOf i).toNat)
    case atStart => exact ⟨0, _, _, Nat.zero_le _, rfl, HI0⟩
    case round =>
      clear HI0
      obtain ⟨k, a', cap', hk, rfl, HI⟩ := hrel
      have HSF : Hid (∀ j, Ft p a j → ¬ NV.foot vb (some ⟨g, 0, none⟩) j) := Lib.hid (fun j hj hf => by
        have h1 := H.out.lt j hj
        have h2 := HW2.out
        rcases hf with e | e
        · omega
        · have : g = j := e
          omega)
      by_cases hkn : k < n
      · have hkn' : (k : Int) < (n : Int) := by omega
        obtain ⟨b', ha', _, _, _, _, _, _, _, hcw, _⟩ := ((H.out.still HW2.out.1).keep HI.out.only HSF.out).facts
        rw [ha] at ha'
        cases ha'
        have e0 := hcw k (by rw [HN.out]; exact hkn)
        have hln : (nums ws k).length < 1000000000 := by have := nums_len ws k; omega
        have h64 : IntKind.u64.wrap (k : Int) = (k : Int) := by rw [IntKind.wrap_u64]; omega
        have h65 : IntKind.u64.wrap ((k : Int) * 64) = ((64 * k : Nat) : Int) := by rw [IntKind.wrap_u64]; omega
        have HT : Hid (Calls Tryz.prog 85 #[.int .u64 ((ws.getD k 0 : Nat) : Int), .int .u64 ((64 * k : Nat) : Int), .pointer (some ⟨vb, 0, none⟩)] wr fun e w' => e = .returned (.tuple #[]) ∧ ∃ a2 cap2, NVs wr w' vb a' a2 cap2 (nums ws (k + 1))) := Lib.hid (by
          rw [nums_succ]
          exact toNumsW _ (64 * k) vb a' cap' (nums ws k) wr (H.out.ok.at k) (by omega) hln HI.out.nv)
        generalize ws.getD k 0 = x at *
        generalize 64 * k = k64 at *
        clear hcw hln
        go_wp2_with fail
        refine HT.out.mono ?_
        rintro e w3 ⟨rfl, a2, cap2, hn3⟩
        have HI3 : Hid (NVs w2 w3 vb (some ⟨g, 0, none⟩) a2 cap2 (nums ws (k + 1))) := Lib.hid (HI.out.trans hn3)
        clear hn3 HT
        go_wp2_with fail
        go_roundw
        case rel => exact ⟨k + 1, a2, cap2, by omega, by go_num, HI3⟩
        case measure => simp [intOf]; omega
      · have hkn' : ¬ (k : Int) < (n : Int) := by omega
        obtain rfl : k = n := by omega
        have e0 : wr.cell? ⟨vb, 0, none⟩ = some (.slice a' (nums ws k).length cap') := block_cell HI.out.nv.obj rfl
        go_wp2_with fail
        go_ret
        refine ⟨a', cap', rfl, HI.out.nv.row, new_only HW2.out.1 HI.out.only (fun j hf => ?_), fun j hj => ?_⟩
        · have h2 := HW2.out
          rcases hf with e | e
          · omega
          · have : g = j := e
            omega
        · have h2 := HW2.out
          rcases HI.out.fresh j hj with e | e
          · have : g = j := e
            omega
          · have := h2.1.size; omega
end
end Go.Proofs.YtacjkbljokjdkaaGreat.ba
