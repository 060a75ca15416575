/-
  The reference's lists of set bits: where a bit stands, a further one, without one, both, either. No program in sight.
-/
import Derived.Test.YtacjkbljokjdkaaBaBits
namespace Go.Proofs.Ytacjkbljokjdkaa.ba
open Go.Proofs.Ytacjkbljokjdkaa.bit
set_option linter.unusedVariables false

/-- how many are below a bit -/
def at_ (l : List Nat) (k : Nat) : Nat := (l.takeWhile fun x => decide (x < k)).length
theorem at_le (l : List Nat) (k : Nat) : at_ l k ≤ l.length := by
  unfold at_
  have := (List.takeWhile_prefix (fun x => decide (x < k)) (l := l)).length_le
  exact this
theorem at_below (l : List Nat) (k : Nat) : ∀ i x, i < at_ l k → l[i]? = some x → x < k := by
  intro i x hi hx
  have hp := List.takeWhile_prefix (fun x => decide (x < k)) (l := l)
  obtain ⟨r, hr⟩ := hp
  have h1 : (l.takeWhile fun x => decide (x < k))[i]? = some x := by
    rw [← hr, List.getElem?_append_left hi] at hx
    exact hx
  have h2 : x ∈ l.takeWhile fun x => decide (x < k) := List.mem_of_getElem? h1
  have h3 : ∀ y ∈ l.takeWhile (fun x => decide (x < k)), decide (y < k) = true := fun y hy => by
    have : (l.takeWhile fun x => decide (x < k)).all (fun x => decide (x < k)) = true := List.all_takeWhile
    exact List.all_eq_true.1 this y hy
  simpa using h3 x h2
theorem at_stop (l : List Nat) (k : Nat) : ∀ x, l[at_ l k]? = some x → k ≤ x := by
  intro x hx
  induction l with
  | nil => simp at hx
  | cons y l ih =>
    unfold at_ at hx ih
    rw [List.takeWhile_cons] at hx
    by_cases h : y < k
    · simp only [decide_eq_true h, if_true, List.length_cons] at hx
      exact ih (by simpa using hx)
    · simp only [decide_eq_false h] at hx
      simp at hx
      omega
/-- the place is found step by step -/
theorem at_eq {l : List Nat} {k n : Nat} (hn : n ≤ l.length) (h1 : ∀ i x, i < n → l[i]? = some x → x < k) (h2 : ∀ x, l[n]? = some x → k ≤ x) : at_ l k = n := by
  rcases Nat.lt_trichotomy (at_ l k) n with h | h | h
  · obtain ⟨x, hx⟩ : ∃ x, l[at_ l k]? = some x := ⟨_, List.getElem?_eq_getElem (by omega)⟩
    have a1 := at_stop l k x hx
    have a2 := h1 _ x h hx
    omega
  · exact h
  · obtain ⟨x, hx⟩ : ∃ x, l[n]? = some x := ⟨_, List.getElem?_eq_getElem (by have := at_le l k; omega)⟩
    have a1 := at_below l k n x h hx
    have a2 := h2 x hx
    omega
theorem mem_at {l : List Nat} (h : Asc l) {k : Nat} : k ∈ l ↔ l[at_ l k]? = some k := by
  constructor
  · intro hm
    obtain ⟨j, hj⟩ := List.mem_iff_getElem?.1 hm
    have hjl := (List.getElem?_eq_some_iff.1 hj).1
    have e : at_ l k = j := at_eq (by omega) (fun i x hi hx => h.get hi hx hj) (fun x hx => by rw [hj] at hx; cases hx; exact Nat.le_refl _)
    rw [e]; exact hj
  · exact fun h => List.mem_of_getElem? h
theorem take_lt {l : List Nat} {k : Nat} : ∀ x ∈ l.take (at_ l k), x < k := by
  intro x hx
  obtain ⟨i, hi⟩ := List.mem_iff_getElem?.1 hx
  have hil := (List.getElem?_eq_some_iff.1 hi).1
  rw [List.length_take] at hil
  rw [List.getElem?_take, if_pos (by omega)] at hi
  exact at_below l k i x (by omega) hi
theorem drop_ge {l : List Nat} (h : Asc l) {k : Nat} : ∀ x ∈ l.drop (at_ l k), k ≤ x := by
  intro x hx
  obtain ⟨i, hi⟩ := List.mem_iff_getElem?.1 hx
  rw [List.getElem?_drop] at hi
  obtain ⟨y, hy⟩ : ∃ y, l[at_ l k]? = some y := ⟨_, List.getElem?_eq_getElem (by have := (List.getElem?_eq_some_iff.1 hi).1; omega)⟩
  have h1 := at_stop l k y hy
  rcases Nat.eq_zero_or_pos i with rfl | hp
  · rw [Nat.add_zero, hy] at hi; cases hi; exact h1
  · have := h.get (show at_ l k < at_ l k + i by omega) hy hi
    omega
/-- with a further one -/
def put (l : List Nat) (k : Nat) : List Nat := if k ∈ l then l else l.take (at_ l k) ++ k :: l.drop (at_ l k)
/-- without one -/
def drp (l : List Nat) (k : Nat) : List Nat := if k ∈ l then l.take (at_ l k) ++ l.drop (at_ l k + 1) else l
theorem put_mem {l : List Nat} {k x : Nat} : x ∈ put l k ↔ x = k ∨ x ∈ l := by
  unfold put
  split
  · constructor
    · exact .inr
    · rintro (rfl | h) <;> assumption
  · rw [List.mem_append, List.mem_cons]
    have : x ∈ l ↔ x ∈ l.take (at_ l k) ∨ x ∈ l.drop (at_ l k) := by rw [← List.mem_append, List.take_append_drop]
    rw [this]
    constructor
    · rintro (h | h | h)
      · exact .inr (.inl h)
      · exact .inl h
      · exact .inr (.inr h)
    · rintro (h | h | h)
      · exact .inr (.inl h)
      · exact .inl h
      · exact .inr (.inr h)
theorem put_asc {l : List Nat} (h : Asc l) (k : Nat) : Asc (put l k) := by
  unfold put
  split
  · exact h
  · rename_i hk
    have hd : ∀ y ∈ l.drop (at_ l k), k < y := fun y hy => by
      have h1 := drop_ge h y hy
      have h2 : y ≠ k := fun e => hk (by rw [← e]; exact List.mem_of_mem_drop hy)
      omega
    refine (h.take _).append (List.pairwise_cons.2 ⟨hd, h.drop _⟩) (fun x hx y hy => ?_)
    have h1 := take_lt x hx
    rcases List.mem_cons.1 hy with rfl | hy
    · exact h1
    · have := hd y hy; omega
theorem put_len (l : List Nat) (k : Nat) : (put l k).length ≤ l.length + 1 := by
  unfold put
  split
  · omega
  · rw [List.length_append, List.length_cons, List.length_take, List.length_drop]; have := at_le l k; omega
theorem drp_split {l : List Nat} (h : Asc l) {k : Nat} (hk : k ∈ l) : l = l.take (at_ l k) ++ k :: l.drop (at_ l k + 1) := by
  have h1 := (mem_at h).1 hk
  obtain ⟨h2, h3⟩ := List.getElem?_eq_some_iff.1 h1
  conv => lhs; rw [← List.take_append_drop (at_ l k) l, List.drop_eq_getElem_cons h2, h3]
theorem drp_mem {l : List Nat} (h : Asc l) {k x : Nat} : x ∈ drp l k ↔ x ∈ l ∧ x ≠ k := by
  unfold drp
  split
  · rename_i hk
    have hs := drp_split h hk
    have hn := h.nodup
    rw [hs] at hn
    rw [List.nodup_append] at hn
    obtain ⟨n1, n2, n3⟩ := hn
    rw [List.nodup_cons] at n2
    constructor
    · intro hx
      rcases List.mem_append.1 hx with hx | hx
      · exact ⟨List.mem_of_mem_take hx, n3 x hx k (List.mem_cons_self ..)⟩
      · exact ⟨List.mem_of_mem_drop hx, fun e => n2.1 (by subst e; exact hx)⟩
    · rintro ⟨hx, hne⟩
      rw [hs] at hx
      rcases List.mem_append.1 hx with hx | hx
      · exact List.mem_append_left _ hx
      · rcases List.mem_cons.1 hx with hx | hx
        · exact absurd hx hne
        · exact List.mem_append_right _ hx
  · rename_i hk
    exact ⟨fun hx => ⟨hx, fun e => hk (by rw [← e]; exact hx)⟩, fun hx => hx.1⟩
theorem drp_asc {l : List Nat} (h : Asc l) (k : Nat) : Asc (drp l k) := by
  unfold drp
  split
  · rename_i hk
    have hs := drp_split h hk
    have h' : Asc (l.take (at_ l k) ++ k :: l.drop (at_ l k + 1)) := by rw [← hs]; exact h
    obtain ⟨a1, a2, a3⟩ := List.pairwise_append.1 h'
    obtain ⟨b1, b2⟩ := List.pairwise_cons.1 a2
    exact Asc.append a1 b2 (fun x hx y hy => a3 x hx y (List.mem_cons_of_mem _ hy))
  · exact h
theorem drp_len (l : List Nat) (k : Nat) : (drp l k).length ≤ l.length := by
  unfold drp
  split
  · rw [List.length_append, List.length_take, List.length_drop]; have := at_le l k; omega
  · omega
/-- either, both, the first alone -/
def orL (a b : List Nat) : List Nat := b.foldl put a
def andL (a b : List Nat) : List Nat := a.filter fun x => decide (x ∈ b)
def nandL (a b : List Nat) : List Nat := a.filter fun x => !decide (x ∈ b)
theorem orL_spec (b : List Nat) : ∀ {a : List Nat}, Asc a → Asc (orL a b) ∧ ∀ x, x ∈ orL a b ↔ x ∈ a ∨ x ∈ b := by
  induction b with
  | nil => intro a h; exact ⟨h, fun x => by simp [orL]⟩
  | cons y b ih =>
    intro a h
    obtain ⟨h1, h2⟩ := ih (put_asc h y)
    refine ⟨h1, fun x => ?_⟩
    have := h2 x
    show x ∈ orL (put a y) b ↔ _
    rw [this, put_mem, List.mem_cons]
    constructor
    · rintro ((h | h) | h)
      · exact .inr (.inl h)
      · exact .inl h
      · exact .inr (.inr h)
    · rintro (h | h | h)
      · exact .inl (.inr h)
      · exact .inl (.inl h)
      · exact .inr h
theorem andL_spec {a : List Nat} (h : Asc a) (b : List Nat) : Asc (andL a b) ∧ ∀ x, x ∈ andL a b ↔ x ∈ a ∧ x ∈ b := ⟨h.filter _, fun x => by simp [andL]⟩
theorem nandL_spec {a : List Nat} (h : Asc a) (b : List Nat) : Asc (nandL a b) ∧ ∀ x, x ∈ nandL a b ↔ x ∈ a ∧ ¬ x ∈ b := ⟨h.filter _, fun x => by simp [nandL]⟩
/-- from one on, at most so many -/
def fromL (l : List Nat) (k n : Nat) : List Nat := (l.drop (at_ l k)).take n
end Go.Proofs.Ytacjkbljokjdkaa.ba
