/-
  Lists of places and words: a bit that is set. No program in sight.
-/
import Derived.Test.YtacjkbljokjdkaaBaList
namespace Go.Proofs.Ytacjkbljokjdkaa.ba
open Go.Proofs.Ytacjkbljokjdkaa.bit
set_option linter.unusedVariables false

theorem wd_char {P : List (Nat × Nat)} {f : Nat → Nat} (h : PAsc P) (h1 : ∀ j b, (j, b) ∈ P → f j = b) (h2 : ∀ j, (∀ b, (j, b) ∉ P) → f j = 0) (j : Nat) : wd P j = f j := by
  by_cases hj : ∃ b, (j, b) ∈ P
  · obtain ⟨b, hb⟩ := hj
    rw [wd_mem h hb, h1 j b hb]
  · have hn : ∀ b, (j, b) ∉ P := fun b hb => hj ⟨b, hb⟩
    rw [wd_none hn, h2 j hn]
/-- what a list of pairs of a sparse array is -/
def Good (P : List (Nat × Nat)) : Prop := PAsc P ∧ ∀ x ∈ P, Lt64 x.2 ∧ x.2 ≠ 0 ∧ x.1 < 2 ^ 57
theorem Good.nil : Good [] := ⟨Asc.nil, by simp⟩
theorem map_fst_take (P : List (Nat × Nat)) (i : Nat) : (P.take i).map (·.1) = (P.map (·.1)).take i := List.map_take
theorem map_snd_take (P : List (Nat × Nat)) (i : Nat) : (P.take i).map (·.2) = (P.map (·.2)).take i := List.map_take
theorem mem_fst {P : List (Nat × Nat)} {j : Nat} : j ∈ P.map (·.1) ↔ ∃ b, (j, b) ∈ P := by
  simp
/-- pairs that are turned at one place, or that have a further one -/
def pset (P : List (Nat × Nat)) (i j b : Nat) : List (Nat × Nat) := if j ∈ P.map (·.1) then P.take i ++ (j, b) :: P.drop (i + 1) else P.take i ++ (j, b) :: P.drop i
theorem pset_fst (P : List (Nat × Nat)) (h : PAsc P) (j b : Nat) : (pset P (at_ (P.map (·.1)) j) j b).map (·.1) = put (P.map (·.1)) j := by
  unfold pset put
  split
  · rename_i hm
    rw [List.map_append, List.map_cons, map_fst_take, List.map_drop]
    exact (drp_split h hm).symm
  · rw [List.map_append, List.map_cons, map_fst_take, List.map_drop]
theorem pset_mem {P : List (Nat × Nat)} (h : PAsc P) (j b : Nat) (x : Nat × Nat) : x ∈ pset P (at_ (P.map (·.1)) j) j b ↔ x = (j, b) ∨ (x ∈ P ∧ x.1 ≠ j) := by
  have hd := drop_ge h (k := j)
  have ht := take_lt (l := P.map (·.1)) (k := j)
  have hsplit : ∀ y, y ∈ P ↔ y ∈ P.take (at_ (P.map (·.1)) j) ∨ y ∈ P.drop (at_ (P.map (·.1)) j) := fun y => by rw [← List.mem_append, List.take_append_drop]
  have t1 : ∀ y ∈ P.take (at_ (P.map (·.1)) j), y.1 < j := fun y hy => ht y.1 (by rw [← map_fst_take]; exact List.mem_map.2 ⟨y, hy, rfl⟩)
  unfold pset
  split
  · rename_i hm
    have h2 := (mem_at h).1 hm
    rw [List.getElem?_map] at h2
    cases h3 : P[at_ (P.map (·.1)) j]? with
    | none => rw [h3] at h2; cases h2
    | some z =>
      rw [h3] at h2
      have hz : z.1 = j := by simpa using h2
      have hdr : P.drop (at_ (P.map (·.1)) j) = z :: P.drop (at_ (P.map (·.1)) j + 1) := by
        obtain ⟨hl, he⟩ := List.getElem?_eq_some_iff.1 h3
        rw [← he]; exact List.drop_eq_getElem_cons hl
      have t2 : ∀ y ∈ P.drop (at_ (P.map (·.1)) j + 1), j < y.1 := fun y hy => by
        have := h.drop (at_ (P.map (·.1)) j)
        rw [← List.map_drop, hdr, List.map_cons] at this
        have := (List.pairwise_cons.1 this).1 y.1 (List.mem_map.2 ⟨y, hy, rfl⟩)
        omega
      rw [List.mem_append, List.mem_cons, hsplit, hdr, List.mem_cons]
      constructor
      · rintro (h4 | h4 | h4)
        · have := t1 x h4; exact .inr ⟨.inl h4, by omega⟩
        · exact .inl h4
        · have := t2 x h4; exact .inr ⟨.inr (.inr h4), by omega⟩
      · rintro (h4 | ⟨h4 | h4 | h4, h5⟩)
        · exact .inr (.inl h4)
        · exact .inl h4
        · subst h4; exact absurd hz h5
        · exact .inr (.inr h4)
  · rename_i hm
    rw [List.mem_append, List.mem_cons, hsplit]
    constructor
    · rintro (h4 | h4 | h4)
      · have := t1 x h4; exact .inr ⟨.inl h4, by omega⟩
      · exact .inl h4
      · refine .inr ⟨.inr h4, fun e => hm ?_⟩
        rw [← e]; exact List.mem_map.2 ⟨x, List.mem_of_mem_drop h4, rfl⟩
    · rintro (h4 | ⟨h4 | h4, h5⟩)
      · exact .inr (.inl h4)
      · exact .inl h4
      · exact .inr (.inr h4)
theorem pset_asc {P : List (Nat × Nat)} (h : PAsc P) (j b : Nat) : PAsc (pset P (at_ (P.map (·.1)) j) j b) := by
  unfold PAsc
  rw [pset_fst P h]
  exact put_asc h j
theorem pset_wd {P : List (Nat × Nat)} (h : PAsc P) (j b i : Nat) : wd (pset P (at_ (P.map (·.1)) j) j b) i = if i = j then b else wd P i := by
  refine wd_char (f := fun i => if i = j then b else wd P i) (pset_asc h j b) (fun i c hm => ?_) (fun i hn => ?_) i
  · rcases (pset_mem h j b (i, c)).1 hm with e | ⟨h1, h2⟩
    · injection e with e1 e2
      simp [e1, e2]
    · have h2' : i ≠ j := h2
      simp only [h2', if_false]
      exact wd_mem h h1
  · have hij : i ≠ j := fun e => hn b ((pset_mem h j b (i, b)).2 (.inl (by rw [e])))
    simp only [hij, if_false]
    exact wd_none (fun c hc => hn c ((pset_mem h j b (i, c)).2 (.inr ⟨hc, hij⟩)))
/-- the pairs with a further bit -/
def pput (P : List (Nat × Nat)) (k : Nat) : List (Nat × Nat) := pset P (at_ (P.map (·.1)) (k / 64)) (k / 64) (wd P (k / 64) ||| 2 ^ (k % 64))
theorem pput_good {P : List (Nat × Nat)} (h : Good P) {k : Nat} (hk : k < 2 ^ 60) : Good (pput P k) := by
  refine ⟨pset_asc h.1 _ _, fun x hx => ?_⟩
  rcases (pset_mem h.1 _ _ x).1 hx with rfl | ⟨h1, _⟩
  · have hw : Lt64 (wd P (k / 64)) := by
      by_cases h0 : wd P (k / 64) = 0
      · rw [h0]; unfold Lt64; omega
      · exact (h.2 _ (wd_some h0)).1
    refine ⟨lt64_or hw (lt64_pow (Nat.mod_lt _ (by omega))), fun e => ?_, ?_⟩
    · have h2 : (wd P (k / 64) ||| 2 ^ (k % 64)).testBit (k % 64) = true := by simp [Nat.testBit_or, Nat.testBit_two_pow_self]
      have e' : wd P (k / 64) ||| 2 ^ (k % 64) = 0 := e
      rw [e'] at h2; simp at h2
    · show k / 64 < 2 ^ 57
      omega
  · exact h.2 x h1
theorem pput_rep {P : List (Nat × Nat)} (h : Good P) {l : List Nat} (hr : Rep (wd P) l) (k : Nat) : Rep (wd (pput P k)) (put l k) :=
  (rep_put hr (put_asc hr.1 k) (fun x => put_mem)).congr (fun j => by
    unfold pput
    rw [pset_wd h.1]
    by_cases e : j = k / 64
    · subst e; simp
    · simp [e])
theorem pput_len (P : List (Nat × Nat)) (h : PAsc P) (k : Nat) : (pput P k).length ≤ P.length + 1 := by
  have := put_len (P.map (·.1)) (k / 64)
  rw [← pset_fst P h (k / 64) (wd P (k / 64) ||| 2 ^ (k % 64)), List.length_map, List.length_map] at this
  exact this
/-- the words of the pairs with a further bit -/
theorem pput_snd {P : List (Nat × Nat)} (h : PAsc P) (k : Nat) : (pput P k).map (·.2) = ((if k / 64 ∈ P.map (·.1) then P.map (·.2) else (P.map (·.2)).take (at_ (P.map (·.1)) (k / 64)) ++ 0 :: (P.map (·.2)).drop (at_ (P.map (·.1)) (k / 64))).set (at_ (P.map (·.1)) (k / 64)) (wd P (k / 64) ||| 2 ^ (k % 64))) := by
  have hal := at_le (P.map (·.1)) (k / 64)
  rw [List.length_map] at hal
  unfold pput pset
  split
  · rename_i hm
    have h2 := (mem_at h).1 hm
    have hl := (List.getElem?_eq_some_iff.1 h2).1
    rw [List.map_append, List.map_cons, List.map_drop, map_snd_take]
    generalize at_ (P.map (·.1)) (k / 64) = i at *
    rw [List.length_map] at hl
    rw [List.set_eq_take_append_cons_drop, if_pos (by rw [List.length_map]; exact hl)]
  · rw [List.map_append, List.map_cons, List.map_drop, map_snd_take]
    generalize at_ (P.map (·.1)) (k / 64) = i at *
    have hlt : ((P.map (·.2)).take i).length = i := by rw [List.length_take, List.length_map]; omega
    rw [List.set_append_right _ _ (by omega), hlt, Nat.sub_self]
    rfl
/-- the word at the place that is turned -/
theorem pput_old {P : List (Nat × Nat)} (h : PAsc P) (k : Nat) : (if k / 64 ∈ P.map (·.1) then P.map (·.2) else (P.map (·.2)).take (at_ (P.map (·.1)) (k / 64)) ++ 0 :: (P.map (·.2)).drop (at_ (P.map (·.1)) (k / 64)))[at_ (P.map (·.1)) (k / 64)]? = some (wd P (k / 64)) := by
  have hal := at_le (P.map (·.1)) (k / 64)
  rw [List.length_map] at hal
  split
  · rename_i hm
    have h2 := (mem_at h).1 hm
    rw [List.getElem?_map] at h2 ⊢
    cases h3 : P[at_ (P.map (·.1)) (k / 64)]? with
    | none => rw [h3] at h2; cases h2
    | some z =>
      rw [h3] at h2
      have hz : z.1 = k / 64 := by simpa using h2
      have := wd_mem h (j := k / 64) (b := z.2) (by rw [← hz]; exact List.mem_of_getElem? h3)
      rw [this]; rfl
  · rename_i hm
    have hlt : ((P.map (·.2)).take (at_ (P.map (·.1)) (k / 64))).length = at_ (P.map (·.1)) (k / 64) := by rw [List.length_take, List.length_map]; omega
    rw [List.getElem?_append_right (by omega), hlt, Nat.sub_self, wd_none (fun b hb => hm (mem_fst.2 ⟨b, hb⟩))]
    rfl
/-- counting gives the place -/
theorem count_at {l : List Nat} (h : Asc l) (x n : Nat) (hn : l.length = n) : (List.range n).countP (fun i => !decide (x ≤ l.getD i 0)) = at_ l x := by
  have hle := at_le l x
  have : ∀ m, m ≤ n → (List.range m).countP (fun i => !decide (x ≤ l.getD i 0)) = min m (at_ l x) := by
    intro m
    induction m with
    | zero => intro _; simp
    | succ m ih =>
      intro hm
      rw [List.range_succ, List.countP_append, ih (by omega), List.countP_cons, List.countP_nil]
      have hg : l[m]? = some l[m] := List.getElem?_eq_getElem (by omega)
      have hd : l.getD m 0 = l[m] := by rw [List.getD_eq_getElem?_getD, hg]; rfl
      rw [hd]
      by_cases hlt : m < at_ l x
      · have h1 := at_below l x m _ hlt hg
        have : ¬ x ≤ l[m] := by omega
        simp [this]; omega
      · have h1 := drop_ge h (k := x) l[m] (List.mem_iff_getElem?.2 ⟨m - at_ l x, by rw [List.getElem?_drop, show at_ l x + (m - at_ l x) = m by omega]; exact hg⟩)
        simp [h1]; omega
  rw [this n (Nat.le_refl _)]
  omega
end Go.Proofs.Ytacjkbljokjdkaa.ba
