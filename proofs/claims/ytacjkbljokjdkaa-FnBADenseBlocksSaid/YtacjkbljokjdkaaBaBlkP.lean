/-
  The words of a set of bits that are not 0 (plain laws of blocks).
-/
import Derived.Test.YtacjkbljokjdkaaBaSpAsk
namespace Go.Proofs.Ytacjkbljokjdkaa.ba
open Go.RowKit Go.Proofs.Ytacjkbljokjdkaa.base Go.Proofs.Ytacjkbljokjdkaa.heap Go.Proofs.Ytacjkbljokjdkaa.rows Go.Proofs.Ytacjkbljokjdkaa.bit Go.Proofs.Ytacjkbljokjdkaa.bs
set_option linter.unusedVariables false
theorem good_self {P : List (Nat × Nat)} (h : Good P) : P = (P.map (·.1)).map (fun j => (j, wd P j)) := by
  rw [List.map_map]
  conv => lhs; rw [← List.map_id P]
  refine List.map_congr_left (fun x hx => ?_)
  show x = (x.1, wd P x.1)
  rw [wd_mem h.1 (j := x.1) (b := x.2) hx]
theorem good_fst {P : List (Nat × Nat)} (h : Good P) (j : Nat) : j ∈ P.map (·.1) ↔ wd P j ≠ 0 := by
  rw [mem_fst]
  constructor
  · rintro ⟨b, hb⟩
    rw [wd_mem h.1 hb]
    exact (h.2 _ hb).2.1
  · exact fun h0 => ⟨_, wd_some h0⟩
/-- rows of pairs are told by their words -/
theorem good_eq {P R : List (Nat × Nat)} (hP : Good P) (hR : Good R) (h : ∀ j, wd P j = wd R j) : P = R := by
  have e : P.map (·.1) = R.map (·.1) := Asc.eq hP.1 hR.1 (fun j => by rw [good_fst hP, good_fst hR, h])
  rw [good_self hP, good_self hR, e]
  exact List.map_congr_left (fun j _ => by rw [h])
/-- the words from j0 on that are not 0 -/
def nzP (f : Nat → Nat) (j0 : Nat) : Nat → List (Nat × Nat)
  | 0 => []
  | d + 1 => if f (j0 + d) = 0 then nzP f j0 d else nzP f j0 d ++ [(j0 + d, f (j0 + d))]
theorem nzP_mem {f : Nat → Nat} {j0 : Nat} {x : Nat × Nat} : ∀ {d : Nat}, x ∈ nzP f j0 d ↔ j0 ≤ x.1 ∧ x.1 < j0 + d ∧ x.2 = f x.1 ∧ x.2 ≠ 0
  | 0 => by simp [nzP]; omega
  | d + 1 => by
    have ih := nzP_mem (f := f) (j0 := j0) (x := x) (d := d)
    unfold nzP
    split
    · rename_i h0
      rw [ih]
      constructor
      · rintro ⟨h1, h2, h3, h4⟩; exact ⟨h1, by omega, h3, h4⟩
      · rintro ⟨h1, h2, h3, h4⟩
        refine ⟨h1, ?_, h3, h4⟩
        rcases Nat.lt_or_ge x.1 (j0 + d) with h | h
        · exact h
        · have : x.1 = j0 + d := by omega
          rw [this, h0] at h3; exact absurd h3 h4
    · rename_i h0
      rw [List.mem_append, ih]
      constructor
      · rintro (⟨h1, h2, h3, h4⟩ | h)
        · exact ⟨h1, by omega, h3, h4⟩
        · have : x = (j0 + d, f (j0 + d)) := by simpa using h
          subst this
          exact ⟨by simp, by simp, rfl, h0⟩
      · rintro ⟨h1, h2, h3, h4⟩
        rcases Nat.lt_or_ge x.1 (j0 + d) with h | h
        · exact .inl ⟨h1, h, h3, h4⟩
        · have e : x.1 = j0 + d := by omega
          refine .inr ?_
          obtain ⟨x1, x2⟩ := x
          have e' : x1 = j0 + d := e
          have h3' : x2 = f x1 := h3
          rw [h3', e']; simp
theorem nzP_asc {f : Nat → Nat} {j0 : Nat} : ∀ d, PAsc (nzP f j0 d)
  | 0 => Asc.nil
  | d + 1 => by
    have ih := nzP_asc (f := f) (j0 := j0) d
    unfold nzP
    split
    · exact ih
    · unfold PAsc
      rw [List.map_append]
      exact Asc.snoc ih (fun y hy => by
        obtain ⟨b, hb⟩ := mem_fst.1 hy
        exact (nzP_mem.1 hb).2.1)
theorem nzP_good {f : Nat → Nat} {j0 d : Nat} (hf : ∀ j, Lt64 (f j)) (hb : j0 + d ≤ 2 ^ 57) : Good (nzP f j0 d) :=
  ⟨nzP_asc d, fun x hx => by
    obtain ⟨h1, h2, h3, h4⟩ := nzP_mem.1 hx
    exact ⟨by rw [h3]; exact hf _, h4, by omega⟩⟩
theorem nzP_wd {f : Nat → Nat} {j0 d : Nat} (h0 : ∀ j, j < j0 ∨ j0 + d ≤ j → f j = 0) (j : Nat) : wd (nzP f j0 d) j = f j := by
  by_cases hz : f j = 0
  · rw [hz]
    exact wd_none (fun b hb => by
      obtain ⟨h1, h2, h3, h4⟩ := nzP_mem.1 hb
      exact h4 (by rw [h3]; exact hz))
  · refine wd_mem (nzP_asc d) (nzP_mem.2 ⟨?_, ?_, rfl, hz⟩)
    · rcases Nat.lt_or_ge j j0 with h | h
      · exact absurd (h0 j (.inl h)) hz
      · exact h
    · rcases Nat.lt_or_ge j (j0 + d) with h | h
      · exact h
      · exact absurd (h0 j (.inr h)) hz
/-- pairs written flat -/
def flatP (P : List (Nat × Nat)) : List Nat := P.flatMap (fun x => [x.1, x.2])
theorem flatP_snoc (P : List (Nat × Nat)) (x : Nat × Nat) : flatP (P ++ [x]) = flatP P ++ [x.1, x.2] := by
  unfold flatP; rw [List.flatMap_append]; simp
theorem flatP_len (P : List (Nat × Nat)) : (flatP P).length = 2 * P.length := by
  induction P with
  | nil => rfl
  | cons x P ih => show (([x.1, x.2] : List Nat) ++ flatP P).length = _; rw [List.length_append, ih]; simp; omega
/-- a bit that follows all the others: a new word, or the last word -/
theorem pput_last {P : List (Nat × Nat)} {l : List Nat} (h : Good P) (hr : Rep (wd P) l) {k : Nat} (hk : ∀ x ∈ l, x < k) (h60 : k < 2 ^ 60) :
    (∀ x ∈ P, x.1 ≤ k / 64) ∧ pput P k = if wd P (k / 64) = 0 then P ++ [(k / 64, 2 ^ (k % 64))] else P.take (P.length - 1) ++ [(k / 64, wd P (k / 64) ||| 2 ^ (k % 64))] := by
  have hle : ∀ x ∈ P, x.1 ≤ k / 64 := fun x hx => by
    obtain ⟨t, ht, e⟩ := pair_bit h hr hx
    have := hk t ht
    omega
  refine ⟨hle, ?_⟩
  unfold pput pset
  by_cases hz : wd P (k / 64) = 0
  · have hm : k / 64 ∉ P.map (·.1) := fun hm => (good_fst h _).1 hm hz
    have ha : at_ (P.map (·.1)) (k / 64) = P.length := at_eq (by rw [List.length_map]; exact Nat.le_refl _)
      (fun i x _ hx => by
        have hm2 := List.mem_of_getElem? hx
        obtain ⟨b, hb⟩ := mem_fst.1 hm2
        have h1 := hle _ hb
        have h2 : x ≠ k / 64 := fun e => hm (by rw [← e]; exact hm2)
        have h3 : x ≤ k / 64 := h1
        omega)
      (fun x hx => by
        have := (List.getElem?_eq_some_iff.1 hx).1
        rw [List.length_map] at this; omega)
    rw [if_neg hm, if_pos hz, ha, hz]
    simp
  · have hm : k / 64 ∈ P.map (·.1) := (good_fst h _).2 hz
    obtain ⟨b, hb⟩ := mem_fst.1 hm
    obtain ⟨t, ht⟩ := List.mem_iff_getElem?.1 hb
    have htl := (List.getElem?_eq_some_iff.1 ht).1
    have htf : (P.map (·.1))[t]? = some (k / 64) := by rw [List.getElem?_map, ht]; rfl
    have hlast : t = P.length - 1 := by
      rcases Nat.lt_or_ge (t + 1) P.length with h1 | h1
      · have hx : P[t + 1]? = some (P[t + 1]) := List.getElem?_eq_getElem h1
        have h2 := Asc.get h.1 (Nat.lt_succ_self t) htf (y := (P[t + 1]).1) (by rw [List.getElem?_map, hx]; rfl)
        have h3 := hle _ (List.mem_of_getElem? hx)
        omega
      · omega
    have ha : at_ (P.map (·.1)) (k / 64) = P.length - 1 := at_eq (by rw [List.length_map]; omega)
      (fun i x hi hx => Asc.get h.1 (by omega : i < t) hx htf)
      (fun x hx => by rw [← hlast, htf] at hx; cases hx; exact Nat.le_refl _)
    rw [if_pos hm, if_neg hz, ha, List.drop_of_length_le (by omega)]
theorem flatP_set (Q : List (Nat × Nat)) (a b c : Nat) : (flatP (Q ++ [(a, b)])).set (2 * Q.length + 1) c = flatP (Q ++ [(a, c)]) := by
  rw [flatP_snoc, flatP_snoc, List.set_append_right _ _ (by rw [flatP_len]; omega), flatP_len, show 2 * Q.length + 1 - 2 * Q.length = 1 by omega]
  rfl
theorem flatP_at (Q : List (Nat × Nat)) (a b : Nat) : (flatP (Q ++ [(a, b)]))[2 * Q.length]? = some a ∧ (flatP (Q ++ [(a, b)]))[2 * Q.length + 1]? = some b := by
  have hl := flatP_len Q
  rw [flatP_snoc]
  constructor
  · rw [List.getElem?_append_right (by omega), hl, Nat.sub_self]; rfl
  · rw [List.getElem?_append_right (by omega), hl, show 2 * Q.length + 1 - 2 * Q.length = 1 by omega]; rfl
/-- a new word -/
theorem pput_new {P : List (Nat × Nat)} {l : List Nat} (h : Good P) (hr : Rep (wd P) l) {k : Nat} (hk : ∀ x ∈ l, x < k) (h60 : k < 2 ^ 60) (hn : ∀ Q a b, P = Q ++ [(a, b)] → a ≠ k / 64) : pput P k = P ++ [(k / 64, 2 ^ (k % 64))] := by
  obtain ⟨hle, e⟩ := pput_last h hr hk h60
  rw [e, if_pos]
  by_cases hz : wd P (k / 64) = 0
  · exact hz
  · exfalso
    have hm := wd_some hz
    obtain ⟨t, ht⟩ := List.mem_iff_getElem?.1 hm
    have htl := (List.getElem?_eq_some_iff.1 ht).1
    have htf : (P.map (·.1))[t]? = some (k / 64) := by rw [List.getElem?_map, ht]; rfl
    have hlast : t = P.length - 1 := by
      rcases Nat.lt_or_ge (t + 1) P.length with h1 | h1
      · have hx : P[t + 1]? = some (P[t + 1]) := List.getElem?_eq_getElem h1
        have h2 := Asc.get h.1 (Nat.lt_succ_self t) htf (y := (P[t + 1]).1) (by rw [List.getElem?_map, hx]; rfl)
        have h3 := hle _ (List.mem_of_getElem? hx)
        omega
      · omega
    have hT := take_snoc P t _ ht
    rw [List.take_of_length_le (by omega)] at hT
    exact hn _ _ _ hT rfl
/-- the last word once more -/
theorem pput_more {Q : List (Nat × Nat)} {a b : Nat} {l : List Nat} (h : Good (Q ++ [(a, b)])) (hr : Rep (wd (Q ++ [(a, b)])) l) {k : Nat} (hk : ∀ x ∈ l, x < k) (h60 : k < 2 ^ 60) (ha : a = k / 64) : pput (Q ++ [(a, b)]) k = Q ++ [(a, b ||| 2 ^ (k % 64))] := by
  obtain ⟨hle, e⟩ := pput_last h hr hk h60
  have hw : wd (Q ++ [(a, b)]) (k / 64) = b := wd_mem h.1 (by rw [← ha]; simp)
  have hb : b ≠ 0 := (h.2 (a, b) (by simp)).2.1
  rw [e, hw, if_neg hb, ha]
  simp
/-- the pairs of a row of bits -/
def bkP (l : List Nat) : List (Nat × Nat) := l.foldl pput []
theorem bkP_snoc (l : List Nat) (k x : Nat) (h : l[k]? = some x) : bkP (l.take (k + 1)) = pput (bkP (l.take k)) x := by
  unfold bkP; rw [take_snoc l k x h, List.foldl_append]; rfl
theorem bkP_good {l : List Nat} (hl : Asc l) (h60 : ∀ x ∈ l, x < 2 ^ 60) : ∀ k, k ≤ l.length → Good (bkP (l.take k)) ∧ Rep (wd (bkP (l.take k))) (l.take k)
  | 0, _ => ⟨by simpa [bkP] using Good.nil, by
    have e : Rep (wd []) (pnums []) := pnums_rep (P := []) Good.nil.1
    exact e⟩
  | k + 1, hk => by
    obtain ⟨h1, h2⟩ := bkP_good hl h60 k (by omega)
    have hx : l[k]? = some (l[k]'(by omega)) := List.getElem?_eq_getElem _
    rw [bkP_snoc l k _ hx]
    refine ⟨pput_good h1 (h60 _ (List.mem_of_getElem? hx)), ?_⟩
    have h3 := pput_rep h1 h2 (l[k]'(by omega))
    have e : put (l.take k) (l[k]'(by omega)) = l.take (k + 1) := by
      refine Asc.eq (put_asc (hl.take k) _) (hl.take (k + 1)) (fun y => ?_)
      rw [put_mem, take_snoc l k _ hx, List.mem_append, List.mem_singleton, or_comm]
    rw [← e]; exact h3
end Go.Proofs.Ytacjkbljokjdkaa.ba
