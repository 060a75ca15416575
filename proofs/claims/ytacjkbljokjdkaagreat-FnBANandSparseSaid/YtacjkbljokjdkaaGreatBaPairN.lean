/-
  The pairs that Nand leaves. No program in sight.
-/
import Derived.Test.YtacjkbljokjdkaaGreatBaPairs
namespace Go.Proofs.YtacjkbljokjdkaaGreat.ba
open Go.Proofs.YtacjkbljokjdkaaGreat.bit
set_option linter.unusedVariables false
/-- what is left of a pair -/
def gN (Q : List (Nat × Nat)) (x : Nat × Nat) : Option (Nat × Nat) := if nandW x.2 (wd Q x.1) = 0 then none else some (x.1, nandW x.2 (wd Q x.1))
def nandP (P Q : List (Nat × Nat)) : List (Nat × Nat) := P.filterMap (gN Q)
theorem gN_some {Q : List (Nat × Nat)} {x y : Nat × Nat} (h : gN Q x = some y) : y = (x.1, nandW x.2 (wd Q x.1)) ∧ nandW x.2 (wd Q x.1) ≠ 0 := by
  unfold gN at h
  split at h
  · cases h
  · rename_i h0; exact ⟨(Option.some.inj h).symm, h0⟩
theorem nandP_mem {P Q : List (Nat × Nat)} {y : Nat × Nat} : y ∈ nandP P Q ↔ ∃ x ∈ P, y = (x.1, nandW x.2 (wd Q x.1)) ∧ nandW x.2 (wd Q x.1) ≠ 0 := by
  unfold nandP
  rw [List.mem_filterMap]
  constructor
  · rintro ⟨x, hx, h⟩; exact ⟨x, hx, gN_some h⟩
  · rintro ⟨x, hx, rfl, h⟩; exact ⟨x, hx, by unfold gN; rw [if_neg h]⟩
theorem nandP_asc {Q : List (Nat × Nat)} : ∀ {P : List (Nat × Nat)}, PAsc P → PAsc (nandP P Q)
  | [], _ => Asc.nil
  | x :: P, h => by
    obtain ⟨h1, h2⟩ := List.pairwise_cons.1 (show Asc (x.1 :: P.map (·.1)) from h)
    have ih := nandP_asc (Q := Q) (P := P) h2
    unfold nandP
    rw [List.filterMap_cons]
    split
    · exact ih
    · rename_i y hy
      obtain ⟨rfl, _⟩ := gN_some hy
      refine List.pairwise_cons.2 ⟨fun z hz => ?_, ih⟩
      obtain ⟨t, ht, rfl⟩ := List.mem_map.1 hz
      obtain ⟨u, hu, rfl, _⟩ := nandP_mem.1 ht
      exact h1 _ (List.mem_map.2 ⟨u, hu, rfl⟩)
theorem nandP_good {P Q : List (Nat × Nat)} (h : Good P) : Good (nandP P Q) := ⟨nandP_asc h.1, fun y hy => by
  obtain ⟨x, hx, rfl, h0⟩ := nandP_mem.1 hy
  exact ⟨nandW_lt (h.2 x hx).1, h0, (h.2 x hx).2.2⟩⟩
theorem nandW_zero {x : Nat} (h : Lt64 x) : nandW x 0 = x := by
  apply Nat.eq_of_testBit_eq
  intro i
  rw [nandW_bit h lt64_zero]; simp
theorem zero_nandW (y : Nat) : nandW 0 y = 0 := by unfold nandW; simp
theorem nandP_wd {P Q : List (Nat × Nat)} (h : Good P) (j : Nat) : wd (nandP P Q) j = nandW (wd P j) (wd Q j) := by
  refine wd_char (f := fun j => nandW (wd P j) (wd Q j)) (nandP_asc h.1) (fun j b hb => ?_) (fun j hn => ?_) j
  · obtain ⟨x, hx, e, h0⟩ := nandP_mem.1 hb
    injection e with e1 e2
    subst e1
    show nandW (wd P x.1) (wd Q x.1) = b
    rw [wd_mem h.1 (j := x.1) (b := x.2) hx, e2]
  · show nandW (wd P j) (wd Q j) = 0
    by_cases h0 : nandW (wd P j) (wd Q j) = 0
    · exact h0
    · by_cases hp : wd P j = 0
      · rw [hp, zero_nandW]
      · exact absurd (nandP_mem.2 ⟨(j, wd P j), wd_some hp, rfl, h0⟩) (hn _)
theorem Good.lt {P : List (Nat × Nat)} (h : Good P) (j : Nat) : Lt64 (wd P j) := by
  by_cases h0 : wd P j = 0
  · rw [h0]; exact lt64_zero
  · exact (h.2 _ (wd_some h0)).1
theorem nandP_rep {P Q : List (Nat × Nat)} (hP : Good P) (hQ : Good Q) {a b : List Nat} (ha : Rep (wd P) a) (hb : Rep (wd Q) b) : Rep (wd (nandP P Q)) (nandL a b) := by
  have hs := nandL_spec ha.1 b
  exact (rep_nand hP.lt hQ.lt ha hb hs.1 hs.2).congr (fun j => (nandP_wd hP j).symm)
theorem nandP_len (P Q : List (Nat × Nat)) : (nandP P Q).length ≤ P.length := List.length_filterMap_le _ _
theorem nandP_snoc {P Q : List (Nat × Nat)} {k : Nat} {x : Nat × Nat} (h : P[k]? = some x) : nandP (P.take (k + 1)) Q = nandP (P.take k) Q ++ (gN Q x).toList := by
  unfold nandP
  rw [List.take_add_one, h, List.filterMap_append]
  congr 1
/-- the places ahead of o lie below all from i on -/
def Ahead (P Q : List (Nat × Nat)) (i o : Nat) : Prop := ∀ x ∈ P.drop i, ∀ y ∈ Q.take o, y.1 < x.1
theorem Ahead.zero (P Q : List (Nat × Nat)) (i : Nat) : Ahead P Q i 0 := fun x hx y hy => by simp at hy
theorem drop_mem {P : List (Nat × Nat)} {i : Nat} {x : Nat × Nat} (h : P[i]? = some x) : x ∈ P.drop i := List.mem_iff_getElem?.2 ⟨0, by rw [List.getElem?_drop]; exact h⟩
theorem drop_succ_mem {P : List (Nat × Nat)} {i : Nat} {x : Nat × Nat} (h : x ∈ P.drop (i + 1)) : x ∈ P.drop i := by
  obtain ⟨k, hk⟩ := List.mem_iff_getElem?.1 h
  rw [List.getElem?_drop] at hk
  exact List.mem_iff_getElem?.2 ⟨k + 1, by rw [List.getElem?_drop, show i + (k + 1) = i + 1 + k by omega]; exact hk⟩
theorem Ahead.left {P Q : List (Nat × Nat)} {i o : Nat} (h : Ahead P Q i o) : Ahead P Q (i + 1) o := fun x hx y hy => h x (drop_succ_mem hx) y hy
theorem Ahead.right {P Q : List (Nat × Nat)} {i o : Nat} (hP : PAsc P) (h : Ahead P Q i o) {x y : Nat × Nat} (hx : P[i]? = some x) (hy : Q[o]? = some y) (hlt : y.1 < x.1) : Ahead P Q i (o + 1) := fun u hu v hv => by
  rw [List.take_add_one, hy] at hv
  rcases List.mem_append.1 hv with h1 | h1
  · exact h u hu v h1
  · have : v = y := by simpa using h1
    subst this
    obtain ⟨k, hk⟩ := List.mem_iff_getElem?.1 hu
    rw [List.getElem?_drop] at hk
    rcases Nat.eq_zero_or_pos k with rfl | h0
    · rw [Nat.add_zero, hx] at hk; cases hk; exact hlt
    · have := Asc.get hP (i := i) (j := i + k) (x := x.1) (y := u.1) (by omega) (by rw [List.getElem?_map, hx]; rfl) (by rw [List.getElem?_map, hk]; rfl)
      omega
theorem Ahead.both {P Q : List (Nat × Nat)} {i o : Nat} (hP : PAsc P) (h : Ahead P Q i o) {x y : Nat × Nat} (hx : P[i]? = some x) (hy : Q[o]? = some y) (he : y.1 = x.1) : Ahead P Q (i + 1) (o + 1) := fun u hu v hv => by
  rw [List.take_add_one, hy] at hv
  rcases List.mem_append.1 hv with h1 | h1
  · exact h.left u hu v h1
  · have : v = y := by simpa using h1
    subst this
    obtain ⟨k, hk⟩ := List.mem_iff_getElem?.1 hu
    rw [List.getElem?_drop] at hk
    have := Asc.get hP (i := i) (j := i + 1 + k) (x := x.1) (y := u.1) (by omega) (by rw [List.getElem?_map, hx]; rfl) (by rw [List.getElem?_map, hk]; rfl)
    omega
theorem Ahead.none_end {P Q : List (Nat × Nat)} {i o : Nat} (h : Ahead P Q i o) (ho : o = Q.length) {x : Nat × Nat} (hx : P[i]? = some x) : wd Q x.1 = 0 := wd_none (fun b hb => by
  have := h x (drop_mem hx) (x.1, b) (by rw [List.take_of_length_le (by omega)]; exact hb)
  omega)
theorem Ahead.none_gap {P Q : List (Nat × Nat)} {i o : Nat} (hQ : PAsc Q) (h : Ahead P Q i o) {x y : Nat × Nat} (hx : P[i]? = some x) (hy : Q[o]? = some y) (hlt : x.1 < y.1) : wd Q x.1 = 0 := wd_none (fun b hb => by
  obtain ⟨k, hk⟩ := List.mem_iff_getElem?.1 hb
  rcases Nat.lt_or_ge k o with h1 | h1
  · have := h x (drop_mem hx) (x.1, b) (List.mem_iff_getElem?.2 ⟨k, by rw [List.getElem?_take, if_pos h1]; exact hk⟩)
    omega
  · rcases Nat.eq_or_lt_of_le h1 with rfl | h2
    · rw [hk] at hy; cases hy; simp at hlt
    · have := Asc.get hQ (i := o) (j := k) (x := y.1) (y := x.1) h2 (by rw [List.getElem?_map, hy]; rfl) (by rw [List.getElem?_map, hk]; rfl)
      omega)
end Go.Proofs.YtacjkbljokjdkaaGreat.ba
