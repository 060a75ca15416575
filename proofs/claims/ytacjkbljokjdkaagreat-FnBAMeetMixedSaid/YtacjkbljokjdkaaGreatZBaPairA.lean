/-
  The pairs that And with a dense array leaves. No program in sight.
-/
import Derived.Test.YtacjkbljokjdkaaGreatMH
namespace Go.Proofs.YtacjkbljokjdkaaGreat.ba
open Go.Proofs.YtacjkbljokjdkaaGreat.bit
set_option linter.unusedVariables false
/-- what is left of a pair -/
def aF (W : Nat → Nat) (x : Nat × Nat) : Nat × Nat := (x.1, x.2 &&& W x.1)
def nz (x : Nat × Nat) : Bool := !decide (x.2 = 0)
def andP (P : List (Nat × Nat)) (W : Nat → Nat) : List (Nat × Nat) := (P.map (aF W)).filter nz
theorem aF_fst (P : List (Nat × Nat)) (W : Nat → Nat) : (P.map (aF W)).map (·.1) = P.map (·.1) := by
  rw [List.map_map]; rfl
theorem andP_mem {P : List (Nat × Nat)} {W : Nat → Nat} {y : Nat × Nat} : y ∈ andP P W ↔ ∃ x ∈ P, y = (x.1, x.2 &&& W x.1) ∧ x.2 &&& W x.1 ≠ 0 := by
  unfold andP
  rw [List.mem_filter, List.mem_map]
  constructor
  · rintro ⟨⟨x, hx, rfl⟩, h⟩
    exact ⟨x, hx, rfl, fun e => by simp [nz, aF, e] at h⟩
  · rintro ⟨x, hx, rfl, h⟩
    exact ⟨⟨x, hx, rfl⟩, by simpa [nz] using h⟩
theorem andP_good {P : List (Nat × Nat)} {W : Nat → Nat} (h : Good P) : Good (andP P W) := by
  refine ⟨?_, fun y hy => ?_⟩
  · unfold PAsc andP
    refine List.Pairwise.sublist ((List.filter_sublist (l := P.map (aF W)) (p := nz)).map (·.1)) ?_
    rw [aF_fst]; exact h.1
  · obtain ⟨x, hx, rfl, h0⟩ := andP_mem.1 hy
    exact ⟨lt64_and (h.2 x hx).1, h0, (h.2 x hx).2.2⟩
theorem andP_wd {P : List (Nat × Nat)} {W : Nat → Nat} (h : Good P) (j : Nat) : wd (andP P W) j = wd P j &&& W j := by
  refine wd_char (f := fun j => wd P j &&& W j) (andP_good h).1 (fun j b hb => ?_) (fun j hn => ?_) j
  · obtain ⟨x, hx, e, h0⟩ := andP_mem.1 hb
    injection e with e1 e2
    subst e1
    show wd P x.1 &&& W x.1 = b
    rw [wd_mem h.1 (j := x.1) (b := x.2) hx, e2]
  · show wd P j &&& W j = 0
    by_cases h0 : wd P j &&& W j = 0
    · exact h0
    · by_cases hp : wd P j = 0
      · rw [hp]; simp
      · exact absurd (andP_mem.2 ⟨(j, wd P j), wd_some hp, rfl, h0⟩) (hn _)
theorem andP_rep {P : List (Nat × Nat)} {W : Nat → Nat} (hP : Good P) {a b : List Nat} (ha : Rep (wd P) a) (hb : Rep W b) : Rep (wd (andP P W)) (andL a b) := by
  have hs := andL_spec ha.1 b
  exact (rep_and ha hb hs.1 hs.2).congr (fun j => (andP_wd hP j).symm)
theorem andP_len (P : List (Nat × Nat)) (W : Nat → Nat) : (andP P W).length ≤ P.length := by
  unfold andP
  have := List.length_filter_le nz (P.map (aF W))
  rw [List.length_map] at this
  exact this
/-- in the course of deleting -/
def Zk (M : List (Nat × Nat)) (k : Nat) : List (Nat × Nat) := (M.take k).filter nz ++ M.drop k
def zi (M : List (Nat × Nat)) (k : Nat) : Nat := ((M.take k).filter nz).length
theorem zi_le (M : List (Nat × Nat)) (k : Nat) : zi M k ≤ k := by
  unfold zi
  have := List.length_filter_le nz (M.take k)
  rw [List.length_take] at this; omega
theorem Zk_len (M : List (Nat × Nat)) (k : Nat) : (Zk M k).length = zi M k + (M.length - k) := by unfold Zk zi; rw [List.length_append, List.length_drop]
theorem Zk_get {M : List (Nat × Nat)} {k : Nat} {x : Nat × Nat} (h : M[k]? = some x) : (Zk M k)[zi M k]? = some x := by
  unfold Zk zi
  rw [List.getElem?_append_right (Nat.le_refl _), Nat.sub_self, List.getElem?_drop]; exact h
theorem drop_cons {M : List (Nat × Nat)} {k : Nat} {x : Nat × Nat} (h : M[k]? = some x) : M.drop k = x :: M.drop (k + 1) := by
  obtain ⟨hl, he⟩ := List.getElem?_eq_some_iff.1 h
  rw [← he]; exact List.drop_eq_getElem_cons hl
theorem Zk_zero {M : List (Nat × Nat)} {k : Nat} {x : Nat × Nat} (h : M[k]? = some x) (h0 : x.2 = 0) : (Zk M k).eraseIdx (zi M k) = Zk M (k + 1) ∧ zi M (k + 1) = zi M k := by
  have e : (M.take (k + 1)).filter nz = (M.take k).filter nz := by
    rw [List.take_add_one, h, List.filter_append]
    have : nz x = false := by simp [nz, h0]
    simp [this]
  refine ⟨?_, by unfold zi; rw [e]⟩
  unfold Zk zi
  rw [e, List.eraseIdx_append_of_length_le (Nat.le_refl _), Nat.sub_self, drop_cons h]; rfl
theorem Zk_nz {M : List (Nat × Nat)} {k : Nat} {x : Nat × Nat} (h : M[k]? = some x) (h0 : x.2 ≠ 0) : Zk M (k + 1) = Zk M k ∧ zi M (k + 1) = zi M k + 1 := by
  have e : (M.take (k + 1)).filter nz = (M.take k).filter nz ++ [x] := by
    rw [List.take_add_one, h, List.filter_append]
    have : nz x = true := by simp [nz, h0]
    simp [this]
  refine ⟨?_, by unfold zi; rw [e, List.length_append]; rfl⟩
  unfold Zk
  rw [e, drop_cons h]; simp
theorem Zk_end (M : List (Nat × Nat)) : Zk M M.length = M.filter nz := by unfold Zk; rw [List.take_of_length_le (Nat.le_refl _), List.drop_of_length_le (Nat.le_refl _), List.append_nil]
/-- the words, of which k are reckoned -/
def bk (P : List (Nat × Nat)) (W : Nat → Nat) (k : Nat) : List Nat := ((P.take k).map (aF W)).map (·.2) ++ (P.drop k).map (·.2)
theorem bk_zero (P : List (Nat × Nat)) (W : Nat → Nat) : bk P W 0 = P.map (·.2) := by simp [bk]
theorem bk_end (P : List (Nat × Nat)) (W : Nat → Nat) : bk P W P.length = (P.map (aF W)).map (·.2) := by simp [bk]
theorem bk_len (P : List (Nat × Nat)) (W : Nat → Nat) (k : Nat) (hk : k ≤ P.length) : (bk P W k).length = P.length := by simp [bk]; omega
theorem bk_get {P : List (Nat × Nat)} {W : Nat → Nat} {k : Nat} {x : Nat × Nat} (h : P[k]? = some x) : (bk P W k)[k]? = some x.2 := by
  have hl := (List.getElem?_eq_some_iff.1 h).1
  unfold bk
  have : (((P.take k).map (aF W)).map (·.2)).length = k := by simp; omega
  rw [List.getElem?_append_right (by omega), this, Nat.sub_self, drop_cons h]; rfl
theorem bk_set {P : List (Nat × Nat)} {W : Nat → Nat} {k : Nat} {x : Nat × Nat} (h : P[k]? = some x) : (bk P W k).set k (x.2 &&& W x.1) = bk P W (k + 1) := by
  have hl := (List.getElem?_eq_some_iff.1 h).1
  unfold bk
  have hk : (((P.take k).map (aF W)).map (·.2)).length = k := by simp; omega
  rw [List.set_append_right _ _ (by omega), hk, Nat.sub_self, drop_cons h, List.take_add_one, h]
  simp [aF]
end Go.Proofs.YtacjkbljokjdkaaGreat.ba
