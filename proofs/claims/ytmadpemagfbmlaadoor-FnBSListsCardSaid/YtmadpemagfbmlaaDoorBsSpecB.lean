/-
  The reference's functions on Bits, further: BSSame, BSIn, BSBools.
-/
import Derived.Test.YtmadpemagfbmlaaDoorBsSpecA
namespace Go.Proofs.YtmadpemagfbmlaaDoor.bs
open Go.RowKit Go.Proofs.YtmadpemagfbmlaaDoor.base Go.Proofs.YtmadpemagfbmlaaDoor.heap Go.Proofs.YtmadpemagfbmlaaDoor.bit
set_option linter.unusedVariables false

theorem ones_eq_iff {a b : List Bool} (hl : a.length = b.length) : decide (ones a = ones b) = decide (a = b) := by
  by_cases h : a = b
  · subst h; simp
  · have : ones a ≠ ones b := fun e => h (ones_inj hl e)
    simp [h, this]

theorem last_lt {b : List Bool} (h : 0 < (ones b).length) : (ones b).getD ((ones b).length - 1) 0 < b.length := by
  have hm : (ones b).getD ((ones b).length - 1) 0 ∈ ones b := by
    rw [show (ones b).getD ((ones b).length - 1) 0 = (ones b)[(ones b).length - 1]'(by omega) from by simp [show (ones b).length - 1 < (ones b).length by omega]]
    exact List.getElem_mem _
  exact ones_lt hm

theorem marks_set (n : Nat) (l : List Nat) (x : Nat) (hx : x < n) : (marks n l).set x true = marks n (l ++ [x]) := by
  apply ext_getD
  · simp [marks_length]
  · intro i hi
    rw [List.length_set, marks_length] at hi
    rw [marks_get]
    simp only [List.getD_eq_getElem?_getD, List.getElem?_set, marks_length]
    by_cases h : x = i
    · subst h; simp [hx]
    · have := marks_get n l i
      simp only [List.getD_eq_getElem?_getD] at this
      simp [h, this, Ne.symm h, hi]
theorem marks_nil (n : Nat) : marks n [] = List.replicate n false := by
  apply ext_getD
  · simp [marks_length]
  · intro i hi
    rw [marks_get]
    simp only [List.getD_eq_getElem?_getD, List.getElem?_replicate]
    split <;> simp

end Go.Proofs.YtmadpemagfbmlaaDoor.bs
