/-
  The least and the greatest of entries: plain.
-/
import Derived.Test.YtcjifjfcjimefaaDoorZXfAsk
namespace Go.Proofs.YtcjifjfcjimefaaDoor.xf
open Go.RowKit Go.Proofs.YtcjifjfcjimefaaDoor.base Go.Proofs.YtcjifjfcjimefaaDoor.heap Go.Proofs.YtcjifjfcjimefaaDoor.rows
set_option linter.unusedVariables false

/-- the lesser one; the greater one; the later one of equals -/
def lo (x y : It) : It := if y.1 ≤ x.1 then y else x
def hi (x y : It) : It := if x.1 ≤ y.1 then y else x
theorem put_head {L : List It} {x : It} (h : L.head? = some x) (y : It) : (put L y.1 y.2).head? = some (lo x y) := by
  cases L with
  | nil => simp at h
  | cons z r =>
    simp at h
    subst h
    unfold put lo
    by_cases c1 : y.1 < z.1
    · rw [if_pos c1, if_pos (by omega)]; rfl
    · rw [if_neg c1]
      by_cases c2 : y.1 = z.1
      · rw [if_pos c2, if_pos (by omega)]; rfl
      · rw [if_neg c2, if_neg (by omega)]; rfl
theorem last_ge {L : List It} (ha : Asc L) {x : It} (h : L.getLast? = some x) : ∀ z ∈ L, z.1 ≤ x.1 := by
  induction L with
  | nil => simp
  | cons y r ih =>
    obtain ⟨h1, h2⟩ := List.pairwise_cons.1 ha
    intro z hz
    cases r with
    | nil => simp at h hz; subst h hz; exact Nat.le_refl _
    | cons u r =>
      rw [List.getLast?_cons_cons] at h
      rcases List.mem_cons.1 hz with rfl | hz
      · have := h1 x (List.mem_of_getLast? h); omega
      · exact ih h2 h z hz
theorem put_ne (L : List It) (k : Nat) (v : Int) : put L k v ≠ [] := by
  cases L with
  | nil => simp [put]
  | cons y r =>
    unfold put
    split
    · simp
    · split <;> simp
theorem put_last {L : List It} (ha : Asc L) {x : It} (h : L.getLast? = some x) (y : It) : (put L y.1 y.2).getLast? = some (hi x y) := by
  induction L with
  | nil => simp at h
  | cons z r ih =>
    obtain ⟨h1, h2⟩ := List.pairwise_cons.1 ha
    unfold put hi
    have hz : z.1 ≤ x.1 := last_ge ha h z (List.mem_cons_self ..)
    by_cases c1 : y.1 < z.1
    · rw [if_pos c1, if_neg (by omega), List.getLast?_cons_cons]; exact h
    · rw [if_neg c1]
      by_cases c2 : y.1 = z.1
      · rw [if_pos c2]
        cases r with
        | nil => simp at h; subst h; rw [if_pos (by omega)]; rfl
        | cons u r =>
          rw [List.getLast?_cons_cons] at h ⊢
          have := h1 x (List.mem_of_getLast? h)
          rw [if_neg (by omega)]; exact h
      · rw [if_neg c2]
        cases r with
        | nil => simp at h; subst h; rw [if_pos (by omega)]; rfl
        | cons u r =>
          rw [List.getLast?_cons_cons] at h
          have h3 := ih h2 h
          unfold hi at h3
          obtain ⟨a, q, hq⟩ : ∃ a q, put (u :: r) y.1 y.2 = a :: q := by
            cases hp : put (u :: r) y.1 y.2 with
            | nil => exact absurd hp (put_ne _ _ _)
            | cons a q => exact ⟨a, q, rfl⟩
          rw [hq] at h3 ⊢
          rw [List.getLast?_cons_cons]
          exact h3
theorem puts_asc {L : List It} (h : Asc L) (l : List It) : Asc (puts L l) := by
  induction l generalizing L with
  | nil => exact h
  | cons y r ih => exact ih (put_asc h y.1 y.2)
/-- the least, the greatest of a list that is not empty -/
def least (x : It) (l : List It) : It := l.foldl lo x
def most (x : It) (l : List It) : It := l.foldl hi x
theorem least_snoc (x : It) (l : List It) (y : It) : least x (l ++ [y]) = lo (least x l) y := by simp [least]
theorem most_snoc (x : It) (l : List It) (y : It) : most x (l ++ [y]) = hi (most x l) y := by simp [most]
theorem puts_ends (x : It) (l : List It) : (puts [] (x :: l)).head? = some (least x l) ∧ (puts [] (x :: l)).getLast? = some (most x l) := by
  have key : ∀ (l : List It) (L : List It) (a b : It), Asc L → L.head? = some a → L.getLast? = some b → (puts L l).head? = some (least a l) ∧ (puts L l).getLast? = some (most b l) := by
    intro l
    induction l with
    | nil => exact fun L a b _ h1 h2 => ⟨h1, h2⟩
    | cons y r ih => exact fun L a b h h1 h2 => ih (put L y.1 y.2) (lo a y) (hi b y) (put_asc h y.1 y.2) (put_head h1 y) (put_last h h2 y)
  exact key l [(x.1, x.2)] x x (by simp [Asc]) rfl rfl
end Go.Proofs.YtcjifjfcjimefaaDoor.xf
