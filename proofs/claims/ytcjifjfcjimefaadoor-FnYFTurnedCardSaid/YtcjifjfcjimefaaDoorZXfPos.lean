/-
  Places in a list in the order of its keys: plain.
-/
import Derived.Test.YtcjifjfcjimefaaDoorZXfAsk
namespace Go.Proofs.YtcjifjfcjimefaaDoor.xf
open Go.RowKit Go.Proofs.YtcjifjfcjimefaaDoor.base Go.Proofs.YtcjifjfcjimefaaDoor.heap Go.Proofs.YtcjifjfcjimefaaDoor.rows
set_option linter.unusedVariables false

/-- the place of the first entry whose key is not below a key -/
def pos : List It → Nat → Nat
  | [], _ => 0
  | y :: r, k => if y.1 < k then pos r k + 1 else 0
/-- is there an entry of a key? -/
def has (L : List It) (k : Nat) : Bool := match L[pos L k]? with
  | some y => y.1 == k
  | none => false
theorem pos_le (L : List It) (k : Nat) : pos L k ≤ L.length := by
  induction L with
  | nil => exact Nat.le_refl _
  | cons y r ih =>
    unfold pos
    split
    · simp; exact ih
    · simp
theorem pos_eq (L : List It) (k j : Nat) (hj : j ≤ L.length) (h : ∀ i y, i < j → L[i]? = some y → y.1 < k) (he : ∀ y, L[j]? = some y → ¬ y.1 < k) : pos L k = j := by
  induction L generalizing j with
  | nil => simp at hj; subst hj; rfl
  | cons y r ih =>
    cases j with
    | zero =>
      have := he y rfl
      unfold pos
      rw [if_neg this]
    | succ j =>
      have h0 := h 0 y (by omega) rfl
      unfold pos
      rw [if_pos h0, ih j (by simpa using hj) (fun i z hi hz => h (i + 1) z (by omega) (by simpa using hz)) (fun z hz => he z (by simpa using hz))]
theorem put_pos (L : List It) (k : Nat) (v : Int) : put L k v = L.take (pos L k) ++ (k, v) :: L.drop (if has L k then pos L k + 1 else pos L k) := by
  induction L with
  | nil => rfl
  | cons y r ih =>
    unfold put
    by_cases c1 : k < y.1
    · rw [if_pos c1]
      have hp : pos (y :: r) k = 0 := by unfold pos; rw [if_neg (by omega)]
      have hh : has (y :: r) k = false := by unfold has; rw [hp]; simp; omega
      rw [hh, hp]
      rfl
    · rw [if_neg c1]
      by_cases c2 : k = y.1
      · rw [if_pos c2]
        have hp : pos (y :: r) k = 0 := by unfold pos; rw [if_neg (by omega)]
        have hh : has (y :: r) k = true := by unfold has; rw [hp]; simp [c2]
        rw [hh, hp]
        rfl
      · rw [if_neg c2]
        have hp : pos (y :: r) k = pos r k + 1 := by conv => lhs; unfold pos
                                                     rw [if_pos (by omega)]
        have hh : has (y :: r) k = has r k := by unfold has; rw [hp, List.getElem?_cons_succ]
        rw [hh, hp, ih]
        cases has r k <;> simp
theorem fnd_has {L : List It} (ha : Asc L) (k : Nat) : fnd L k = if has L k then L[pos L k]? else none := by
  induction L with
  | nil => rfl
  | cons y r ih =>
    obtain ⟨h1, h2⟩ := List.pairwise_cons.1 ha
    by_cases c : y.1 < k
    · have hp : pos (y :: r) k = pos r k + 1 := by conv => lhs; unfold pos
                                                   rw [if_pos c]
      have hh : has (y :: r) k = has r k := by unfold has; rw [hp, List.getElem?_cons_succ]
      have hf : fnd (y :: r) k = fnd r k := by
        unfold fnd
        rw [List.find?_cons_of_neg (by simp; omega)]
      rw [hh, hp, hf, ih h2, List.getElem?_cons_succ]
    · have hp : pos (y :: r) k = 0 := by unfold pos; rw [if_neg c]
      by_cases e : y.1 = k
      · have hh : has (y :: r) k = true := by unfold has; rw [hp]; simp [e]
        rw [hh, hp]
        unfold fnd
        rw [List.find?_cons_of_pos (by simp [e])]
        rfl
      · have hh : has (y :: r) k = false := by unfold has; rw [hp]; simp [e]
        rw [hh]
        unfold fnd
        rw [List.find?_eq_none.2]
        · rfl
        · intro z hz
          rcases List.mem_cons.1 hz with rfl | hz
          · simp [e]
          · have := h1 z hz
            simp; omega
end Go.Proofs.YtcjifjfcjimefaaDoor.xf
