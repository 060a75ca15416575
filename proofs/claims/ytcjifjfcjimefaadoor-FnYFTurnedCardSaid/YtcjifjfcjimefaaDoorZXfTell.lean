/-
  Answers to all steps but the inserts.
-/
import Derived.Test.YtcjifjfcjimefaaDoorZXfInv
namespace Go.Proofs.YtcjifjfcjimefaaDoor.xf
open Go.RowKit Go.Proofs.YtcjifjfcjimefaaDoor.base Go.Proofs.YtcjifjfcjimefaaDoor.heap Go.Proofs.YtcjifjfcjimefaaDoor.rows
set_option linter.unusedVariables false

/-- what an answer says, but to an insert -/
def SaysT (L : List It) (s : Stp) (x : An) : Prop := s.op ≠ 1 → Says L s x
/-- the answers to steps -/
def RanT (l : List Stp) (As : List An) : Prop := As.length = l.length ∧ ∀ i s x, l[i]? = some s → As[i]? = some x → SaysT (runL (l.take i)) s x
theorem RanT.snoc {l : List Stp} {As : List An} (h : RanT l As) {s : Stp} {x : An} (hx : SaysT (runL l) s x) : RanT (l ++ [s]) (As ++ [x]) := by
  obtain ⟨h1, h2⟩ := h
  refine ⟨by simp [h1], fun i s' x' hs hx' => ?_⟩
  rcases Nat.lt_trichotomy i l.length with hi | hi | hi
  · rw [List.getElem?_append_left hi] at hs
    rw [List.getElem?_append_left (by omega)] at hx'
    rw [List.take_append_of_le_length (by omega)]
    exact h2 i s' x' hs hx'
  · subst hi
    rw [List.getElem?_append_right (by omega)] at hs
    rw [List.getElem?_append_right (by omega)] at hx'
    rw [h1] at hx'
    simp at hs hx'
    subst hs hx'
    rw [List.take_left']
    · exact hx
    · rfl
  · have h3 : (l ++ [s])[i]? = none := List.getElem?_eq_none (by simp; omega)
    rw [h3] at hs; cases hs
theorem slAn : SliceOf Tryd.prog 29 55 3 40 := SliceOf.mk (z := .agg #[.slice none 0 0, .int .u64 0, .bool false]) Tryd.underlying29 (by kernel_rfl) rfl
end Go.Proofs.YtcjifjfcjimefaaDoor.xf
