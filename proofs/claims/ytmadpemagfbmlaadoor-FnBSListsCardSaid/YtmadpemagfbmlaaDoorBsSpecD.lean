/-
  The reference's functions on truth values, further: BSGrow, BSPut, BSOf, BSLast, BLBits.
-/
import Derived.Test.YtmadpemagfbmlaaDoorBsSpecC
namespace Go.Proofs.YtmadpemagfbmlaaDoor.bs
open Go.RowKit Go.Proofs.YtmadpemagfbmlaaDoor.base Go.Proofs.YtmadpemagfbmlaaDoor.heap Go.Proofs.YtmadpemagfbmlaaDoor.bit
set_option linter.unusedVariables false

/-- an empty slice of the call's own -/
theorem own_empty (e : Nat) (w w' : World) (b : Nat) (hb : w'.heap[b]? = some (.cells #[] e (0, 0))) : Own e 1 w' (some ⟨b, 0, none⟩) 0 0 [] := by
  have := Own.of_block (size := 1) hb 0 0 (Nat.le_refl _) (by unfold maxLen; omega) rfl (by simp)
  simpa using this

def grow (b : List Bool) (t : Nat) : List Bool := b ++ List.replicate (t - b.length) false
theorem grow_len (b : List Bool) (t : Nat) : (grow b t).length = max b.length t := by simp [grow]; omega
theorem grow_get (b : List Bool) (t i : Nat) : (grow b t).getD i false = b.getD i false := by
  unfold grow
  simp only [List.getD_eq_getElem?_getD, List.getElem?_append, List.getElem?_replicate]
  by_cases h : i < b.length
  · simp [h]
  · rw [if_neg h, List.getElem?_eq_none (by omega)]
    split <;> rfl
theorem grow_of_le {b : List Bool} {t : Nat} (h : t ≤ b.length) : grow b t = b := by simp [grow, Nat.sub_eq_zero_of_le h]

/-- how many elements a slice value has -/
def lenOf : Value → Nat | .slice _ n _ => n | _ => 0
theorem grow_succ {b : List Bool} {k : Nat} (h : b.length ≤ k) : grow b (k + 1) = grow b k ++ [false] := by
  unfold grow
  rw [show k + 1 - b.length = (k - b.length) + 1 from by omega, List.replicate_succ', List.append_assoc]

/-- the bits from one place up to another one: how 0 not set, 1 set, 2 turned -/
def putL (b : List Bool) (f t how : Nat) : List Bool := (List.range b.length).map fun i => if f ≤ i ∧ i < t then (how == 1 || (how == 2 && !b.getD i false)) else b.getD i false
theorem putL_len (b : List Bool) (f t how : Nat) : (putL b f t how).length = b.length := by simp [putL]
theorem putL_get (b : List Bool) (f t how i : Nat) (hi : i < b.length) : (putL b f t how).getD i false = if f ≤ i ∧ i < t then (how == 1 || (how == 2 && !b.getD i false)) else b.getD i false := by
  unfold putL
  simp only [List.getD_eq_getElem?_getD, List.getElem?_map]
  rw [List.getElem?_range hi]
  simp
theorem putL_none (b : List Bool) (f how : Nat) : putL b f f how = b := by
  apply ext_getD
  · exact putL_len _ _ _ _
  · intro i hi
    rw [putL_len] at hi
    rw [putL_get _ _ _ _ _ hi, if_neg (by omega)]
theorem putL_succ (b : List Bool) (f k how : Nat) (hf : f ≤ k) (hk : k < b.length) : putL b f (k + 1) how = (putL b f k how).set k (how == 1 || (how == 2 && !b.getD k false)) := by
  apply ext_getD
  · simp [putL_len]
  · intro i hi
    rw [putL_len] at hi
    rw [putL_get _ _ _ _ _ hi]
    simp only [List.getD_eq_getElem?_getD, List.getElem?_set, putL_len]
    by_cases h : k = i
    · subst h; rw [if_pos ⟨hf, by omega⟩, if_pos rfl, if_pos hk]; simp
    · have h2 := putL_get b f k how i hi
      rw [List.getD_eq_getElem?_getD] at h2
      rw [if_neg h, h2]
      by_cases h3 : f ≤ i ∧ i < k
      · rw [if_pos h3, if_pos ⟨h3.1, by omega⟩]; simp
      · rw [if_neg h3, if_neg (by omega)]; simp
theorem putL_far (b : List Bool) (f t t' how : Nat) (h : b.length ≤ t) (h' : b.length ≤ t') : putL b f t how = putL b f t' how := by
  apply ext_getD
  · simp [putL_len]
  · intro i hi
    rw [putL_len] at hi
    rw [putL_get _ _ _ _ _ hi, putL_get _ _ _ _ _ hi]
    by_cases h3 : f ≤ i
    · rw [if_pos ⟨h3, by omega⟩, if_pos ⟨h3, by omega⟩]
    · rw [if_neg (fun hh => h3 hh.1), if_neg (fun hh => h3 hh.1)]
/-- what BSPut answers -/
def put (b : List Bool) (f t how : Nat) : List Bool := if t ≤ f then b else putL (if how = 0 then b else grow b t) f t how

end Go.Proofs.YtmadpemagfbmlaaDoor.bs
