/-
  Rows that are written over.
-/
import Derived.Test.YtcjifjfcjimefaaDoorMB
namespace Go.Proofs.YtcjifjfcjimefaaDoor.heap
open Go.RowKit Go.Proofs.YtcjifjfcjimefaaDoor.rows
set_option linter.unusedVariables false

/-- a part of a row is written over -/
theorem Own.over {e : Nat} {w w' : World} {g n cap off k : Nat} {xs ys : List Value} {cur : Array Value} (h : Own e 1 w (some ⟨g, 0, none⟩) n cap xs) (hb : w.heap[g]? = some (.cells cur e (0, 0))) (hw : w'.heap[g]? = some (.cells (cur.toList.take off ++ ys ++ cur.toList.drop (off + k)).toArray e (0, 0))) (hk : ys.length = k) (hn : off + k = n) (h1 : ∀ u ∈ ys, u.oneCell' = true) :
    Own e 1 w' (some ⟨g, 0, none⟩) n cap (xs.take off ++ ys) := by
  rcases h.alt with ⟨hc, _⟩ | ⟨b, cur', hb', hbb, hs, ht⟩
  · cases hc
  · cases hb'
    rw [hb] at hbb
    cases hbb
    have hle := h.le
    have hcl : cur.toList.length = cap := by rw [Array.length_toList, hs, Nat.mul_one]
    have hx : xs.take off = cur.toList.take off := by rw [← ht, List.take_take]; congr 1; omega
    have htl : (cur.toList.take off).length = off := by rw [List.length_take, hcl]; omega
    refine ⟨by rw [List.length_append, hx, htl, hk]; omega, hle, h.max, fun u hu => ?_, .inr ⟨g, _, rfl, hw, ?_, ?_⟩⟩
    · rcases List.mem_append.1 hu with hu | hu
      · exact h.one u (List.mem_of_mem_take hu)
      · exact h1 u hu
    · simp only [List.size_toArray, List.length_append, List.length_take, List.length_drop, hcl, hk]; omega
    · rw [hx]
      have : (cur.toList.take off ++ ys).length = n * 1 := by rw [List.length_append, htl, hk]; omega
      rw [← this]; exact List.take_left
theorem own_block {e : Nat} {w : World} {g n cap : Nat} {xs : List Value} (h : Own e 1 w (some ⟨g, 0, none⟩) n cap xs) : ∃ cur, w.heap[g]? = some (.cells cur e (0, 0)) ∧ cur.size = cap := by
  rcases h.alt with ⟨hc, _⟩ | ⟨b, cur, hb', hbb, hs, ht⟩
  · cases hc
  · cases hb'
    exact ⟨cur, hbb, by rw [hs, Nat.mul_one]⟩
theorem own_shift {e : Nat} {w w' : World} {g n N cap i m : Nat} {V : List Value} {z : Value} {cur : Array Value} (hN : n + 1 = N) (h : Own e 1 w (some ⟨g, 0, none⟩) N cap (V ++ [z])) (hL : V.length = n) (hi : i < n) (hb : w.heap[g]? = some (.cells cur e (0, 0)))
    (hm : m = n - i) (hw : w'.heap[g]? = some (.cells (cur.toList.take (i + 1) ++ ((V ++ [z]).drop i).take m ++ cur.toList.drop (i + 1 + m)).toArray e (0, 0))) : Own e 1 w' (some ⟨g, 0, none⟩) N cap ((V ++ [z]).take (i + 1) ++ V.drop i) := by
  have h4 : ((V ++ [z]).drop i).take m = V.drop i := by
    have e1 : (V ++ [z]).drop i = V.drop i ++ [z] := List.drop_append_of_le_length (by omega)
    have hl : (V.drop i).length = m := by rw [List.length_drop]; omega
    rw [e1, ← hl]; exact List.take_left
  rw [h4] at hw
  exact Own.over h hb hw (by rw [List.length_drop]; omega) (by omega) (fun u hu => h.one u (List.mem_append.2 (.inl (List.mem_of_mem_drop hu))))
theorem shift_ins {α : Type} (l : List α) (i : Nat) (x z : α) (h : i < l.length) : ((l ++ [z]).take (i + 1) ++ l.drop i).set i x = l.take i ++ x :: l.drop i := by
  have h1 : (l ++ [z]).take (i + 1) = l.take i ++ [l[i]] := by
    rw [List.take_append_of_le_length (by omega), List.take_succ_eq_append_getElem h]
  have h2 : (l.take i).length = i := by rw [List.length_take]; omega
  rw [h1, List.append_assoc, List.set_append_right _ _ (by omega), h2, Nat.sub_self]
  rfl
theorem set_same {cs : Array Value} {o : Nat} {v : Value} (h : cs[o]? = some v) : cs.setIfInBounds o v = cs := by
  apply Array.ext_getElem?
  intro i
  rw [Array.getElem?_setIfInBounds]
  have h1 := (Array.getElem?_eq_some_iff.1 h).1
  split
  · rename_i e; subst e; exact h.symm
  · rfl
theorem set_at {α : Type} (l : List α) (i : Nat) (x : α) (h : i < l.length) : l.set i x = l.take i ++ x :: l.drop (i + 1) := by
  rw [List.set_eq_take_append_cons_drop, if_pos h]
end Go.Proofs.YtcjifjfcjimefaaDoor.heap
