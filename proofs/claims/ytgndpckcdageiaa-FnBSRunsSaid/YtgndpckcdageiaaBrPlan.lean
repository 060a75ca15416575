/-
  Steps on several lists of bits (plain).
-/
import Derived.Test.YtgndpckcdageiaaBsSpecD
import Derived.Test.YtgndpckcdageiaaBsLists
namespace Go.Proofs.Ytgndpckcdageiaa.bs
open Go.RowKit Go.Proofs.Ytgndpckcdageiaa.base Go.Proofs.Ytgndpckcdageiaa.heap Go.Proofs.Ytgndpckcdageiaa.bit
set_option linter.unusedVariables false
/-- a step -/
structure BSt where
  op : Nat
  on : Nat
  by_ : Nat
  a : Nat
  b : Nat
/-- what a step makes of the bits x (y: those of the other one) -/
def nextL (o : Nat) (x y : List Bool) (A B : Nat) : List Bool :=
  if o = 1 then put x A (A + 1) 1 else if o = 2 then put x A (A + 1) 0 else if o = 3 then put x A (A + 1) 2 else if o = 4 then put x A B 1 else if o = 5 then put x A B 2
  else if o = 6 then put x 0 x.length 0 else if o = 7 then put x 0 x.length 1 else if o = 8 then insertL x A else if o = 9 then deleteL x A else if o = 10 then x.take (A + 1)
  else if o = 11 then twoL (fun x y => x || y) x y (max x.length y.length) else if o = 12 then twoL (fun x y => x && !y) x y x.length else if o = 13 then twoL (fun x y => x ^^ y) x y (max x.length y.length)
  else if o = 15 then put x 0 x.length 2 else x
def OpK (o : Nat) : Prop := o = 1 ∨ o = 2 ∨ o = 3 ∨ o = 4 ∨ o = 5 ∨ o = 6 ∨ o = 7 ∨ o = 8 ∨ o = 9 ∨ o = 10 ∨ o = 11 ∨ o = 12 ∨ o = 13 ∨ o = 14 ∨ o = 15
/-- the step's own bits, the other one's, what it makes -/
def told (s : List (List Bool)) (t : BSt) : List Bool := nextL t.op (s.getD t.on []) (s.getD t.by_ []) t.a t.b
def after (s : List (List Bool)) (t : BSt) : List (List Bool) := if 13 < t.op then s ++ [told s t] else s.set t.on (told s t)
/-- a step that can be done -/
structure OkS (s : List (List Bool)) (t : BSt) : Prop where
  op : OpK t.op
  on : t.on < s.length
  by_ : t.by_ < s.length
  a : t.a < 600
  b : t.b < 600
  place : t.op = 8 ∨ t.op = 9 ∨ t.op = 10 → t.a < (s.getD t.on []).length
def afters (s : List (List Bool)) (T : List BSt) : List (List Bool) := T.foldl after s
/-- steps, one behind the other -/
def OkTs (s : List (List Bool)) : List BSt → Prop
  | [] => True
  | t :: T => OkS s t ∧ OkTs (after s t) T
def tolds (s : List (List Bool)) : List BSt → List (List Bool)
  | [] => []
  | t :: T => told s t :: tolds (after s t) T
theorem OkTs.at : ∀ {T : List BSt} {s : List (List Bool)} (h : OkTs s T) {j : Nat} {t : BSt}, T[j]? = some t → OkS (afters s (T.take j)) t
  | [], s, h, j, t, ht => by simp at ht
  | u :: T, s, h, 0, t, ht => by
    have e : u = t := by simpa using ht
    subst e; exact h.1
  | u :: T, s, h, j + 1, t, ht => by
    have h1 := OkTs.at (s := after s u) h.2 (j := j) (t := t) (by simpa using ht)
    exact h1
theorem OkTs.snoc : ∀ {T : List BSt} {s : List (List Bool)} (h : OkTs s T) {t : BSt}, OkS (afters s T) t → OkTs s (T ++ [t])
  | [], s, h, t, ht => ⟨ht, trivial⟩
  | u :: T, s, h, t, ht => ⟨h.1, OkTs.snoc (s := after s u) h.2 ht⟩
theorem tolds_snoc : ∀ (T : List BSt) (s : List (List Bool)) (t : BSt), tolds s (T ++ [t]) = tolds s T ++ [told (afters s T) t]
  | [], s, t => rfl
  | u :: T, s, t => by
    show told s u :: tolds (after s u) (T ++ [t]) = _
    rw [tolds_snoc T (after s u) t]; rfl
theorem tolds_len : ∀ (T : List BSt) (s : List (List Bool)), (tolds s T).length = T.length
  | [], s => rfl
  | u :: T, s => by simp [tolds, tolds_len T]
theorem tolds_get : ∀ (T : List BSt) (s : List (List Bool)) (j : Nat) (t : BSt), T[j]? = some t → (tolds s T)[j]? = some (told (afters s (T.take j)) t)
  | [], s, j, t, h => by simp at h
  | u :: T, s, 0, t, h => by
    have e : u = t := by simpa using h
    subst e; rfl
  | u :: T, s, j + 1, t, h => by
    have h1 := tolds_get T (after s u) j t (by simpa using h)
    simpa [tolds, afters] using h1
theorem afters_snoc (s : List (List Bool)) (T : List BSt) (t : BSt) : afters s (T ++ [t]) = after (afters s T) t := by
  unfold afters; rw [List.foldl_append]; rfl
/-- all of them are at most n long -/
def Short (n : Nat) (s : List (List Bool)) : Prop := ∀ x ∈ s, x.length ≤ n
theorem getD_short {n : Nat} {s : List (List Bool)} (h : Short n s) (i : Nat) : (s.getD i []).length ≤ n := by
  rw [List.getD_eq_getElem?_getD]
  cases hx : s[i]? with
  | none => simp
  | some x => simpa using h x (List.mem_of_getElem? hx)
end Go.Proofs.Ytgndpckcdageiaa.bs
