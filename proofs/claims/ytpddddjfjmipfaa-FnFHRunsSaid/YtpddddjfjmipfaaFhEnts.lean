/-
  The entries of a heap, in the order of their numbers: the plain side of spec's heap.
-/
import Derived.Test.YtpddddjfjmipfaaFhSpec3
import Derived.Test.YtpddddjfjmipfaaFhRun
namespace Go.Proofs.Ytpddddjfjmipfaa.fh
open Go.RowKit Go.Proofs.Ytpddddjfjmipfaa.base Go.Proofs.Ytpddddjfjmipfaa.heap Go.Proofs.Ytpddddjfjmipfaa.rows Go.Proofs.Ytpddddjfjmipfaa.flt
set_option linter.unusedVariables false

/-- the entries that are there, with their numbers (the first one's is k) -/
def ents : Nat → Pris → List En
  | _, [] => []
  | k, none :: S => ents (k + 1) S
  | k, some p :: S => ⟨k, p⟩ :: ents (k + 1) S
theorem ents_append : ∀ (k : Nat) (S T : Pris), ents k (S ++ T) = ents k S ++ ents (k + S.length) T
  | k, [], T => by simp [ents]
  | k, none :: S, T => by
    show ents (k + 1) (S ++ T) = ents (k + 1) S ++ _
    rw [ents_append (k + 1) S T, List.length_cons]
    congr 2; omega
  | k, some p :: S, T => by
    show ⟨k, p⟩ :: ents (k + 1) (S ++ T) = (⟨k, p⟩ :: ents (k + 1) S) ++ _
    rw [ents_append (k + 1) S T, List.length_cons, List.cons_append]
    congr 3; omega
theorem ents_len : ∀ (k : Nat) (S : Pris), (ents k S).length = cnt S
  | k, [] => rfl
  | k, none :: S => by
    show (ents (k + 1) S).length = _
    rw [ents_len (k + 1) S]; rfl
  | k, some p :: S => by
    show (ents (k + 1) S).length + 1 = _
    rw [ents_len (k + 1) S]; rfl
theorem ents_mem : ∀ (k : Nat) (S : Pris) (x : En), x ∈ ents k S ↔ ∃ j, x.n = k + j ∧ S[j]? = some (some x.p)
  | k, [], x => by simp [ents]
  | k, none :: S, x => by
    show x ∈ ents (k + 1) S ↔ _
    rw [ents_mem (k + 1) S x]
    constructor
    · rintro ⟨j, h1, h2⟩
      exact ⟨j + 1, by omega, by simpa using h2⟩
    · rintro ⟨j, h1, h2⟩
      cases j with
      | zero => simp at h2
      | succ j => exact ⟨j, by omega, by simpa using h2⟩
  | k, some p :: S, x => by
    show x ∈ (⟨k, p⟩ : En) :: ents (k + 1) S ↔ _
    rw [List.mem_cons, ents_mem (k + 1) S x]
    constructor
    · rintro (rfl | ⟨j, h1, h2⟩)
      · exact ⟨0, rfl, rfl⟩
      · exact ⟨j + 1, by omega, by simpa using h2⟩
    · rintro ⟨j, h1, h2⟩
      cases j with
      | zero =>
        obtain ⟨xn, xp⟩ := x
        left
        simp at h2
        simp at h1
        rw [h1, h2]
      | succ j => exact .inr ⟨j, by omega, by simpa using h2⟩
theorem ents_low : ∀ (k : Nat) (S : Pris) (x : En), x ∈ ents k S → k ≤ x.n := fun k S x h => by
  obtain ⟨j, h1, _⟩ := (ents_mem k S x).1 h
  omega
theorem ents_inj : ∀ (k : Nat) (S : Pris) (i j : Nat) (x y : En), (ents k S)[i]? = some x → (ents k S)[j]? = some y → x.n = y.n → i = j
  | k, [], i, j, x, y, h, _, _ => by simp [ents] at h
  | k, none :: S, i, j, x, y, h, h', e => ents_inj (k + 1) S i j x y h h' e
  | k, some p :: S, i, j, x, y, h, h', e => by
    have h1 : ((⟨k, p⟩ : En) :: ents (k + 1) S)[i]? = some x := h
    have h2 : ((⟨k, p⟩ : En) :: ents (k + 1) S)[j]? = some y := h'
    cases i with
    | zero =>
      cases j with
      | zero => rfl
      | succ j =>
        simp at h1 h2
        have := ents_low (k + 1) S y (List.mem_of_getElem? h2)
        rw [← h1] at e
        have e' : k = y.n := e
        omega
    | succ i =>
      cases j with
      | zero =>
        simp at h1 h2
        have := ents_low (k + 1) S x (List.mem_of_getElem? h1)
        rw [← h2] at e
        have e' : x.n = k := e
        omega
      | succ j =>
        simp at h1 h2
        rw [ents_inj (k + 1) S i j x y h1 h2 e]
/-- where an entry stands; without it; with another priority -/
theorem ents_at {S : Pris} {j : Nat} {p : Int} (h : S[j]? = some (some p)) : (ents 0 S)[cnt (S.take j)]? = some ⟨j, p⟩ ∧ ents 0 (S.set j none) = (ents 0 S).eraseIdx (cnt (S.take j)) ∧ ∀ q, ents 0 (S.set j (some q)) = (ents 0 S).set (cnt (S.take j)) ⟨j, q⟩ := by
  have hj : j < S.length := (List.getElem?_eq_some_iff.1 h).1
  have hp : S[j] = some p := (List.getElem?_eq_some_iff.1 h).2
  have hS : S = S.take j ++ some p :: S.drop (j + 1) := by
    rw [← hp, List.getElem_cons_drop, List.take_append_drop]
  have hl : (S.take j).length = j := by rw [List.length_take]; omega
  have hset : ∀ x, S.set j x = S.take j ++ x :: S.drop (j + 1) := fun x => by
    rw [List.set_eq_take_append_cons_drop, if_pos hj]
  have he : ents 0 S = ents 0 (S.take j) ++ ⟨j, p⟩ :: ents (j + 1) (S.drop (j + 1)) := by
    have := ents_append 0 (S.take j) (some p :: S.drop (j + 1))
    rw [← hS, hl, Nat.zero_add] at this
    exact this
  have hc := ents_len 0 (S.take j)
  refine ⟨?_, ?_, fun q => ?_⟩
  · rw [he, List.getElem?_append_right (by omega), hc, Nat.sub_self]; rfl
  · rw [hset, ents_append, hl, Nat.zero_add, he, List.eraseIdx_append_of_length_le (by omega), hc, Nat.sub_self]; rfl
  · rw [hset, ents_append, hl, Nat.zero_add, he, List.set_append_right _ _ (by omega), hc, Nat.sub_self]; rfl
theorem ati_at {S : Pris} {j : Nat} {p : Int} (h : S[j]? = some (some p)) : ∀ r, AtI (ents 0 S) (j : Int) r → r = ((cnt (S.take j) : Nat) : Int) := fun r hr => by
  have h1 := (ents_at h).1
  rcases hr with ⟨i, e, hi, he, rfl⟩ | ⟨hn, _⟩
  · rw [ents_inj 0 S i _ e _ hi h1 (by show e.n = j; omega)]
  · exact absurd rfl (hn _ (List.mem_of_getElem? h1))
theorem ati_off {S : Pris} {x : Int} (h : ∀ (k : Nat) q, x = (k : Int) → S[k]? ≠ some (some q)) : ∀ r, AtI (ents 0 S) x r → r = -1 := fun r hr => by
  rcases hr with ⟨i, e, hi, he, rfl⟩ | ⟨_, h'⟩
  · obtain ⟨j, h1, h2⟩ := (ents_mem 0 S e).1 (List.mem_of_getElem? hi)
    exact absurd h2 (h j e.p (by omega))
  · exact h'
theorem ati_some (S : Pris) (x : Int) : ∃ r, ∀ r', AtI (ents 0 S) x r' → r' = r := by
  by_cases h : ∃ (k : Nat) (q : Int), x = (k : Int) ∧ S[k]? = some (some q)
  · obtain ⟨k, q, rfl, h⟩ := h
    exact ⟨_, ati_at h⟩
  · exact ⟨-1, ati_off (fun k q e h' => h ⟨k, q, e, h'⟩)⟩
theorem ents_none {S : Pris} (h : ∀ q, some q ∉ S) : ents 0 S = [] := by
  cases he : ents 0 S with
  | nil => rfl
  | cons x L =>
    obtain ⟨j, _, h2⟩ := (ents_mem 0 S x).1 (by rw [he]; exact List.mem_cons_self ..)
    exact absurd (List.mem_of_getElem? h2) (h x.p)
theorem ents_least {S : Pris} {i : Nat} {p : Int} (h : Lst S i p) : ∀ x ∈ ents 0 S, p ≤ x.p := fun x hx => by
  obtain ⟨j, _, h2⟩ := (ents_mem 0 S x).1 hx
  exact h.2 x.p (List.mem_of_getElem? h2)
theorem ents_snoc (S : Pris) (p : Int) : ents 0 (S ++ [some p]) = ents 0 S ++ [⟨S.length, p⟩] := by
  rw [ents_append, Nat.zero_add]; rfl
end Go.Proofs.Ytpddddjfjmipfaa.fh
