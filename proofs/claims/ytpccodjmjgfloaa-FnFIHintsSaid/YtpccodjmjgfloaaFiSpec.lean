/-
  The steps on a map of integers, the answers; what the map says in plain terms.
-/
import Derived.Test.YtpccodjmjgfloaaFiObj
namespace Go.Proofs.Ytpccodjmjgfloaa.fi
open Go.RowKit Go.Proofs.Ytpccodjmjgfloaa.base Go.Proofs.Ytpccodjmjgfloaa.heap Go.Proofs.Ytpccodjmjgfloaa.rows
set_option linter.unusedVariables false

structure Stp where
  op : Int
  k : Nat
  v : Nat
structure An where
  n : Nat
  yes : Bool
def stc (s : Stp) : List Value := [.int .i64 s.op, .int .u64 (s.k : Int), .int .u64 (s.v : Int)]
def anc (a : An) : List Value := [.int .u64 (a.n : Int), .bool a.yes]
theorem stc_get : ∀ (l : List Stp) (i : Nat) (s : Stp), l[i]? = some s → (l.flatMap stc)[i * 3]? = some (.int .i64 s.op) ∧ (l.flatMap stc)[i * 3 + 1]? = some (.int .u64 (s.k : Int)) ∧ (l.flatMap stc)[i * 3 + 2]? = some (.int .u64 (s.v : Int))
  | [], i, s, h => by simp at h
  | x :: l, 0, s, h => by simp at h; subst h; exact ⟨rfl, rfl, rfl⟩
  | x :: l, i + 1, s, h => by
    have := stc_get l i s (by simpa using h)
    rw [List.flatMap_cons]
    rw [List.getElem?_append_right (by show 3 ≤ _; omega), List.getElem?_append_right (by show 3 ≤ _; omega), List.getElem?_append_right (by show 3 ≤ _; omega)]
    show (l.flatMap stc)[(i + 1) * 3 - 3]? = _ ∧ (l.flatMap stc)[(i + 1) * 3 + 1 - 3]? = _ ∧ (l.flatMap stc)[(i + 1) * 3 + 2 - 3]? = _
    rw [show (i + 1) * 3 - 3 = i * 3 by omega, show (i + 1) * 3 + 1 - 3 = i * 3 + 1 by omega, show (i + 1) * 3 + 2 - 3 = i * 3 + 2 by omega]
    exact this
theorem anc_get : ∀ (l : List An) (i : Nat) (a : An), l[i]? = some a → (l.flatMap anc)[i * 2]? = some (.int .u64 (a.n : Int)) ∧ (l.flatMap anc)[i * 2 + 1]? = some (.bool a.yes)
  | [], i, s, h => by simp at h
  | x :: l, 0, s, h => by simp at h; subst h; exact ⟨rfl, rfl⟩
  | x :: l, i + 1, s, h => by
    have := anc_get l i s (by simpa using h)
    rw [List.flatMap_cons]
    rw [List.getElem?_append_right (by show 2 ≤ _; omega), List.getElem?_append_right (by show 2 ≤ _; omega)]
    show (l.flatMap anc)[(i + 1) * 2 - 2]? = _ ∧ (l.flatMap anc)[(i + 1) * 2 + 1 - 2]? = _
    rw [show (i + 1) * 2 - 2 = i * 2 by omega, show (i + 1) * 2 + 1 - 2 = i * 2 + 1 by omega]
    exact this
/-- a slice of steps; of answers -/
def RP (w : World) (a : Option Addr) (n cap : Nat) (l : List Stp) : Prop := Rd 3 w a n cap (l.flatMap stc) ∧ l.length = n
def RN (w : World) (a : Option Addr) (n cap : Nat) (l : List An) : Prop := Rd 2 w a n cap (l.flatMap anc) ∧ l.length = n
theorem RP.keep {w w' : World} {a : Option Addr} {n cap : Nat} {l : List Stp} {S : Nat → Prop} (h : RP w a n cap l) (ho : Only S w w') (hn : ∀ k, At a k → ¬ S k) : RP w' a n cap l := ⟨h.1.keep ho hn, h.2⟩
theorem RN.keep {w w' : World} {a : Option Addr} {n cap : Nat} {l : List An} {S : Nat → Prop} (h : RN w a n cap l) (ho : Only S w w') (hn : ∀ k, At a k → ¬ S k) : RN w' a n cap l := ⟨h.1.keep ho hn, h.2⟩
theorem RP.at {w : World} {a : Option Addr} {n cap : Nat} {l : List Stp} (h : RP w a n cap l) (h0 : 0 < n) :
    ∃ b off, a = some ⟨b, off, none⟩ ∧ b < w.heap.size ∧ ∀ i s, l[i]? = some s → w.cell? ⟨b, off + i * 3, none⟩ = some (.int .i64 s.op) ∧ w.cell? ⟨b, off + i * 3 + 1, none⟩ = some (.int .u64 (s.k : Int)) ∧ w.cell? ⟨b, off + i * 3 + 2, none⟩ = some (.int .u64 (s.v : Int)) := by
  obtain ⟨b, off, ha, hb, hc⟩ := h.1.cells h0
  exact ⟨b, off, ha, hb, fun i s hs => by
    obtain ⟨h1, h2, h3⟩ := stc_get l i s hs
    exact ⟨hc _ _ h1, by have := hc _ _ h2; rwa [← Nat.add_assoc] at this, by have := hc _ _ h3; rwa [← Nat.add_assoc] at this⟩⟩
theorem RN.at {w : World} {a : Option Addr} {n cap : Nat} {l : List An} (h : RN w a n cap l) (h0 : 0 < n) :
    ∃ b off, a = some ⟨b, off, none⟩ ∧ b < w.heap.size ∧ ∀ i s, l[i]? = some s → w.cell? ⟨b, off + i * 2, none⟩ = some (.int .u64 (s.n : Int)) ∧ w.cell? ⟨b, off + i * 2 + 1, none⟩ = some (.bool s.yes) := by
  obtain ⟨b, off, ha, hb, hc⟩ := h.1.cells h0
  exact ⟨b, off, ha, hb, fun i s hs => by
    obtain ⟨h1, h2⟩ := anc_get l i s hs
    exact ⟨hc _ _ h1, by have := hc _ _ h2; rwa [← Nat.add_assoc] at this⟩⟩

/-- the map in plain terms, and its count -/
abbrev Mp := Nat → Option Nat
def stepM (M : Mp) (s : Stp) : Mp := if s.op = 1 then (fun a => if a = s.k then some s.v else M a) else if s.op = 4 then (fun a => if a = s.k then none else M a) else M
def stepC (M : Mp) (c : Nat) (s : Stp) : Nat := if s.op = 1 then c + 1 else if s.op = 4 then (if (M s.k).isSome then c - 1 else c) else c
def stp (q : Mp × Nat) (s : Stp) : Mp × Nat := (stepM q.1 s, stepC q.1 q.2 s)
def mAt (l : List Stp) (k : Nat) : Mp × Nat := (l.take k).foldl stp (fun _ => none, 0)
theorem mAt_succ (l : List Stp) (k : Nat) (s : Stp) (h : l[k]? = some s) : mAt l (k + 1) = stp (mAt l k) s := by
  unfold mAt; rw [take_snoc l k s h, List.foldl_append]; rfl
theorem stepC_le (M : Mp) (c : Nat) (s : Stp) : stepC M c s ≤ c + 1 := by
  unfold stepC; split
  · exact Nat.le_refl _
  · split
    · split <;> omega
    · omega
theorem mAt_le (l : List Stp) (k : Nat) (hk : k ≤ l.length) : (mAt l k).2 ≤ k := by
  induction k with
  | zero => exact Nat.le_refl _
  | succ k ih =>
    have hs := List.getElem?_eq_getElem (show k < l.length by omega)
    rw [mAt_succ l k _ hs]
    have := stepC_le (mAt l k).1 (mAt l k).2 l[k]
    have := ih (by omega)
    show stepC _ _ _ ≤ _
    omega
/-- what a step answers -/
def ansOf (q : Mp × Nat) (s : Stp) : An := if s.op = 2 then ⟨(q.1 s.k).getD 0, (q.1 s.k).isSome⟩ else if s.op = 3 then ⟨0, (q.1 s.k).isSome⟩ else if s.op = 5 then ⟨q.2, false⟩ else ⟨0, false⟩
def Ans (q : Mp × Nat) (s : Stp) (a : An) : Prop := s.op ≠ 6 → a = ansOf q s
/-- the table holds what the map says -/
def Lk (T : Tb) (M : Mp) : Prop := ∀ k v, Has T k v ↔ M k = some v
theorem lk_empty (L : Nat) : Lk (empty L) (fun _ => none) := fun k v => ⟨fun h => absurd h (has_empty L k v), fun h => by cases h⟩
theorem lk_found {H : Nat → Nat} {L : Nat} {T : Tb} {M : Mp} {key i : Nat} (hok : Ok H L T) (hf : Found H L T key i) (hl : Lk T M) : (slot T i).map (·.v) = M key := by
  cases hs : slot T i with
  | none =>
    have hn := found_none hok hf hs
    cases hm : M key with
    | none => rfl
    | some v =>
      obtain ⟨j, p, hp, h1, _⟩ := (hl key v).2 hm
      exact absurd h1 (hn j p hp)
  | some p =>
    obtain ⟨d, _, _, _, h | ⟨q, hq, hk⟩⟩ := hf
    · rw [h] at hs; cases hs
    · rw [hs] at hq; cases hq
      exact ((hl key p.v).1 ⟨i, p, hs, hk, rfl⟩).symm
theorem lk_found' {H : Nat → Nat} {L : Nat} {T : Tb} {M : Mp} {key i : Nat} (hok : Ok H L T) (hf : Found H L T key i) (hl : Lk T M) : (slot T i).isSome = (M key).isSome := by
  rw [← lk_found hok hf hl, Option.isSome_map]
theorem lk_set {T T' : Tb} {M : Mp} {k v : Nat} (hl : Lk T M) (h : ∀ a u, Has T' a u ↔ (a ≠ k ∧ Has T a u) ∨ (a = k ∧ u = v)) : Lk T' (fun a => if a = k then some v else M a) := fun a u => by
  rw [h a u, hl a u]
  by_cases he : a = k
  · simp [he, eq_comm]
  · simp [he]
theorem lk_del {T T' : Tb} {M : Mp} {k : Nat} (hl : Lk T M) (h : ∀ a u, Has T' a u ↔ a ≠ k ∧ Has T a u) : Lk T' (fun a => if a = k then none else M a) := fun a u => by
  rw [h a u, hl a u]
  by_cases he : a = k
  · simp [he]
  · simp [he]
theorem lk_some {T : Tb} {M : Mp} {k : Nat} (hl : Lk T M) : (∃ v, Has T k v) ↔ (M k).isSome = true := by
  constructor
  · rintro ⟨v, h⟩; rw [(hl k v).1 h]; rfl
  · intro h
    obtain ⟨v, hv⟩ := Option.isSome_iff_exists.1 h
    exact ⟨v, (hl k v).2 hv⟩
end Go.Proofs.Ytpccodjmjgfloaa.fi
