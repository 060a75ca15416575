/-
  Buckets: plain.
-/
import Derived.Test.YtcjifjfcjimefaaDoorZYKd
import Derived.Test.YtcjifjfcjimefaaDoorZXfPos
namespace Go.Proofs.YtcjifjfcjimefaaDoor.xf
open Go.RowKit Go.Proofs.YtcjifjfcjimefaaDoor.base Go.Proofs.YtcjifjfcjimefaaDoor.heap Go.Proofs.YtcjifjfcjimefaaDoor.rows
set_option linter.unusedVariables false

/-- the greatest key of a key's bucket -/
def bk (m k : Nat) : Nat := (k / m + 1) * m - 1
theorem bk_lt {m k : Nat} (hm : m = 8 ∨ m = 16 ∨ m = 32 ∨ m = 64) (hk : k < 2 ^ m) : bk m k < 2 ^ m := by
  unfold bk
  rcases hm with rfl | rfl | rfl | rfl <;> omega
/-- the entries of a bucket -/
def inB (m K : Nat) (L : List It) : List It := L.filter (fun y => bk m y.1 == K)
theorem put_lt {y : It} {r : List It} {k : Nat} {v : Int} (h : k < y.1) : put (y :: r) k v = (k, v) :: y :: r := by unfold put; rw [if_pos h]
theorem put_eq {y : It} {r : List It} {k : Nat} {v : Int} (h : k = y.1) : put (y :: r) k v = (k, v) :: r := by unfold put; rw [if_neg (by omega), if_pos h]
theorem put_gt {y : It} {r : List It} {k : Nat} {v : Int} (h : y.1 < k) : put (y :: r) k v = y :: put r k v := by
  conv => lhs; unfold put
  rw [if_neg (by omega), if_neg (by omega)]
theorem put_all {q : List It} {k : Nat} {v : Int} (h : ∀ z ∈ q, k < z.1) : put q k v = (k, v) :: q := by
  cases q with
  | nil => rfl
  | cons z s => exact put_lt (h z (List.mem_cons_self ..))
theorem inB_pos {m K : Nat} {y : It} {r : List It} (h : bk m y.1 = K) : inB m K (y :: r) = y :: inB m K r := by unfold inB; exact List.filter_cons_of_pos (by simpa using h)
theorem inB_neg {m K : Nat} {y : It} {r : List It} (h : bk m y.1 ≠ K) : inB m K (y :: r) = inB m K r := by unfold inB; exact List.filter_cons_of_neg (by simpa using h)
theorem inB_sub {m K : Nat} {L : List It} {z : It} (h : z ∈ inB m K L) : z ∈ L := (List.mem_filter.1 h).1
theorem inB_put {m : Nat} (L : List It) (k : Nat) (v : Int) (h : Asc L) : inB m (bk m k) (put L k v) = put (inB m (bk m k) L) k v := by
  induction L with
  | nil => exact inB_pos rfl
  | cons y r ih =>
    obtain ⟨h1, h2⟩ := List.pairwise_cons.1 h
    rcases Nat.lt_trichotomy k y.1 with c | c | c
    · rw [put_lt c, inB_pos (y := (k, v)) rfl, put_all]
      intro z hz
      rcases List.mem_cons.1 (inB_sub hz) with rfl | hz'
      · exact c
      · have := h1 z hz'; omega
    · subst c
      rw [put_eq rfl, inB_pos (y := (y.1, v)) rfl, inB_pos (y := y) rfl, put_eq rfl]
    · rw [put_gt c]
      by_cases c3 : bk m y.1 = bk m k
      · rw [inB_pos c3, inB_pos c3, ih h2, put_gt c]
      · rw [inB_neg c3, inB_neg c3, ih h2]
theorem inB_other {m K : Nat} (L : List It) (k : Nat) (v : Int) (hK : K ≠ bk m k) : inB m K (put L k v) = inB m K L := by
  have hne : bk m k ≠ K := fun e => hK e.symm
  induction L with
  | nil => exact inB_neg hne
  | cons y r ih =>
    rcases Nat.lt_trichotomy k y.1 with c | c | c
    · rw [put_lt c, inB_neg (y := (k, v)) hne]
    · subst c
      rw [put_eq rfl, inB_neg (y := (y.1, v)) hne, inB_neg (y := y) hne]
    · rw [put_gt c]
      by_cases c3 : bk m y.1 = K
      · rw [inB_pos c3, inB_pos c3, ih]
      · rw [inB_neg c3, inB_neg c3, ih]
theorem inB_asc {m K : Nat} {L : List It} (h : Asc L) : Asc (inB m K L) := List.Pairwise.filter _ h
theorem inB_fnd {m : Nat} (L : List It) (k : Nat) : fnd (inB m (bk m k) L) k = fnd L k := by
  induction L with
  | nil => rfl
  | cons y r ih =>
    unfold fnd at ih ⊢
    by_cases e : y.1 = k
    · rw [inB_pos (by rw [e]), List.find?_cons_of_pos (by simp [e]), List.find?_cons_of_pos (by simp [e])]
    · rw [List.find?_cons_of_neg (by simp [e])]
      by_cases c : bk m y.1 = bk m k
      · rw [inB_pos c, List.find?_cons_of_neg (by simp [e]), ih]
      · rw [inB_neg c, ih]
theorem inB_few {m K : Nat} (hm : 0 < m) (L : List It) (h : Asc L) : (inB m K L).length ≤ m := by
  have h1 : Asc (inB m K L) := inB_asc h
  have h2 : ∀ y ∈ inB m K L, bk m y.1 = K := fun y hy => by simpa using (List.mem_filter.1 hy).2
  have hb : ∀ y ∈ inB m K L, K + 1 - m ≤ y.1 ∧ y.1 < K + 1 - m + m := fun y hy => by
    have e := h2 y hy
    unfold bk at e
    have d1 := Nat.div_add_mod y.1 m
    have d2 := Nat.mod_lt y.1 hm
    have d3 : (y.1 / m + 1) * m = m * (y.1 / m) + m := by rw [Nat.add_mul, Nat.mul_comm, Nat.one_mul]
    omega
  have key : ∀ (q : List It) (lo hi : Nat), Asc q → (∀ y ∈ q, lo ≤ y.1 ∧ y.1 < hi) → q.length ≤ hi - lo := by
    intro q
    induction q with
    | nil => intro lo hi _ _; simp
    | cons z s ih =>
      intro lo hi ha hq
      obtain ⟨a1, a2⟩ := List.pairwise_cons.1 ha
      have hz := hq z (List.mem_cons_self ..)
      have := ih (z.1 + 1) hi a2 (fun y hy => ⟨by have := a1 y hy; omega, (hq y (List.mem_cons_of_mem _ hy)).2⟩)
      simp
      omega
  have := key _ _ _ h1 hb
  omega
theorem inB_len {L : List It} (h : Asc L) (k : Nat) (v : Int) : (put L k v).length = if (fnd L k).isSome then L.length else L.length + 1 := by
  cases hf : fnd L k with
  | none =>
    rw [if_neg (by simp)]
    refine put_new v (fun u hu => ?_)
    have := List.find?_eq_none.1 hf (k, u) hu
    simp at this
  | some y =>
    rw [if_pos (show (some y).isSome = true from rfl)]
    have h2 := List.find?_some hf
    have h3 := List.mem_of_find?_eq_some hf
    obtain ⟨a, b⟩ := y
    have h4 : a = k := by simpa using h2
    subst h4
    exact put_old v ⟨b, h3⟩ h
end Go.Proofs.YtcjifjfcjimefaaDoor.xf
