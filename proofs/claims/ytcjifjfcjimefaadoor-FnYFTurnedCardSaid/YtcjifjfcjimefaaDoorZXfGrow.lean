/-
  A new branch: the nodes that insert makes, one for each further bit.
-/
import Derived.Test.YtcjifjfcjimefaaDoorZXfNode
namespace Go.Proofs.YtcjifjfcjimefaaDoor.xf
open Go.RowKit Go.Proofs.YtcjifjfcjimefaaDoor.base Go.Proofs.YtcjifjfcjimefaaDoor.heap Go.Proofs.YtcjifjfcjimefaaDoor.rows Go.Proofs.YtcjifjfcjimefaaDoor.mapn
set_option linter.unusedVariables false
variable [Inhabited Kd]

/-- the nodes down to depth i are made; D: where the branch begins -/
def lkg (m : Nat) (lk : Lk) (D x : Nat) (nb : Nat → Nat) (i : Nat) : Lk := fun d p => if D < d ∧ d ≤ i ∧ p = pre m d x then some (nb d) else lk d p
def chg (m : Nat) (ch : Cf) (D x : Nat) (nb : Nat → Nat) (i : Nat) : Cf := fun d p s => if D ≤ d ∧ d < i ∧ p = pre m d x ∧ s = side m d x then some (nb (d + 1)) else if D < d ∧ d ≤ i ∧ p = pre m d x then none else ch d p s
def Sh.grow (S : Sh) (D x : Nat) (v : Int) (nb : Nat → Nat) (i : Nat) : Sh := { m := S.m, lk := lkg S.m S.lk D x nb i, ch := chg S.m S.ch D x nb i, ent := fun k => if k = x then v else S.ent k }
section
variable {S : Sh} {D x i : Nat} {v : Int} {nb : Nat → Nat}
omit [Inhabited Kd] in
theorem grow_zero (v : Int) (nb : Nat → Nat) : lkg S.m S.lk D x nb D = S.lk ∧ chg S.m S.ch D x nb D = S.ch := by
  constructor
  · funext d p
    unfold lkg
    rw [if_neg (by omega)]
  · funext d p s
    unfold chg
    rw [if_neg (by omega), if_neg (by omega)]
/-- the block of a depth is set -/
def setN (nb : Nat → Nat) (i b : Nat) : Nat → Nat := fun d => if d = i then b else nb d
omit [Inhabited Kd] in
theorem lkg_set {lk : Lk} {m b : Nat} : lkg m lk D x (setN nb (i + 1) b) i = lkg m lk D x nb i := by
  funext d p
  unfold lkg setN
  by_cases h : D < d ∧ d ≤ i ∧ p = pre m d x
  · rw [if_pos h, if_pos h, if_neg (by omega)]
  · rw [if_neg h, if_neg h]
omit [Inhabited Kd] in
theorem lkg_succ {lk : Lk} {m b : Nat} (hD : D ≤ i) : lkg m lk D x (setN nb (i + 1) b) (i + 1) = fun d p => if d = i + 1 ∧ p = pre m (i + 1) x then some b else lkg m lk D x nb i d p := by
  funext d p
  unfold lkg setN
  by_cases h : d = i + 1 ∧ p = pre m (i + 1) x
  · obtain ⟨rfl, h2⟩ := h
    rw [if_pos ⟨by omega, Nat.le_refl _, h2⟩, if_pos rfl, if_pos ⟨rfl, h2⟩]
  · rw [if_neg h]
    by_cases h3 : D < d ∧ d ≤ i ∧ p = pre m d x
    · rw [if_pos ⟨h3.1, by omega, h3.2.2⟩, if_neg (by omega), if_pos h3]
    · rw [if_neg h3, if_neg (fun h4 => h3 ⟨h4.1, by
        rcases Nat.eq_or_lt_of_le h4.2.1 with e | e
        · subst e; exact absurd ⟨rfl, h4.2.2⟩ h
        · omega, h4.2.2⟩)]
omit [Inhabited Kd] in
theorem lkg_at {lk : Lk} {m : Nat} (h1 : D < i) : lkg m lk D x nb i i (pre m i x) = some (nb i) := by
  unfold lkg
  rw [if_pos ⟨h1, Nat.le_refl _, rfl⟩]
omit [Inhabited Kd] in
theorem lkg_D {lk : Lk} {m p : Nat} : lkg m lk D x nb i D p = lk D p := by
  unfold lkg
  rw [if_neg (by omega)]
omit [Inhabited Kd] in
/-- a new node's place is free ahead of it -/
theorem lkg_free (h : S.Deep D x) (ho : S.Ok) (hD : D ≤ i) (hi : i < S.m) : lkg S.m S.lk D x nb i (i + 1) (pre S.m (i + 1) x) = none := by
  unfold lkg
  rw [if_neg (by omega)]
  have h2 : ∀ e, S.lk (D + 1 + e) (pre S.m (D + 1 + e) x) = none ∨ S.m < D + 1 + e := by
    intro e
    induction e with
    | zero => exact .inl h.no
    | succ e ih =>
      rcases ih with ih | ih
      · by_cases hm : D + 1 + e < S.m
        · left
          cases hb : S.lk (D + 1 + (e + 1)) (pre S.m (D + 1 + (e + 1)) x) with
          | none => rfl
          | some b =>
            have := ho.tree (D + 1 + e) _ hm (show S.lk (D + 1 + e + 1) (pre S.m (D + 1 + e + 1) x) ≠ none by rw [show D + 1 + e + 1 = D + 1 + (e + 1) by omega, hb]; simp)
            rw [pre_half hm] at this
            exact absurd ih this
        · right; omega
      · right; omega
  rcases h2 (i - D) with h3 | h3
  · rwa [show D + 1 + (i - D) = i + 1 by omega] at h3
  · omega
omit [Inhabited Kd] in
/-- the child that is set at a level -/
theorem chg_step (hD : D ≤ i) (b : Nat) : chg S.m S.ch D x (setN nb (i + 1) b) (i + 1) = fun d p s => if d = i + 1 ∧ p = pre S.m (i + 1) x then none else upd (chg S.m S.ch D x nb i) i (pre S.m i x) (side S.m i x) (some b) d p s := by
  funext d p s
  by_cases h : d = i + 1 ∧ p = pre S.m (i + 1) x
  · obtain ⟨rfl, h2⟩ := h
    rw [if_pos ⟨rfl, h2⟩]
    unfold chg
    rw [if_neg (by omega), if_pos ⟨by omega, Nat.le_refl _, h2⟩]
  · rw [if_neg h]
    unfold upd
    by_cases h2 : d = i ∧ p = pre S.m i x ∧ s = side S.m i x
    · rw [if_pos h2]
      obtain ⟨rfl, h3, h4⟩ := h2
      unfold chg setN
      rw [if_pos ⟨hD, by omega, h3, h4⟩, if_pos rfl]
    · rw [if_neg h2]
      unfold chg setN
      by_cases h3 : D ≤ d ∧ d < i ∧ p = pre S.m d x ∧ s = side S.m d x
      · rw [if_pos ⟨h3.1, by omega, h3.2.2⟩, if_neg (by omega), if_pos h3]
      · have h4 : ¬ (D ≤ d ∧ d < i + 1 ∧ p = pre S.m d x ∧ s = side S.m d x) := fun ⟨a, b, c, e⟩ => by
          rcases Nat.eq_or_lt_of_le (Nat.le_of_lt_succ b) with e1 | e1
          · subst e1; exact h2 ⟨rfl, c, e⟩
          · exact h3 ⟨a, e1, c, e⟩
        rw [if_neg h3, if_neg h4]
        by_cases h5 : D < d ∧ d ≤ i ∧ p = pre S.m d x
        · rw [if_pos h5, if_pos ⟨h5.1, by omega, h5.2.2⟩]
        · rw [if_neg h5, if_neg (fun h6 => h5 ⟨h6.1, by
            rcases Nat.eq_or_lt_of_le h6.2.1 with e1 | e1
            · subst e1; exact absurd ⟨rfl, h6.2.2⟩ h
            · omega, h6.2.2⟩)]
omit [Inhabited Kd] in
/-- the child that stood there -/
theorem chg_at (h : S.Deep D x) (ho : S.Ok) (hD : D ≤ i) (hi : i < S.m) : NotIn S (chg S.m S.ch D x nb i i (pre S.m i x) (side S.m i x)) := by
  unfold chg
  rw [if_neg (by omega)]
  rcases Nat.eq_or_lt_of_le hD with e | e
  · subst e
    rw [if_neg (by omega)]
    have hp := pre_succ (k := x) h.d
    have hno := h.no
    rw [hp] at hno
    have hs := side_lt S.m D x
    rcases Nat.eq_zero_or_pos (side S.m D x) with h0 | h0
    · rw [h0] at hno ⊢
      rcases ho.in0 D _ h.d (h.at ho) with ⟨_, h2, _⟩ | ⟨_, ⟨h2, _, _⟩ | ⟨k, h2, h3, _⟩⟩
      · exact absurd hno h2
      · exact .inl h2
      · exact .inr ⟨k, h2, h3⟩
    · rw [show side S.m D x = 1 by omega] at hno ⊢
      rcases ho.in1 D _ h.d (h.at ho) with ⟨_, h2, _⟩ | ⟨_, ⟨h2, _, _⟩ | ⟨k, h2, h3, _⟩⟩
      · exact absurd hno h2
      · exact .inl h2
      · exact .inr ⟨k, h2, h3⟩
  · rw [if_pos ⟨e, Nat.le_refl _, rfl⟩]
    exact .inl rfl
end
end Go.Proofs.YtcjifjfcjimefaaDoor.xf
