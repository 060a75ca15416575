/-
  The children behind an insert, out of the links and the walks up: plain. Printed by gen_fi.py.
-/
import Derived.Test.YtcjifjfcjimefaaDoorZXfOk
namespace Go.Proofs.YtcjifjfcjimefaaDoor.xf
open Go.RowKit Go.Proofs.YtcjifjfcjimefaaDoor.base Go.Proofs.YtcjifjfcjimefaaDoor.heap Go.Proofs.YtcjifjfcjimefaaDoor.rows Go.Proofs.YtcjifjfcjimefaaDoor.mapn
set_option linter.unusedVariables false
variable [Inhabited Kd]

/-- the links, and what the walks up made of them -/
structure Way (S : Sh) (D x : Nat) (v : Int) (nb : Nat → Nat) (pr su rt : Option Nat) (g f1 f2 f3 : Cf) (j : Nat) : Prop where
  gin : ∀ d p t, d < S.m → g d p t = chg S.m S.ch D x nb S.m d p t
  gx0 : g S.m x 0 = pr
  gx1 : g S.m x 1 = su
  gs0 : ∀ k, S.K k → su = S.lk S.m k → g S.m k 0 = some (nb S.m)
  gp1 : ∀ k, S.K k → pr = S.lk S.m k → g S.m k 1 = some (nb S.m)
  go0 : ∀ k, S.K k → su ≠ S.lk S.m k → g S.m k 0 = S.ch S.m k 0
  go1 : ∀ k, S.K k → pr ≠ S.lk S.m k → g S.m k 1 = S.ch S.m k 1
  u0 : ∀ d p t, f1 d p t = g d p t ∨ (t = 0 ∧ d < S.m ∧ (∃ k, S.K k ∧ su = S.lk S.m k ∧ p = pre S.m d k) ∧ f1 d p t = some (nb S.m) ∧ NotIn (S.grow D x v nb S.m) (g d p t))
  n0 : ∀ k, S.K k → su = S.lk S.m k → ∀ d, d < S.m → (∀ d', d ≤ d' → d' < S.m → lkg S.m S.lk D x nb S.m d' (pre S.m d' k) ≠ rt) → g d (pre S.m d k) 0 = none → f1 d (pre S.m d k) 0 = some (nb S.m)
  u1 : ∀ d p t, f2 d p t = f1 d p t ∨ (t = 1 ∧ d < S.m ∧ (∃ k, S.K k ∧ pr = S.lk S.m k ∧ p = pre S.m d k) ∧ f2 d p t = some (nb S.m) ∧ NotIn (S.grow D x v nb S.m) (f1 d p t))
  n1 : ∀ k, S.K k → pr = S.lk S.m k → ∀ d, d < S.m → (∀ d', d ≤ d' → d' < S.m → lkg S.m S.lk D x nb S.m d' (pre S.m d' k) ≠ rt) → f1 d (pre S.m d k) 1 = none → f2 d (pre S.m d k) 1 = some (nb S.m)
  jm : j ≤ S.m
  jr : j = 0 ∨ lkg S.m S.lk D x nb S.m (j - 1) (pre S.m (j - 1) x) = rt
  off : ∀ d p t, ¬ (p = pre S.m d x ∧ j ≤ d ∧ d < S.m ∧ t < 2) → f3 d p t = f2 d p t
  done : ∀ d, j ≤ d → d < S.m → f3 d (pre S.m d x) 0 = fin (S.grow D x v nb S.m) (nb S.m) (f2 d (pre S.m d x) 0) pr ∧ f3 d (pre S.m d x) 1 = fin (S.grow D x v nb S.m) (nb S.m) (f2 d (pre S.m d x) 1) su
  ne : ∀ d, j ≤ d → d < S.m → lkg S.m S.lk D x nb S.m d (pre S.m d x) ≠ rt
section
variable {S : Sh} {D x j : Nat} {v : Int} {nb : Nat → Nat} {pr su rt : Option Nat} {g f1 f2 f3 : Cf}
omit [Inhabited Kd] in
theorem grow_ne (hd : S.Deep D x) (ho : S.Ok) {d : Nat} (h : d ≤ S.m) : lkg S.m S.lk D x nb S.m d (pre S.m d x) ≠ none := by
  rcases Nat.lt_or_ge D d with h1 | h1
  · rw [grow_new h1 h]; simp
  · rw [grow_low h1]
    rcases Nat.eq_zero_or_pos d with h2 | h2
    · subst h2
      obtain ⟨r, hr⟩ := ho.root
      rw [pre_zero hd.lt, hr]; simp
    · exact hd.ex d h2 h1
omit [Inhabited Kd] in
/-- where walkUpNode ends -/
theorem Way.jD (h : Way S D x v nb pr su rt g f1 f2 f3 j) (hd : S.Deep D x) (ho : S.Ok) (hi : Inj (S.grow D x v nb S.m)) (hrt : rt = if D = 0 then none else S.lk D (pre S.m D x)) : (D = 0 ∧ j = 0) ∨ (0 < D ∧ j = D + 1) := by
  have hjm := h.jm
  have hdm := hd.d
  rcases Nat.eq_zero_or_pos D with h0 | h0
  · left
    refine ⟨h0, ?_⟩
    rcases h.jr with h1 | h1
    · exact h1
    · rw [if_pos h0] at hrt
      exact absurd (h1.trans hrt) (grow_ne hd ho (by omega))
  · right
    refine ⟨h0, ?_⟩
    rw [if_neg (by omega)] at hrt
    have hD : lkg S.m S.lk D x nb S.m D (pre S.m D x) = rt := by rw [grow_low (Nat.le_refl _), hrt]
    obtain ⟨r, hr⟩ : ∃ r, rt = some r := by
      cases hc : rt with
      | none => rw [hc] at hD; exact absurd hD (grow_ne hd ho (by omega))
      | some r => exact ⟨r, rfl⟩
    rcases h.jr with h1 | h1
    · have := h.ne D (by omega) hdm
      exact absurd hD this
    · rw [hr] at h1 hD
      have := (hi (j - 1) _ D _ r (by show j - 1 ≤ S.m; omega) (by show D ≤ S.m; omega) h1 hD).1
      rcases Nat.eq_zero_or_pos j with h2 | h2
      · have h3 := h.ne D (by omega) hdm
        exact absurd (hD.trans hr.symm) h3
      · omega
omit [Inhabited Kd] in
theorem on_get {d : Nat} (h1 : D ≤ d) (h2 : d < S.m) : chg S.m S.ch D x nb S.m d (pre S.m d x) (side S.m d x) = some (nb (d + 1)) := by
  unfold chg
  rw [if_pos ⟨h1, h2, rfl, rfl⟩]
omit [Inhabited Kd] in
theorem new_notIn (hi : Inj (S.grow D x v nb S.m)) {d : Nat} (h1 : D ≤ d) (h2 : d + 1 < S.m) : ¬ NotIn (S.grow D x v nb S.m) (some (nb (d + 1))) := fun h => by
  rcases h with h | ⟨k, hk, h⟩
  · cases h
  · have h3 := grow_new (S := S) (x := x) (nb := nb) (d := d + 1) (D := D) (by omega) (by omega)
    have := (hi (d + 1) _ S.m k (nb (d + 1)) (by show d + 1 ≤ S.m; omega) (Nat.le_refl _) h3 h.symm).1
    omega
omit [Inhabited Kd] in
theorem new_isIn {d : Nat} (h1 : D ≤ d) (h2 : d + 1 < S.m) : IsIn (S.grow D x v nb S.m) (some (nb (d + 1))) := ⟨d + 1, _, h2, (grow_new (S := S) (x := x) (nb := nb) (d := d + 1) (D := D) (by omega) (by omega)).symm, by simp⟩
omit [Inhabited Kd] in
/-- off the branch the prefixes of a key differ from x's -/
theorem pre_ne (hd : S.Deep D x) (ho : S.Ok) {k d : Nat} (hk : S.K k) (h1 : D < d) (h2 : d ≤ S.m) : pre S.m d k ≠ pre S.m d x := fun e => hd.none' ho hk (pre_up (by omega) h2 e)
omit [Inhabited Kd] in
/-- an old node's child as it was -/
theorem old_get (hd : S.Deep D x) (ho : S.Ok) {d p t : Nat} (hne : S.lk d p ≠ none) (hdm : d < S.m) (hc : ¬ (d = D ∧ p = pre S.m D x ∧ side S.m D x = t)) : chg S.m S.ch D x nb S.m d p t = S.ch d p t := by
  unfold chg
  rw [if_neg (fun ⟨a, b, c, e⟩ => by
    rcases Nat.eq_or_lt_of_le a with e1 | e1
    · subst e1; exact hc ⟨rfl, c, e.symm⟩
    · rw [c, off_none hd ho e1 (by omega)] at hne; exact hne rfl), if_neg (fun ⟨a, b, c⟩ => by rw [c, off_none hd ho a (by omega)] at hne; exact hne rfl)]
omit [Inhabited Kd] in
/-- no keys at all: both children of the root are missing -/
theorem no_keys (hd : S.Deep D x) (ho : S.Ok) (hD : D = 0) (h0 : S.lk 1 0 = none ∨ side S.m 0 x = 0) (h1 : S.lk 1 1 = none ∨ side S.m 0 x = 1) : ∀ k, ¬ S.K k := fun k hk => by
  subst hD
  have h2 := hd.none' ho hk
  have h3 := ho.up hk 1 (by have := ho.m2; omega)
  have h4 := pre_succ (m := S.m) (d := 0) (k := k) (by have := ho.m2; omega)
  have h5 := pre_succ (m := S.m) (d := 0) (k := x) (by have := ho.m2; omega)
  rw [pre_zero (ho.lt hk)] at h4
  rw [pre_zero hd.lt] at h5
  have h6 := side_lt S.m 0 k
  have h7 := side_lt S.m 0 x
  simp only [Nat.zero_add, Nat.mul_zero] at h2 h4 h5
  rcases Nat.eq_zero_or_pos (side S.m 0 k) with h8 | h8
  · rw [h8] at h4
    rw [h4] at h3
    rcases h0 with h0 | h0
    · exact h3 h0
    · exact h2 (by omega)
  · rw [show side S.m 0 k = 1 by omega] at h4
    rw [h4] at h3
    rcases h1 with h1 | h1
    · exact h3 h1
    · exact h2 (by omega)
omit [Inhabited Kd] in
theorem Way.fi (h : Way S D x v nb pr su rt g f1 f2 f3 j) (hd : S.Deep D x) (ho : S.Ok) (hi : Inj (S.grow D x v nb S.m)) (hrt : rt = if D = 0 then none else S.lk D (pre S.m D x)) (hn : Nb S x pr su) : Fi S D x nb pr su f3 := by
  have hj := h.jD hd ho hi hrt
  have hdm := hd.d
  have leaf : ∀ k t, f3 S.m k t = g S.m k t := fun k t => by
    rw [h.off _ _ _ (fun ⟨_, _, c, _⟩ => by omega)]
    have a1 : f2 S.m k t = f1 S.m k t := by
      rcases h.u1 S.m k t with a | ⟨_, a, _⟩
      · exact a
      · omega
    have a0 : f1 S.m k t = g S.m k t := by
      rcases h.u0 S.m k t with a | ⟨_, a, _⟩
      · exact a
      · omega
    rw [a1, a0]
  have hon : ∀ d, D ≤ d → d < S.m → f2 d (pre S.m d x) (side S.m d x) = some (nb (d + 1)) := fun d h1 h2 => by
    have a0 : f1 d (pre S.m d x) (side S.m d x) = some (nb (d + 1)) := by
      have b0 : g d (pre S.m d x) (side S.m d x) = some (nb (d + 1)) := (h.gin _ _ _ h2).trans (on_get h1 h2)
      rcases h.u0 d (pre S.m d x) (side S.m d x) with a | ⟨_, _, _, a, b⟩
      · rw [a, b0]
      · rw [b0] at b
        rcases Nat.lt_or_ge (d + 1) S.m with h3 | h3
        · exact absurd b (new_notIn hi h1 h3)
        · rw [a, show d + 1 = S.m by omega]
    rcases h.u1 d (pre S.m d x) (side S.m d x) with a | ⟨_, _, _, a, b⟩
    · rw [a, a0]
    · rw [a0] at b
      rcases Nat.lt_or_ge (d + 1) S.m with h3 | h3
      · exact absurd b (new_notIn hi h1 h3)
      · rw [a, show d + 1 = S.m by omega]
  have hfin : ∀ d z, D ≤ d → d < S.m → fin (S.grow D x v nb S.m) (nb S.m) (some (nb (d + 1))) z = some (nb (d + 1)) := fun d z h1 h2 => by
    rcases Nat.lt_or_ge (d + 1) S.m with h3 | h3
    · exact fin_in (new_isIn h1 h3)
    · rw [show d + 1 = S.m by omega]; exact fin_bx
  -- an inner node's child is no leaf of the new ones
  refine ⟨(leaf x 0).trans h.gx0, (leaf x 1).trans h.gx1, fun k hk e => (leaf k 0).trans (h.gs0 k hk e), fun k hk e => (leaf k 1).trans (h.gp1 k hk e), fun k hk e => (leaf k 0).trans (h.go0 k hk e), fun k hk e => (leaf k 1).trans (h.go1 k hk e), fun d h1 h2 => ?_, fun d h1 h2 hs => ?_, fun d h1 h2 hs => ?_, fun d p h1 hne hc => ?_, fun d p h1 hne hc => ?_, fun k hk e d h1 hp => ?_, fun k hk e d h1 hp => ?_⟩
  · have a := hon d h1 h2
    by_cases hjd : j ≤ d
    · obtain ⟨b0, b1⟩ := h.done d hjd h2
      have hs := side_lt S.m d x
      rcases Nat.eq_zero_or_pos (side S.m d x) with h3 | h3
      · rw [h3] at a ⊢
        rw [b0, a, hfin d _ h1 h2]
      · rw [show side S.m d x = 1 by omega] at a ⊢
        rw [b1, a, hfin d _ h1 h2]
    · rw [h.off _ _ _ (fun ⟨_, c, _⟩ => hjd c)]; exact a
  · have b0 : g d (pre S.m d x) 0 = none := by
      rw [h.gin _ _ _ h2]
      unfold chg
      rw [if_neg (fun ⟨_, _, _, e⟩ => by rw [hs] at e; cases e), if_pos ⟨h1, by omega, rfl⟩]
    have a0 : f1 d (pre S.m d x) 0 = none := by
      rcases h.u0 d (pre S.m d x) 0 with a | ⟨_, _, ⟨k, hk, _, hp⟩, _⟩
      · rw [a, b0]
      · exact absurd hp.symm (pre_ne hd ho hk h1 (by omega))
    have a1 : f2 d (pre S.m d x) 0 = none := by
      rcases h.u1 d (pre S.m d x) 0 with a | ⟨_, _, ⟨k, hk, _, hp⟩, _⟩
      · rw [a, a0]
      · exact absurd hp.symm (pre_ne hd ho hk h1 (by omega))
    rw [(h.done d (by omega) h2).1, a1]
    exact fin_nil
  · have b0 : g d (pre S.m d x) 1 = none := by
      rw [h.gin _ _ _ h2]
      unfold chg
      rw [if_neg (fun ⟨_, _, _, e⟩ => by rw [hs] at e; cases e), if_pos ⟨h1, by omega, rfl⟩]
    have a0 : f1 d (pre S.m d x) 1 = none := by
      rcases h.u0 d (pre S.m d x) 1 with a | ⟨_, _, ⟨k, hk, _, hp⟩, _⟩
      · rw [a, b0]
      · exact absurd hp.symm (pre_ne hd ho hk h1 (by omega))
    have a1 : f2 d (pre S.m d x) 1 = none := by
      rcases h.u1 d (pre S.m d x) 1 with a | ⟨_, _, ⟨k, hk, _, hp⟩, _⟩
      · rw [a, a0]
      · exact absurd hp.symm (pre_ne hd ho hk h1 (by omega))
    rw [(h.done d (by omega) h2).2, a1]
    exact fin_nil
  · have b0 : g d p 0 = S.ch d p 0 := (h.gin _ _ _ h1).trans (old_get hd ho hne h1 hc)
    have hni : NotIn (S.grow D x v nb S.m) (S.ch d p 0) → NotIn S (S.ch d p 0) := fun hh => by
      rcases ho.in0 d p h1 hne with ⟨a, b, c⟩ | ⟨_, ⟨c, _⟩ | ⟨k, hk, c, _⟩⟩
      · exfalso
        rcases hh with hh | ⟨k, hk, hh⟩
        · exact b (c.symm.trans hh)
        · obtain ⟨q, hq⟩ : ∃ q, S.lk (d + 1) (2 * p) = some q := by
            cases hb : S.lk (d + 1) (2 * p) with
            | none => exact absurd hb b
            | some q => exact ⟨q, rfl⟩
          have e1 : lkg S.m S.lk D x nb S.m (d + 1) (2 * p) = some q := by
            rw [← hq]
            by_cases hp : 2 * p = pre S.m (d + 1) x
            · rcases Nat.lt_or_ge D (d + 1) with h3 | h3
              · rw [hp, off_none hd ho h3 (by omega)] at b; exact absurd rfl b
              · exact grow_low h3
            · exact grow_old hp
          have := (hi (d + 1) _ S.m k q (by show d + 1 ≤ S.m; omega) (Nat.le_refl _) e1 (by rw [← hq, ← c]; exact hh.symm)).1
          omega
      · exact .inl c
      · exact .inr ⟨k, hk, c⟩
    have a2 : f2 d p 0 = S.ch d p 0 ∨ (f2 d p 0 = some (nb S.m) ∧ NotIn S (S.ch d p 0) ∧ su ≠ none) := by
      have a1 : f2 d p 0 = f1 d p 0 := by
        rcases h.u1 d p 0 with a | ⟨a, _⟩
        · exact a
        · cases a
      rw [a1]
      rcases h.u0 d p 0 with a | ⟨_, _, ⟨k, hk, e, _⟩, a, b⟩
      · left; rw [a, b0]
      · right; rw [b0] at b; exact ⟨a, hni b, by rw [e]; exact hk⟩
    by_cases hb : p = pre S.m d x ∧ j ≤ d ∧ d < S.m ∧ 0 < 2
    · obtain ⟨rfl, hjd, _, _⟩ := hb
      have hdD : d ≤ D := by
        rcases Nat.lt_or_ge D d with h3 | h3
        · rw [off_none hd ho h3 (by omega)] at hne; exact absurd rfl hne
        · exact h3
      obtain ⟨hD0, hj0⟩ : D = 0 ∧ j = 0 := by
        rcases hj with h3 | ⟨h3, h4⟩
        · exact h3
        · omega
      obtain rfl : d = 0 := by omega
      rw [(h.done 0 hjd h1).1]
      have hp0 := pre_zero hd.lt
      have hs1 : side S.m 0 x = 1 := by
        have := side_lt S.m 0 x
        rcases Nat.eq_zero_or_pos (side S.m 0 x) with h3 | h3
        · exact absurd ⟨hD0.symm, by rw [hD0], by rw [hD0]; exact h3⟩ hc
        · omega
      rcases a2 with a2 | ⟨a2, a3⟩
      · rw [a2]
        rcases ho.in0 0 _ h1 hne with ⟨a, b, c⟩ | ⟨a, b⟩
        · left
          refine fin_in ⟨1, 2 * 0, by show 1 < S.m; omega, ?_, by rw [c]; exact b⟩
          rw [c]
          show S.lk (0 + 1) (2 * pre S.m 0 x) = lkg S.m S.lk D x nb S.m 1 (2 * 0)
          rw [hp0]
          have h5 := pre_succ (m := S.m) (d := 0) (k := x) h1
          rw [hp0, hs1] at h5
          have h6 : pre S.m 1 x = 2 * 0 + 1 := h5
          rw [grow_old (by omega)]
        · have hno : ∀ k, ¬ S.K k := by
            have h4 : S.lk 1 (2 * 0) = none := by
              cases hb : S.lk 1 (2 * 0) with
              | none => rfl
              | some q => exact absurd ⟨by have := ho.m2; omega, by show S.lk (0 + 1) (2 * pre S.m 0 x) ≠ none; rw [hp0]; show S.lk 1 (2 * 0) ≠ none; rw [hb]; simp⟩ a
            exact no_keys hd ho hD0 (.inl h4) (.inr hs1)
          rcases b with ⟨c, _⟩ | ⟨k, hk, _⟩
          · left
            rw [c, fin_nil]
            rcases hn with ⟨_, e1, e2⟩ | ⟨ks, e1, _⟩ | ⟨kp, ks, e1, _⟩ | ⟨kp, e1, _⟩
            · exact e1
            · exact absurd e1 (hno ks)
            · exact absurd e1 (hno kp)
            · exact absurd e1 (hno kp)
          · exact absurd hk (hno k)
      · right
        rw [a2]
        exact ⟨fin_bx, a3⟩
    · rw [h.off _ _ _ hb]; exact a2
  · have b0 : g d p 1 = S.ch d p 1 := (h.gin _ _ _ h1).trans (old_get hd ho hne h1 hc)
    have hni : NotIn (S.grow D x v nb S.m) (S.ch d p 1) → NotIn S (S.ch d p 1) := fun hh => by
      rcases ho.in1 d p h1 hne with ⟨a, b, c⟩ | ⟨_, ⟨c, _⟩ | ⟨k, hk, c, _⟩⟩
      · exfalso
        rcases hh with hh | ⟨k, hk, hh⟩
        · exact b (c.symm.trans hh)
        · obtain ⟨q, hq⟩ : ∃ q, S.lk (d + 1) (2 * p + 1) = some q := by
            cases hb : S.lk (d + 1) (2 * p + 1) with
            | none => exact absurd hb b
            | some q => exact ⟨q, rfl⟩
          have e1 : lkg S.m S.lk D x nb S.m (d + 1) (2 * p + 1) = some q := by
            rw [← hq]
            by_cases hp : 2 * p + 1 = pre S.m (d + 1) x
            · rcases Nat.lt_or_ge D (d + 1) with h3 | h3
              · rw [hp, off_none hd ho h3 (by omega)] at b; exact absurd rfl b
              · exact grow_low h3
            · exact grow_old hp
          have := (hi (d + 1) _ S.m k q (by show d + 1 ≤ S.m; omega) (Nat.le_refl _) e1 (by rw [← hq, ← c]; exact hh.symm)).1
          omega
      · exact .inl c
      · exact .inr ⟨k, hk, c⟩
    have a2 : f2 d p 1 = S.ch d p 1 ∨ (f2 d p 1 = some (nb S.m) ∧ NotIn S (S.ch d p 1) ∧ pr ≠ none) := by
      have a0 : f1 d p 1 = g d p 1 := by
        rcases h.u0 d p 1 with a | ⟨a, _⟩
        · exact a
        · cases a
      rcases h.u1 d p 1 with a | ⟨_, _, ⟨k, hk, e, _⟩, a, b⟩
      · left; rw [a, a0, b0]
      · right; rw [a0, b0] at b; exact ⟨a, hni b, by rw [e]; exact hk⟩
    by_cases hb : p = pre S.m d x ∧ j ≤ d ∧ d < S.m ∧ 1 < 2
    · obtain ⟨rfl, hjd, _, _⟩ := hb
      have hdD : d ≤ D := by
        rcases Nat.lt_or_ge D d with h3 | h3
        · rw [off_none hd ho h3 (by omega)] at hne; exact absurd rfl hne
        · exact h3
      obtain ⟨hD0, hj0⟩ : D = 0 ∧ j = 0 := by
        rcases hj with h3 | ⟨h3, h4⟩
        · exact h3
        · omega
      obtain rfl : d = 0 := by omega
      rw [(h.done 0 hjd h1).2]
      have hp0 := pre_zero hd.lt
      have hs1 : side S.m 0 x = 0 := by
        have := side_lt S.m 0 x
        rcases Nat.eq_zero_or_pos (side S.m 0 x) with h3 | h3
        · exact h3
        · exact absurd ⟨hD0.symm, by rw [hD0], by rw [hD0]; omega⟩ hc
      rcases a2 with a2 | ⟨a2, a3⟩
      · rw [a2]
        rcases ho.in1 0 _ h1 hne with ⟨a, b, c⟩ | ⟨a, b⟩
        · left
          refine fin_in ⟨1, 2 * 0 + 1, by show 1 < S.m; omega, ?_, by rw [c]; exact b⟩
          rw [c]
          show S.lk (0 + 1) (2 * pre S.m 0 x + 1) = lkg S.m S.lk D x nb S.m 1 (2 * 0 + 1)
          rw [hp0]
          have h5 := pre_succ (m := S.m) (d := 0) (k := x) h1
          rw [hp0, hs1] at h5
          have h6 : pre S.m 1 x = 2 * 0 + 0 := h5
          rw [grow_old (by omega)]
        · have hno : ∀ k, ¬ S.K k := by
            have h4 : S.lk 1 (2 * 0 + 1) = none := by
              cases hb : S.lk 1 (2 * 0 + 1) with
              | none => rfl
              | some q => exact absurd ⟨by have := ho.m2; omega, by show S.lk (0 + 1) (2 * pre S.m 0 x + 1) ≠ none; rw [hp0]; show S.lk 1 (2 * 0 + 1) ≠ none; rw [hb]; simp⟩ a
            exact no_keys hd ho hD0 (.inr hs1) (.inl h4)
          rcases b with ⟨c, _⟩ | ⟨k, hk, _⟩
          · left
            rw [c, fin_nil]
            rcases hn with ⟨_, e1, e2⟩ | ⟨ks, e1, _⟩ | ⟨kp, ks, e1, _⟩ | ⟨kp, e1, _⟩
            · exact e2
            · exact absurd e1 (hno ks)
            · exact absurd e1 (hno kp)
            · exact absurd e1 (hno kp)
          · exact absurd hk (hno k)
      · right
        rw [a2]
        exact ⟨fin_bx, a3⟩
    · rw [h.off _ _ _ hb]; exact a2
  · rw [h.off _ _ _ (fun ⟨a, _⟩ => hp a)]
    have a1 : f2 d (pre S.m d k) 0 = f1 d (pre S.m d k) 0 := by
      rcases h.u1 d (pre S.m d k) 0 with a | ⟨a, _⟩
      · exact a
      · cases a
    rw [a1]
    rcases h.u0 d (pre S.m d k) 0 with a | ⟨_, _, _, a, _⟩
    · intro hz
      rw [a] at hz
      have := h.n0 k hk e d h1 (fun d' hd' hm' he => by
        rcases Nat.eq_zero_or_pos D with h0 | h0
        · rw [hrt, if_pos h0] at he
          have h5 := ho.up hk d' (by omega)
          by_cases hpp : pre S.m d' k = pre S.m d' x
          · rw [hpp] at he; exact grow_ne hd ho (by omega) he
          · rw [grow_old hpp] at he; exact h5 he
        · rw [hrt, if_neg (by omega)] at he
          obtain ⟨r, hr⟩ : ∃ r, S.lk D (pre S.m D x) = some r := by
            cases hc : S.lk D (pre S.m D x) with
            | none => exact absurd hc (hd.at ho)
            | some r => exact ⟨r, rfl⟩
          have h6 : lkg S.m S.lk D x nb S.m D (pre S.m D x) = some r := by rw [grow_low (Nat.le_refl _)]; exact hr
          have h7 := hi d' _ D _ r (by show d' ≤ S.m; omega) (by show D ≤ S.m; omega) (he.trans hr) h6
          obtain ⟨h8, h9⟩ := h7
          rw [h8] at h9
          exact hp (pre_up (by omega) (by omega) h9)) hz
      rw [a, hz] at this
      cases this
    · rw [a]; simp
  · rw [h.off _ _ _ (fun ⟨a, _⟩ => hp a)]
    rcases h.u1 d (pre S.m d k) 1 with a | ⟨_, _, _, a, _⟩
    · intro hz
      rw [a] at hz
      have := h.n1 k hk e d h1 (fun d' hd' hm' he => by
        rcases Nat.eq_zero_or_pos D with h0 | h0
        · rw [hrt, if_pos h0] at he
          have h5 := ho.up hk d' (by omega)
          by_cases hpp : pre S.m d' k = pre S.m d' x
          · rw [hpp] at he; exact grow_ne hd ho (by omega) he
          · rw [grow_old hpp] at he; exact h5 he
        · rw [hrt, if_neg (by omega)] at he
          obtain ⟨r, hr⟩ : ∃ r, S.lk D (pre S.m D x) = some r := by
            cases hc : S.lk D (pre S.m D x) with
            | none => exact absurd hc (hd.at ho)
            | some r => exact ⟨r, rfl⟩
          have h6 : lkg S.m S.lk D x nb S.m D (pre S.m D x) = some r := by rw [grow_low (Nat.le_refl _)]; exact hr
          have h7 := hi d' _ D _ r (by show d' ≤ S.m; omega) (by show D ≤ S.m; omega) (he.trans hr) h6
          obtain ⟨h8, h9⟩ := h7
          rw [h8] at h9
          exact hp (pre_up (by omega) (by omega) h9)) hz
      rw [a, hz] at this
      cases this
    · rw [a]; simp
end
end Go.Proofs.YtcjifjfcjimefaaDoor.xf
