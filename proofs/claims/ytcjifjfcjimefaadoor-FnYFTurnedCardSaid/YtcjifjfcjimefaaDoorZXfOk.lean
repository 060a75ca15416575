/-
  What holds of a trie holds behind an insert: plain.
-/
import Derived.Test.YtcjifjfcjimefaaDoorZXfIns
namespace Go.Proofs.YtcjifjfcjimefaaDoor.xf
open Go.RowKit Go.Proofs.YtcjifjfcjimefaaDoor.base Go.Proofs.YtcjifjfcjimefaaDoor.heap Go.Proofs.YtcjifjfcjimefaaDoor.rows Go.Proofs.YtcjifjfcjimefaaDoor.mapn
set_option linter.unusedVariables false
variable [Inhabited Kd]

/-- the leaves between which a key comes (not always the nearest ones) -/
def Nb (S : Sh) (x : Nat) (pr su : Option Nat) : Prop :=
  ((∀ k, ¬ S.K k) ∧ pr = none ∧ su = none) ∨
  (∃ ks, S.K ks ∧ (∀ k, S.K k → ks ≤ k) ∧ x < ks ∧ pr = none ∧ su = S.lk S.m ks) ∨
  (∃ kp ks, S.K kp ∧ S.K ks ∧ S.More kp ∧ S.Less ks ∧ (∃ k, S.K k ∧ k < x) ∧ (∃ k, S.K k ∧ x < k) ∧ pr = S.lk S.m kp ∧ su = S.lk S.m ks) ∨
  (∃ kp, S.K kp ∧ (∀ k, S.K k → k ≤ kp) ∧ kp < x ∧ pr = S.lk S.m kp ∧ su = none)
/-- the children behind an insert -/
structure Fi (S : Sh) (D x : Nat) (nb : Nat → Nat) (pr su : Option Nat) (f : Cf) : Prop where
  x0 : f S.m x 0 = pr
  x1 : f S.m x 1 = su
  s0 : ∀ k, S.K k → su = S.lk S.m k → f S.m k 0 = some (nb S.m)
  p1 : ∀ k, S.K k → pr = S.lk S.m k → f S.m k 1 = some (nb S.m)
  o0 : ∀ k, S.K k → su ≠ S.lk S.m k → f S.m k 0 = S.ch S.m k 0
  o1 : ∀ k, S.K k → pr ≠ S.lk S.m k → f S.m k 1 = S.ch S.m k 1
  on : ∀ d, D ≤ d → d < S.m → f d (pre S.m d x) (side S.m d x) = some (nb (d + 1))
  off0 : ∀ d, D < d → d < S.m → side S.m d x = 1 → f d (pre S.m d x) 0 = pr
  off1 : ∀ d, D < d → d < S.m → side S.m d x = 0 → f d (pre S.m d x) 1 = su
  old0 : ∀ d p, d < S.m → S.lk d p ≠ none → ¬ (d = D ∧ p = pre S.m D x ∧ side S.m D x = 0) → f d p 0 = S.ch d p 0 ∨ (f d p 0 = some (nb S.m) ∧ NotIn S (S.ch d p 0) ∧ su ≠ none)
  old1 : ∀ d p, d < S.m → S.lk d p ≠ none → ¬ (d = D ∧ p = pre S.m D x ∧ side S.m D x = 1) → f d p 1 = S.ch d p 1 ∨ (f d p 1 = some (nb S.m) ∧ NotIn S (S.ch d p 1) ∧ pr ≠ none)
  nil0 : ∀ k, S.K k → su = S.lk S.m k → ∀ d, d < S.m → pre S.m d k ≠ pre S.m d x → f d (pre S.m d k) 0 ≠ none
  nil1 : ∀ k, S.K k → pr = S.lk S.m k → ∀ d, d < S.m → pre S.m d k ≠ pre S.m d x → f d (pre S.m d k) 1 ≠ none
section
variable {S : Sh} {D x : Nat} {v : Int} {nb : Nat → Nat} {pr su : Option Nat} {f : Cf}
omit [Inhabited Kd] in
theorem Nb.less (h : Nb S x pr su) : (pr = none ∧ ∀ k, S.K k → x ≤ k) ∨ (pr ≠ none ∧ ∃ k, S.K k ∧ k < x) := by
  rcases h with ⟨h1, h2, _⟩ | ⟨ks, h1, h2, h3, h4, _⟩ | ⟨kp, ks, h1, h2, h3, h4, h5, h6, h7, h8⟩ | ⟨kp, h1, h2, h3, h4, _⟩
  · exact .inl ⟨h2, fun k hk => absurd hk (h1 k)⟩
  · exact .inl ⟨h4, fun k hk => by have := h2 k hk; omega⟩
  · exact .inr ⟨by rw [h7]; exact h1, h5⟩
  · exact .inr ⟨by rw [h4]; exact h1, kp, h1, h3⟩
omit [Inhabited Kd] in
theorem Nb.more (h : Nb S x pr su) : (su = none ∧ ∀ k, S.K k → k ≤ x) ∨ (su ≠ none ∧ ∃ k, S.K k ∧ x < k) := by
  rcases h with ⟨h1, _, h2⟩ | ⟨ks, h1, h2, h3, _, h4⟩ | ⟨kp, ks, h1, h2, h3, h4, h5, h6, h7, h8⟩ | ⟨kp, h1, h2, h3, _, h4⟩
  · exact .inl ⟨h2, fun k hk => absurd hk (h1 k)⟩
  · exact .inr ⟨by rw [h4]; exact h1, ks, h1, h3⟩
  · exact .inr ⟨by rw [h8]; exact h2, h6⟩
  · exact .inl ⟨h4, fun k hk => by have := h2 k hk; omega⟩
omit [Inhabited Kd] in
/-- the keys behind it -/
theorem grow_K (hd : S.Deep D x) (k : Nat) : ((S.grow D x v nb S.m).w f).K k ↔ S.K k ∨ k = x := by
  show lkg S.m S.lk D x nb S.m S.m k ≠ none ↔ _
  unfold lkg
  rw [pre_full]
  by_cases h : k = x
  · rw [if_pos ⟨hd.d, Nat.le_refl _, h⟩]; simp [h]
  · rw [if_neg (fun h' => h h'.2.2)]
    exact ⟨fun h' => .inl h', fun h' => h'.resolve_right h⟩
omit [Inhabited Kd] in
theorem grow_lf (hd : S.Deep D x) {k : Nat} (hk : k ≠ x) : lkg S.m S.lk D x nb S.m S.m k = S.lk S.m k := by
  unfold lkg
  rw [pre_full, if_neg (fun h' => hk h'.2.2)]
omit [Inhabited Kd] in
theorem grow_lx (hd : S.Deep D x) : lkg S.m S.lk D x nb S.m S.m x = some (nb S.m) := by
  unfold lkg
  rw [pre_full, if_pos ⟨hd.d, Nat.le_refl _, rfl⟩]
omit [Inhabited Kd] in
/-- nodes off the branch -/
theorem grow_old {d p : Nat} (h : p ≠ pre S.m d x) : lkg S.m S.lk D x nb S.m d p = S.lk d p := by
  unfold lkg
  rw [if_neg (fun h' => h h'.2.2)]
omit [Inhabited Kd] in
theorem grow_new {d : Nat} (h1 : D < d) (h2 : d ≤ S.m) : lkg S.m S.lk D x nb S.m d (pre S.m d x) = some (nb d) := by
  unfold lkg
  rw [if_pos ⟨h1, h2, rfl⟩]
omit [Inhabited Kd] in
theorem grow_low {d p : Nat} (h1 : d ≤ D) : lkg S.m S.lk D x nb S.m d p = S.lk d p := by
  unfold lkg
  rw [if_neg (by omega)]
omit [Inhabited Kd] in
/-- a key below it is not x -/
theorem K_ne (hd : S.Deep D x) (ho : S.Ok) {k : Nat} (hk : S.K k) : k ≠ x := fun e => by subst e; exact hd.notK ho hk
omit [Inhabited Kd] in
/-- no leaf is an inner node -/
theorem notIn_inner (ho : S.Ok) {c : Option Nat} (h : NotIn S c) {d p : Nat} (hdm : d < S.m) (hne : S.lk d p ≠ none) : c ≠ S.lk d p := fun e => by
  rcases h with h | ⟨k, hk, h⟩
  · exact hne (e.symm.trans h)
  · obtain ⟨b, hb⟩ := hk.get
    have := ho.inj d p S.m k b (by omega) (Nat.le_refl _) (by rw [← e, h, hb]) hb
    omega
omit [Inhabited Kd] in
/-- nothing deeper stands off the old nodes -/
theorem off_none (hd : S.Deep D x) (ho : S.Ok) {d : Nat} (h1 : D < d) (h2 : d ≤ S.m) : S.lk d (pre S.m d x) = none := by
  have := lkg_free (nb := fun _ => 0) (i := d - 1) hd ho (by omega) (by omega)
  unfold lkg at this
  rw [show d - 1 + 1 = d by omega] at this
  rw [if_neg (by omega)] at this
  exact this
omit [Inhabited Kd] in
theorem off_child (hd : S.Deep D x) (ho : S.Ok) {d : Nat} (h1 : D < d) (h2 : d < S.m) {q : Nat} (hq : q / 2 = pre S.m d x) : S.lk (d + 1) q = none := by
  cases hb : S.lk (d + 1) q with
  | none => rfl
  | some b =>
    have := ho.tree d q h2 (by rw [hb]; simp)
    rw [hq, off_none hd ho h1 (by omega)] at this
    exact absurd rfl this
omit [Inhabited Kd] in
theorem insert_ok (ho : S.Ok) (hd : S.Deep D x) (hi : Inj (S.grow D x v nb S.m)) (ht : Tree S.m (lkg S.m S.lk D x nb S.m)) (hn : Nb S x pr su) (hf : Fi S D x nb pr su f) : ((S.grow D x v nb S.m).w f).Ok := by
  have hK := grow_K (v := v) (nb := nb) (f := f) hd
  have hless := hn.less
  have hmore := hn.more
  have hxl := hd.lt
  have hMore : ∀ k, S.More k → ((S.grow D x v nb S.m).w f).More k := fun k ⟨k', h1, h2⟩ => ⟨k', (hK k').2 (.inl h1), h2⟩
  have hLess : ∀ k, S.Less k → ((S.grow D x v nb S.m).w f).Less k := fun k ⟨k', h1, h2⟩ => ⟨k', (hK k').2 (.inl h1), h2⟩
  have hMx : su ≠ none → ((S.grow D x v nb S.m).w f).More x := fun h => by
    rcases hmore with ⟨h1, _⟩ | ⟨_, k, h1, h2⟩
    · exact absurd h1 h
    · exact ⟨k, (hK k).2 (.inl h1), h2⟩
  have hLx : pr ≠ none → ((S.grow D x v nb S.m).w f).Less x := fun h => by
    rcases hless with ⟨h1, _⟩ | ⟨_, k, h1, h2⟩
    · exact absurd h1 h
    · exact ⟨k, (hK k).2 (.inl h1), h2⟩
  have hKx : ((S.grow D x v nb S.m).w f).K x := (hK x).2 (.inr rfl)
  have hlx := grow_lx (nb := nb) hd
  have hpm : pre S.m S.m x = x := pre_full _ _
  -- a leaf of S as a leaf now
  have hleaf : ∀ k, S.K k → S.lk S.m k = lkg S.m S.lk D x nb S.m S.m k := fun k hk => (grow_lf hd (K_ne hd ho hk)).symm
  have hPr : pr ≠ none → ∃ kp, S.K kp ∧ pr = S.lk S.m kp ∧ ((S.grow D x v nb S.m).w f).More kp := fun h => by
    rcases hn with ⟨_, h2, _⟩ | ⟨ks, _, _, _, h4, _⟩ | ⟨kp, ks, h1, h2, h3, h4, h5, h6, h7, h8⟩ | ⟨kp, h1, h2, h3, h4, _⟩
    · exact absurd h2 h
    · exact absurd h4 h
    · exact ⟨kp, h1, h7, hMore kp h3⟩
    · exact ⟨kp, h1, h4, x, hKx, h3⟩
  have hSu : su ≠ none → ∃ ks, S.K ks ∧ su = S.lk S.m ks ∧ ((S.grow D x v nb S.m).w f).Less ks := fun h => by
    rcases hn with ⟨_, _, h2⟩ | ⟨ks, h1, _, h3, _, h4⟩ | ⟨kp, ks, h1, h2, h3, h4, h5, h6, h7, h8⟩ | ⟨kp, h1, h2, h3, _, h4⟩
    · exact absurd h2 h
    · exact ⟨ks, h1, h4, x, hKx, h3⟩
    · exact ⟨ks, h2, h8, hLess ks h4⟩
    · exact absurd h4 h
  refine ⟨ho.m2, ht, ?_, fun d p hdm hne => ?_, fun d p hdm hne => ?_, hi, fun d p hdm hne => ?_, fun d p hdm hne => ?_, fun k hk => ?_, fun k hk => ?_⟩
  · obtain ⟨r, hr⟩ := ho.root
    exact ⟨r, by show lkg S.m S.lk D x nb S.m 0 0 = some r; rw [grow_low (Nat.zero_le _)]; exact hr⟩
  · by_cases hp : p = pre S.m d x
    · subst hp
      unfold pre
      have hdm' : d ≤ S.m := hdm
      rw [Nat.div_lt_iff_lt_mul (Nat.two_pow_pos _), ← Nat.pow_add, show d + (S.m - d) = S.m from Nat.add_sub_cancel' hdm']
      exact hxl
    · exact ho.rng d p hdm (by have h2 : lkg S.m S.lk D x nb S.m d p ≠ none := hne; rwa [grow_old hp] at h2)
  · by_cases hp : p = pre S.m d x
    · exact .inr ⟨x, hKx, hp.symm⟩
    · rcases ho.sub d p hdm (by have h2 : lkg S.m S.lk D x nb S.m d p ≠ none := hne; rwa [grow_old hp] at h2) with h | ⟨k, h1, h2⟩
      · exact .inl h
      · exact .inr ⟨k, (hK k).2 (.inl h1), h2⟩
  · -- SIDE 0
    have hold : ∀ d p, d < S.m → S.lk d p ≠ none → lkg S.m S.lk D x nb S.m (d + 1) (2 * p) = S.lk (d + 1) (2 * p) → ¬ (d = D ∧ p = pre S.m D x ∧ side S.m D x = 0) → (f d p 0 = none → (∀ k, S.K k → p * 2 ^ (S.m - d) ≤ k) → p * 2 ^ (S.m - d) ≤ x) → ((S.grow D x v nb S.m).w f).Ch0 d p (f d p 0) := by
      intro d p hdm hne' hq hcond hrange
      rcases hf.old0 d p hdm hne' hcond with he | ⟨he, hni, hsu⟩
      · rw [he] at hrange ⊢
        rcases ho.in0 d p hdm hne' with ⟨a, b, c⟩ | ⟨a, ⟨b, c, e⟩ | ⟨k, b, c, e⟩⟩
        · exact .inl ⟨a, by show lkg S.m S.lk D x nb S.m (d + 1) (2 * p) ≠ none; rw [hq]; exact b, by show _ = lkg S.m S.lk D x nb S.m (d + 1) (2 * p); rw [hq]; exact c⟩
        · refine .inr ⟨fun h => a ⟨h.1, by have h2 : lkg S.m S.lk D x nb S.m (d + 1) (2 * p) ≠ none := h.2; rwa [hq] at h2⟩, .inl ⟨b, by show lkg S.m S.lk D x nb S.m (d + 1) (2 * p) = none; rw [hq]; exact c, fun k hk => ?_⟩⟩
          rcases (hK k).1 hk with h | rfl
          · exact e k h
          · exact hrange b e
        · exact .inr ⟨fun h => a ⟨h.1, by have h2 : lkg S.m S.lk D x nb S.m (d + 1) (2 * p) ≠ none := h.2; rwa [hq] at h2⟩, .inr ⟨k, (hK k).2 (.inl b), c.trans (hleaf k b), e.imp (hMore k) id⟩⟩
      · refine .inr ⟨fun h => ?_, .inr ⟨x, hKx, he.trans hlx.symm, .inl (hMx hsu)⟩⟩
        have h2 : lkg S.m S.lk D x nb S.m (d + 1) (2 * p) ≠ none := h.2
        rw [hq] at h2
        rcases ho.in0 d p hdm hne' with ⟨a, b, c⟩ | ⟨a, _⟩
        · exact notIn_inner ho hni h.1 h2 c
        · exact a ⟨h.1, h2⟩
    have hdm' : d < S.m := hdm
    have hps := pre_succ (k := x) hdm'
    have hsl := side_lt S.m d x
    show ((S.grow D x v nb S.m).w f).Ch0 d p (f d p 0)
    by_cases hp : p = pre S.m d x
    · subst hp
      by_cases hs : side S.m d x = 0
      · rw [hs] at hps
        by_cases hDd : D ≤ d
        · have h1 := hf.on d hDd hdm'
          rw [hs] at h1
          by_cases hm1 : d + 1 < S.m
          · have h2 := grow_new (S := S) (x := x) (nb := nb) (d := d + 1) (D := D) (by omega) (by omega)
            rw [show pre S.m (d + 1) x = 2 * pre S.m d x by omega] at h2
            exact .inl ⟨hm1, by show lkg S.m S.lk D x nb S.m (d + 1) _ ≠ none; rw [h2]; simp, by show _ = lkg S.m S.lk D x nb S.m (d + 1) _; rw [h2]; exact h1⟩
          · have e1 : d + 1 = S.m := by omega
            rw [e1] at h1
            rw [e1, hpm] at hps
            exact .inr ⟨fun h => hm1 h.1, .inr ⟨x, hKx, h1.trans hlx.symm, .inr ⟨e1, hps⟩⟩⟩
        · have h1 := hd.ex (d + 1) (by omega) (by omega)
          have hne' : S.lk d (pre S.m d x) ≠ none := by have h2 : lkg S.m S.lk D x nb S.m d (pre S.m d x) ≠ none := hne; rwa [grow_low (by omega)] at h2
          exact hold d _ hdm' hne' (grow_low (by omega)) (fun h => by omega) (fun _ _ => (pre_lo rfl).1)
      · have hs1 : side S.m d x = 1 := by omega
        rw [hs1] at hps
        by_cases hDd : D < d
        · have h1 := hf.off0 d hDd hdm' hs1
          have h2 : lkg S.m S.lk D x nb S.m (d + 1) (2 * pre S.m d x) = none := by
            rw [grow_old (by omega)]
            exact off_child hd ho hDd hdm' (by omega)
          refine .inr ⟨fun h => h.2 h2, ?_⟩
          by_cases hz : pr = none
          · refine .inl ⟨h1.trans hz, h2, fun k hk => ?_⟩
            show pre S.m d x * 2 ^ (S.m - d) ≤ k
            have h3 := pre_lo (m := S.m) (d := d) (k := x) (p := pre S.m d x) rfl
            rcases hless with ⟨_, h4⟩ | ⟨h4, _⟩
            · rcases (hK k).1 hk with h | rfl
              · have := h4 k h; omega
              · exact (pre_lo rfl).1
            · exact absurd hz h4
          · obtain ⟨kp, g1, g2, g3⟩ := hPr hz
            exact .inr ⟨kp, (hK kp).2 (.inl g1), h1.trans (g2.trans (hleaf kp g1)), .inl g3⟩
        · have hne' : S.lk d (pre S.m d x) ≠ none := by have h2 : lkg S.m S.lk D x nb S.m d (pre S.m d x) ≠ none := hne; rwa [grow_low (by omega)] at h2
          exact hold d _ hdm' hne' (grow_old (by omega)) (fun h => by obtain ⟨h5, _, h6⟩ := h; rw [← h5] at h6; omega) (fun _ _ => (pre_lo rfl).1)
    · have hne' : S.lk d p ≠ none := by have h2 : lkg S.m S.lk D x nb S.m d p ≠ none := hne; rwa [grow_old hp] at h2
      refine hold d p hdm' hne' (grow_old (by omega)) (fun h => hp (by obtain ⟨h5, h6, _⟩ := h; rw [h5]; exact h6)) (fun hz hall => ?_)
      rcases Nat.lt_or_ge x (p * 2 ^ (S.m - d)) with hlt | hge
      · exfalso
        rcases ho.sub d p (by omega) hne' with h0 | ⟨k0, hk0, hp0⟩
        · subst h0
          have := ho.rng 0 p (Nat.zero_le _) hne'
          exact hp (by rw [pre_zero hxl]; omega)
        · have hk0r := pre_lo hp0
          have hk0l := hall k0 hk0
          rcases hn with ⟨h1, _⟩ | ⟨ks, h1, h2, h3, _, h4⟩ | ⟨kp, ks, h1, h2, h3, h4, ⟨k, h5, h6⟩, _⟩ | ⟨kp, h1, _, h3, _⟩
          · exact h1 k0 hk0
          · have h7 : pre S.m d ks = p := pre_of (hall ks h1) (by have := h2 k0 hk0; omega)
            exact hf.nil0 ks h1 h4 d hdm' (by rw [h7]; exact hp) (by rw [h7]; exact hz)
          · have := hall k h5; omega
          · have := hall kp h1; omega
      · exact hge
  · -- SIDE 1
    have hold : ∀ d p, d < S.m → S.lk d p ≠ none → lkg S.m S.lk D x nb S.m (d + 1) (2 * p + 1) = S.lk (d + 1) (2 * p + 1) → ¬ (d = D ∧ p = pre S.m D x ∧ side S.m D x = 1) → (f d p 1 = none → (∀ k, S.K k → k < (p + 1) * 2 ^ (S.m - d)) → x < (p + 1) * 2 ^ (S.m - d)) → ((S.grow D x v nb S.m).w f).Ch1 d p (f d p 1) := by
      intro d p hdm hne' hq hcond hrange
      rcases hf.old1 d p hdm hne' hcond with he | ⟨he, hni, hsu⟩
      · rw [he] at hrange ⊢
        rcases ho.in1 d p hdm hne' with ⟨a, b, c⟩ | ⟨a, ⟨b, c, e⟩ | ⟨k, b, c, e⟩⟩
        · exact .inl ⟨a, by show lkg S.m S.lk D x nb S.m (d + 1) (2 * p + 1) ≠ none; rw [hq]; exact b, by show _ = lkg S.m S.lk D x nb S.m (d + 1) (2 * p + 1); rw [hq]; exact c⟩
        · refine .inr ⟨fun h => a ⟨h.1, by have h2 : lkg S.m S.lk D x nb S.m (d + 1) (2 * p + 1) ≠ none := h.2; rwa [hq] at h2⟩, .inl ⟨b, by show lkg S.m S.lk D x nb S.m (d + 1) (2 * p + 1) = none; rw [hq]; exact c, fun k hk => ?_⟩⟩
          rcases (hK k).1 hk with h | rfl
          · exact e k h
          · exact hrange b e
        · exact .inr ⟨fun h => a ⟨h.1, by have h2 : lkg S.m S.lk D x nb S.m (d + 1) (2 * p + 1) ≠ none := h.2; rwa [hq] at h2⟩, .inr ⟨k, (hK k).2 (.inl b), c.trans (hleaf k b), e.imp (hLess k) id⟩⟩
      · refine .inr ⟨fun h => ?_, .inr ⟨x, hKx, he.trans hlx.symm, .inl (hLx hsu)⟩⟩
        have h2 : lkg S.m S.lk D x nb S.m (d + 1) (2 * p + 1) ≠ none := h.2
        rw [hq] at h2
        rcases ho.in1 d p hdm hne' with ⟨a, b, c⟩ | ⟨a, _⟩
        · exact notIn_inner ho hni h.1 h2 c
        · exact a ⟨h.1, h2⟩
    have hdm' : d < S.m := hdm
    have hps := pre_succ (k := x) hdm'
    have hsl := side_lt S.m d x
    show ((S.grow D x v nb S.m).w f).Ch1 d p (f d p 1)
    by_cases hp : p = pre S.m d x
    · subst hp
      by_cases hs : side S.m d x = 1
      · rw [hs] at hps
        by_cases hDd : D ≤ d
        · have h1 := hf.on d hDd hdm'
          rw [hs] at h1
          by_cases hm1 : d + 1 < S.m
          · have h2 := grow_new (S := S) (x := x) (nb := nb) (d := d + 1) (D := D) (by omega) (by omega)
            rw [show pre S.m (d + 1) x = 2 * pre S.m d x + 1 by omega] at h2
            exact .inl ⟨hm1, by show lkg S.m S.lk D x nb S.m (d + 1) _ ≠ none; rw [h2]; simp, by show _ = lkg S.m S.lk D x nb S.m (d + 1) _; rw [h2]; exact h1⟩
          · have e1 : d + 1 = S.m := by omega
            rw [e1] at h1
            rw [e1, hpm] at hps
            exact .inr ⟨fun h => hm1 h.1, .inr ⟨x, hKx, h1.trans hlx.symm, .inr ⟨e1, hps⟩⟩⟩
        · have h1 := hd.ex (d + 1) (by omega) (by omega)
          have hne' : S.lk d (pre S.m d x) ≠ none := by have h2 : lkg S.m S.lk D x nb S.m d (pre S.m d x) ≠ none := hne; rwa [grow_low (by omega)] at h2
          exact hold d _ hdm' hne' (grow_low (by omega)) (fun h => by omega) (fun _ _ => (pre_lo rfl).2)
      · have hs1 : side S.m d x = 0 := by omega
        rw [hs1] at hps
        by_cases hDd : D < d
        · have h1 := hf.off1 d hDd hdm' hs1
          have h2 : lkg S.m S.lk D x nb S.m (d + 1) (2 * pre S.m d x + 1) = none := by
            rw [grow_old (by omega)]
            exact off_child hd ho hDd hdm' (by omega)
          refine .inr ⟨fun h => h.2 h2, ?_⟩
          by_cases hz : su = none
          · refine .inl ⟨h1.trans hz, h2, fun k hk => ?_⟩
            show k < (pre S.m d x + 1) * 2 ^ (S.m - d)
            have h3 := pre_lo (m := S.m) (d := d) (k := x) (p := pre S.m d x) rfl
            rcases hmore with ⟨_, h4⟩ | ⟨h4, _⟩
            · rcases (hK k).1 hk with h | rfl
              · have := h4 k h; omega
              · exact (pre_lo rfl).2
            · exact absurd hz h4
          · obtain ⟨kp, g1, g2, g3⟩ := hSu hz
            exact .inr ⟨kp, (hK kp).2 (.inl g1), h1.trans (g2.trans (hleaf kp g1)), .inl g3⟩
        · have hne' : S.lk d (pre S.m d x) ≠ none := by have h2 : lkg S.m S.lk D x nb S.m d (pre S.m d x) ≠ none := hne; rwa [grow_low (by omega)] at h2
          exact hold d _ hdm' hne' (grow_old (by omega)) (fun h => by obtain ⟨h5, _, h6⟩ := h; rw [← h5] at h6; omega) (fun _ _ => (pre_lo rfl).2)
    · have hne' : S.lk d p ≠ none := by have h2 : lkg S.m S.lk D x nb S.m d p ≠ none := hne; rwa [grow_old hp] at h2
      refine hold d p hdm' hne' (grow_old (by omega)) (fun h => hp (by obtain ⟨h5, h6, _⟩ := h; rw [h5]; exact h6)) (fun hz hall => ?_)
      rcases Nat.lt_or_ge x ((p + 1) * 2 ^ (S.m - d)) with hlt | hge
      · exact hlt
      · exfalso
        rcases ho.sub d p (by omega) hne' with h0 | ⟨k0, hk0, hp0⟩
        · subst h0
          have := ho.rng 0 p (Nat.zero_le _) hne'
          exact hp (by rw [pre_zero hxl]; omega)
        · have hk0r := pre_lo hp0
          have hk0l := hall k0 hk0
          rcases hn with ⟨h1, _⟩ | ⟨ks, h1, h2, h3, _⟩ | ⟨kp, ks, h1, h2, h3, h4, _, ⟨k, h5, h6⟩, _⟩ | ⟨kp, h1, h2, h3, h4, _⟩
          · exact h1 k0 hk0
          · have := hall ks h1; omega
          · have := hall k h5; omega
          · have h7 : pre S.m d kp = p := pre_of (by have := h2 k0 hk0; omega) (hall kp h1)
            exact hf.nil1 kp h1 h4 d hdm' (by rw [h7]; exact hp) (by rw [h7]; exact hz)
  · -- a leaf's left neighbour
    show ((S.grow D x v nb S.m).w f).Lf0 k (f S.m k 0)
    rcases (hK k).1 hk with h | rfl
    · by_cases hsk : su = S.lk S.m k
      · have hne : su ≠ none := by rw [hsk]; exact h
        rw [hf.s0 k h hsk]
        refine .inr ⟨?_, x, hKx, hlx.symm, hMx hne⟩
        rcases hn with ⟨h1, _⟩ | ⟨ks, h1, h2, h3, _, h4⟩ | ⟨kp, ks, h1, h2, h3, h4, h5, h6, h7, h8⟩ | ⟨kp, h1, h2, h3, _, h4⟩
        · exact absurd h (h1 k)
        · exact ⟨x, hKx, by
            obtain ⟨b, hb⟩ := h.get
            have := ho.inj S.m ks S.m k b (Nat.le_refl _) (Nat.le_refl _) (by rw [← h4, hsk, hb]) hb
            omega⟩
        · have he : ks = k := by
            obtain ⟨b, hb⟩ := h.get
            have := ho.inj S.m ks S.m k b (Nat.le_refl _) (Nat.le_refl _) (by rw [← h8, hsk, hb]) hb
            omega
          subst he
          exact hLess ks h4
        · exact absurd h4 hne
      · rw [hf.o0 k h hsk]
        rcases ho.lf0 k h with ⟨a, b⟩ | ⟨a, k', b, c, e⟩
        · refine .inl ⟨a, fun ⟨k', g1, g2⟩ => ?_⟩
          rcases (hK k').1 g1 with g1 | rfl
          · exact b ⟨k', g1, g2⟩
          · have hmin : ∀ k', S.K k' → k ≤ k' := fun k' hk' => by
              rcases Nat.lt_or_ge k' k with h' | h'
              · exact absurd ⟨k', hk', h'⟩ b
              · exact h'
            rcases hn with ⟨h1, _⟩ | ⟨ks, h1, h2, h3, _, h4⟩ | ⟨kp, ks, h1, h2, h3, h4, ⟨k2, h5, h6⟩, _⟩ | ⟨kp, h1, h2, h3, _⟩
            · exact h1 k h
            · have e1 := h2 k h
              have e2 := hmin ks h1
              obtain rfl : ks = k := by omega
              exact hsk h4
            · have := hmin k2 h5; omega
            · have := hmin kp h1; omega
        · exact .inr ⟨hLess k a, k', (hK k').2 (.inl b), c.trans (hleaf k' b), hMore k' e⟩
    · rw [hf.x0]
      rcases hless with ⟨h1, h2⟩ | ⟨h1, h2⟩
      · refine .inl ⟨h1, fun ⟨k', g1, g2⟩ => ?_⟩
        rcases (hK k').1 g1 with g1 | rfl
        · have := h2 k' g1; omega
        · omega
      · obtain ⟨kp, g1, g2, g3⟩ := hPr h1
        exact .inr ⟨hLx h1, kp, (hK kp).2 (.inl g1), g2.trans (hleaf kp g1), g3⟩
  · -- a leaf's right neighbour
    show ((S.grow D x v nb S.m).w f).Lf1 k (f S.m k 1)
    rcases (hK k).1 hk with h | rfl
    · by_cases hsk : pr = S.lk S.m k
      · have hne : pr ≠ none := by rw [hsk]; exact h
        rw [hf.p1 k h hsk]
        refine .inr ⟨?_, x, hKx, hlx.symm, hLx hne⟩
        rcases hn with ⟨h1, _⟩ | ⟨ks, h1, h2, h3, h4, _⟩ | ⟨kp, ks, h1, h2, h3, h4, h5, h6, h7, h8⟩ | ⟨kp, h1, h2, h3, h4, _⟩
        · exact absurd h (h1 k)
        · exact absurd h4 hne
        · have he : kp = k := by
            obtain ⟨b, hb⟩ := h.get
            have := ho.inj S.m kp S.m k b (Nat.le_refl _) (Nat.le_refl _) (by rw [← h7, hsk, hb]) hb
            omega
          subst he
          exact hMore kp h3
        · exact ⟨x, hKx, by
            obtain ⟨b, hb⟩ := h.get
            have := ho.inj S.m kp S.m k b (Nat.le_refl _) (Nat.le_refl _) (by rw [← h4, hsk, hb]) hb
            omega⟩
      · rw [hf.o1 k h hsk]
        rcases ho.lf1 k h with ⟨a, b⟩ | ⟨a, k', b, c, e⟩
        · refine .inl ⟨a, fun ⟨k', g1, g2⟩ => ?_⟩
          rcases (hK k').1 g1 with g1 | rfl
          · exact b ⟨k', g1, g2⟩
          · have hmax : ∀ k', S.K k' → k' ≤ k := fun k' hk' => by
              rcases Nat.lt_or_ge k k' with h' | h'
              · exact absurd ⟨k', hk', h'⟩ b
              · exact h'
            rcases hn with ⟨h1, _⟩ | ⟨ks, h1, h2, h3, _⟩ | ⟨kp, ks, h1, h2, h3, h4, _, ⟨k2, h5, h6⟩, _⟩ | ⟨kp, h1, h2, h3, h4, _⟩
            · exact h1 k h
            · have := hmax ks h1; omega
            · have := hmax k2 h5; omega
            · have e1 := h2 k h
              have e2 := hmax kp h1
              obtain rfl : kp = k := by omega
              exact hsk h4
        · exact .inr ⟨hMore k a, k', (hK k').2 (.inl b), c.trans (hleaf k' b), hLess k' e⟩
    · rw [hf.x1]
      rcases hmore with ⟨h1, h2⟩ | ⟨h1, h2⟩
      · refine .inl ⟨h1, fun ⟨k', g1, g2⟩ => ?_⟩
        rcases (hK k').1 g1 with g1 | rfl
        · have := h2 k' g1; omega
        · omega
      · obtain ⟨ks, g1, g2, g3⟩ := hSu h1
        exact .inr ⟨hMx h1, ks, (hK ks).2 (.inl g1), g2.trans (hleaf ks g1), g3⟩
end
end Go.Proofs.YtcjifjfcjimefaaDoor.xf
