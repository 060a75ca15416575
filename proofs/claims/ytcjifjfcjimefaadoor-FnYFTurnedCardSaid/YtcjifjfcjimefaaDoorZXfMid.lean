/-
  insert: what is needed between the branch and the walks up.
-/
import Derived.Test.YtcjifjfcjimefaaDoorZXfFi
import Derived.Test.YtcjifjfcjimefaaDoorZXfEnd
namespace Go.Proofs.YtcjifjfcjimefaaDoor.xf
open Go.RowKit Go.Proofs.YtcjifjfcjimefaaDoor.base Go.Proofs.YtcjifjfcjimefaaDoor.heap Go.Proofs.YtcjifjfcjimefaaDoor.rows Go.Proofs.YtcjifjfcjimefaaDoor.mapn
set_option linter.unusedVariables false
variable [Inhabited Kd]

section
variable {S : Sh} {D x : Nat} {v : Int} {nb : Nat → Nat} {pr su rt : Option Nat} {g f1 f2 : Cf}
omit [Inhabited Kd] in
theorem chg_leaf (hd : S.Deep D x) (ho : S.Ok) {k t : Nat} (hk : S.K k) : chg S.m S.ch D x nb S.m S.m k t = S.ch S.m k t := by
  unfold chg
  rw [if_neg (by omega), if_neg (fun h => K_ne hd ho hk (h.2.2.trans (pre_full _ _)))]
omit [Inhabited Kd] in
theorem chg_x (hd : S.Deep D x) {t : Nat} : chg S.m S.ch D x nb S.m S.m x t = none := by
  unfold chg
  rw [if_neg (by omega), if_pos ⟨hd.d, Nat.le_refl _, (pre_full _ _).symm⟩]
omit [Inhabited Kd] in
theorem grow_up (hd : S.Deep D x) (ho : S.Ok) {k : Nat} (hk : S.K k) : ∀ d, d ≤ S.m → lkg S.m S.lk D x nb S.m d (pre S.m d k) ≠ none := fun d h => by
  by_cases hp : pre S.m d k = pre S.m d x
  · rw [hp]; exact grow_ne hd ho h
  · rw [grow_old hp]; exact ho.up hk d h
omit [Inhabited Kd] in
/-- an old inner node stands where it stood -/
theorem grow_same (hd : S.Deep D x) (ho : S.Ok) {d q : Nat} (h : d ≤ S.m) (hne : S.lk d q ≠ none) : lkg S.m S.lk D x nb S.m d q = S.lk d q := by
  by_cases hp : q = pre S.m d x
  · rcases Nat.lt_or_ge D d with h3 | h3
    · rw [hp, off_none hd ho h3 h] at hne; exact absurd rfl hne
    · exact grow_low h3
  · exact grow_old hp
omit [Inhabited Kd] in
theorem chok_S (hd : S.Deep D x) (ho : S.Ok) (f : Cf) {d p t : Nat} (hdm : d < S.m) (hne : S.lk d p ≠ none) (ht : t < 2) : ChOk ((S.grow D x v nb S.m).w f) (S.ch d p t) := by
  have hl : ∀ k, S.K k → S.lk S.m k = lkg S.m S.lk D x nb S.m S.m k := fun k hk => (grow_lf hd (K_ne hd ho hk)).symm
  have hK := grow_K (v := v) (nb := nb) (f := f) hd
  have h2 : t = 0 ∨ t = 1 := by omega
  rcases h2 with rfl | rfl
  · rcases ho.in0 d p hdm hne with ⟨a, b, c⟩ | ⟨_, ⟨c, _⟩ | ⟨k, hk, c, _⟩⟩
    · exact .inr ⟨d + 1, 2 * p, a, by rw [c]; exact (grow_same hd ho (by omega) b).symm, by rw [c]; exact b⟩
    · exact .inl (.inl c)
    · exact .inl (.inr ⟨k, (hK k).2 (.inl hk), c.trans (hl k hk)⟩)
  · rcases ho.in1 d p hdm hne with ⟨a, b, c⟩ | ⟨_, ⟨c, _⟩ | ⟨k, hk, c, _⟩⟩
    · exact .inr ⟨d + 1, 2 * p + 1, a, by rw [c]; exact (grow_same hd ho (by omega) b).symm, by rw [c]; exact b⟩
    · exact .inl (.inl c)
    · exact .inl (.inr ⟨k, (hK k).2 (.inl hk), c.trans (hl k hk)⟩)
omit [Inhabited Kd] in
/-- the children ahead of the links -/
theorem chok_c (hd : S.Deep D x) (ho : S.Ok) (f : Cf) {d p t : Nat} (hdm : d < S.m) (hne : lkg S.m S.lk D x nb S.m d p ≠ none) (ht : t < 2) : ChOk ((S.grow D x v nb S.m).w f) (chg S.m S.ch D x nb S.m d p t) := by
  have hK := grow_K (v := v) (nb := nb) (f := f) hd
  unfold chg
  split
  · rename_i h
    obtain ⟨h1, h2, h3, h4⟩ := h
    by_cases hm : d + 1 < S.m
    · exact .inr ⟨d + 1, pre S.m (d + 1) x, hm, (grow_new (by omega) (by omega)).symm, by simp⟩
    · refine .inl (.inr ⟨x, (hK x).2 (.inr rfl), ?_⟩)
      rw [show d + 1 = S.m by omega]
      exact (grow_lx hd).symm
  · split
    · exact .inl (.inl rfl)
    · rename_i h1 h2
      refine chok_S hd ho f hdm ?_ ht
      unfold lkg at hne
      split at hne
      · rename_i h3; exact absurd h3 h2
      · exact hne
/-- a bit of an insert: the children f -/
structure Bd (w wr : World) (S : Sh) (D x : Nat) (v : Int) (nb : Nat → Nat) (tb lb root num : Nat) (md : Nat → Nat) (mn mx : Option Nat) (f : Cf) : Prop where
  mem : Mem wr ((S.grow D x v nb S.m).w f)
  lay : Lay wr S.m lb md (lkg S.m S.lk D x nb S.m)
  obj : TObj wr tb lb S.m root (num + 1) mn mx
  only : Only (Own S tb md) w wr
  own : ∀ d p b, d ≤ S.m → lkg S.m S.lk D x nb S.m d p = some b → Own S tb md b ∨ w.heap.size ≤ b
def Nod (S : Sh) (k : Nat) : Prop := ∃ d p, d ≤ S.m ∧ S.lk d p = some k
variable {w wr w' : World} {tb lb root num : Nat} {md : Nat → Nat} {mn mx : Option Nat} {f f' : Cf}
theorem Bd.step (h : Bd w wr S D x v nb tb lb root num md mn mx f) (hm : Mem w' ((S.grow D x v nb S.m).w f')) (ho : Only (Nod (S.grow D x v nb S.m)) wr w') : Bd w w' S D x v nb tb lb root num md mn mx f' := by
  refine ⟨hm, h.lay.keep ho (fun ⟨d, p, h1, h2⟩ => ?_) (fun i hi ⟨d, p, h1, h2⟩ => ?_), h.obj.keep ho (fun ⟨d, p, h1, h2⟩ => ?_), h.only.trans ho (fun k hk ⟨d, p, h1, h2⟩ => ?_), h.own⟩
  · exact Mem.ne_lb (S := (S.grow D x v nb S.m).w f) h.mem h.lay h1 h2 rfl
  · obtain ⟨f9, h6, _⟩ := h.lay.maps i hi
    exact (h.mem d p _ h1 h2).ne_md h6 rfl
  · exact (h.mem d p _ h1 h2).ne_T h.obj rfl
  · rcases h.own d p k h1 h2 with h3 | h3
    · exact h3
    · omega
theorem Bd.inn (h : Bd w wr S D x v nb tb lb root num md mn mx f) (hm : Mem w' ((S.grow D x v nb S.m).w f')) (ho : Only (Inn (S.grow D x v nb S.m)) wr w') : Bd w w' S D x v nb tb lb root num md mn mx f' :=
  h.step hm (ho.mono (fun k _ ⟨d, p, h1, h2⟩ => ⟨d, p, Nat.le_of_lt h1, h2⟩))
theorem Gi.bd (h : Gi w wr S D x v nb S.m tb lb root num md mn mx) : Bd w wr S D x v nb tb lb root num md mn mx (chg S.m S.ch D x nb S.m) := by
  refine ⟨h.mem, h.lay, by have := h.obj; rwa [if_pos rfl] at this, h.only, fun d p b h1 h2 => ?_⟩
  unfold lkg at h2
  split at h2
  · rename_i h3
    cases h2
    exact .inr (h.new d h3.1 h3.2.1)
  · exact .inl (.inr (.inr ⟨d, p, h1, h2⟩))
omit [Inhabited Kd] in
/-- the children on the branch ahead of walkUpNode -/
theorem mid_ch (hd : S.Deep D x) (ho : S.Ok) (hi : Inj (S.grow D x v nb S.m)) (hrt : rt = if D = 0 then none else S.lk D (pre S.m D x))
    (gin : ∀ d p t, d < S.m → g d p t = chg S.m S.ch D x nb S.m d p t)
    (u0 : ∀ d p t, f1 d p t = g d p t ∨ (t = 0 ∧ d < S.m ∧ (∃ k, S.K k ∧ su = S.lk S.m k ∧ p = pre S.m d k) ∧ f1 d p t = some (nb S.m) ∧ NotIn (S.grow D x v nb S.m) (g d p t)))
    (u1 : ∀ d p t, f2 d p t = f1 d p t ∨ (t = 1 ∧ d < S.m ∧ (∃ k, S.K k ∧ pr = S.lk S.m k ∧ p = pre S.m d k) ∧ f2 d p t = some (nb S.m) ∧ NotIn (S.grow D x v nb S.m) (f1 d p t))) :
    ∀ d, d < S.m → (∀ d', d ≤ d' → d' < S.m → lkg S.m S.lk D x nb S.m d' (pre S.m d' x) ≠ rt) → ∀ t, t < 2 → f2 d (pre S.m d x) t = none ∨ IsIn (S.grow D x v nb S.m) (f2 d (pre S.m d x) t) ∨ f2 d (pre S.m d x) t = some (nb S.m) := by
  intro d hdm hne t ht
  have hDm := hd.d
  have hdD : D < d ∨ (D = 0 ∧ d = 0) := by
    rcases Nat.lt_or_ge D d with h | h
    · exact .inl h
    · rcases Nat.eq_zero_or_pos D with h0 | h0
      · exact .inr ⟨h0, by omega⟩
      · rw [if_neg (by omega)] at hrt
        exact absurd (by rw [grow_low (Nat.le_refl _), hrt]) (hne D h hDm)
  -- it is either what the branch left, or the new leaf
  have a : f2 d (pre S.m d x) t = chg S.m S.ch D x nb S.m d (pre S.m d x) t ∨ f2 d (pre S.m d x) t = some (nb S.m) := by
    rcases u1 d (pre S.m d x) t with h | ⟨_, _, _, h, _⟩
    · rcases u0 d (pre S.m d x) t with h' | ⟨_, _, _, h', _⟩
      · left; rw [h, h', gin _ _ _ hdm]
      · right; rw [h, h']
    · exact .inr h
  rcases a with a | a
  · rw [a]
    by_cases hs : t = side S.m d x
    · subst hs
      rw [on_get (by omega) hdm]
      rcases Nat.lt_or_ge (d + 1) S.m with h3 | h3
      · exact .inr (.inl (new_isIn (by omega) h3))
      · right; right; rw [show d + 1 = S.m by omega]
    · rcases hdD with h | ⟨h0, h1⟩
      · left
        unfold chg
        rw [if_neg (fun h => hs h.2.2.2), if_pos ⟨h, by omega, rfl⟩]
      · subst h1
        have hp0 := pre_zero hd.lt
        have hr : S.lk 0 (pre S.m 0 x) ≠ none := by
          obtain ⟨r, hr⟩ := ho.root
          rw [hp0, hr]; simp
        rw [old_get hd ho hr hdm (fun ⟨_, _, h3⟩ => hs (by rw [← h3, h0]))]
        have h7 := side_lt S.m 0 x
        have ht2 : t = 0 ∨ t = 1 := by omega
        rcases ht2 with rfl | rfl
        · rcases ho.in0 0 _ hdm hr with ⟨b, c, e⟩ | ⟨b, ⟨c, _⟩ | ⟨k, hk, _⟩⟩
          · exact .inr (.inl ⟨1, 2 * pre S.m 0 x, b, by rw [e]; exact (grow_same hd ho (by omega) c).symm, by rw [e]; exact c⟩)
          · exact .inl c
          · refine absurd hk (no_keys hd ho h0 (.inl ?_) (.inr (by omega)) k)
            cases hb : S.lk 1 0 with
            | none => rfl
            | some q => exact absurd ⟨by have := ho.m2; omega, by rw [hp0]; show S.lk 1 0 ≠ none; rw [hb]; simp⟩ b
        · rcases ho.in1 0 _ hdm hr with ⟨b, c, e⟩ | ⟨b, ⟨c, _⟩ | ⟨k, hk, _⟩⟩
          · exact .inr (.inl ⟨1, 2 * pre S.m 0 x + 1, b, by rw [e]; exact (grow_same hd ho (by omega) c).symm, by rw [e]; exact c⟩)
          · exact .inl c
          · refine absurd hk (no_keys hd ho h0 (.inr (by omega)) (.inl ?_) k)
            cases hb : S.lk 1 1 with
            | none => rfl
            | some q => exact absurd ⟨by have := ho.m2; omega, by rw [hp0]; show S.lk 1 1 ≠ none; rw [hb]; simp⟩ b
  · exact .inr (.inr a)
end
/-- the leaves that insert finds first -/
def Nb0 (S : Sh) (x : Nat) (pr su : Option Nat) : Prop :=
  ((∀ k, ¬ S.K k) ∧ pr = none ∧ su = none) ∨
  (∃ ks, S.K ks ∧ (∀ k, S.K k → ks ≤ k) ∧ x < ks ∧ pr = none ∧ su = S.lk S.m ks) ∨
  (∃ ks, S.K ks ∧ S.Less ks ∧ (∃ k, S.K k ∧ k < x) ∧ (∃ k, S.K k ∧ x < k) ∧ pr = none ∧ su = S.lk S.m ks) ∨
  (∃ kp, S.K kp ∧ (∀ k, S.K k → k ≤ kp) ∧ kp < x ∧ pr = S.lk S.m kp ∧ su = none)
/-- the keys of the entries, and of the new one, can be read whatever the trie's own blocks hold -/
def KeysOk (S : Sh) (tb : Nat) (md : Nat → Nat) (w : World) (x : Nat) (v : Int) : Prop := ∀ wx, Only (Own S tb md) w wx → ∀ k u, (k = x ∧ u = v) ∨ (S.K k ∧ u = S.ent k) → okK wx k u
/-- said of insert where the key is new -/
def InsP (S : Sh) (D x : Nat) (v : Int) (tb lb root num : Nat) (md : Nat → Nat) (w : World) (P : Ending → World → Prop) : Prop :=
  (∀ w' f nb mn' mx', Trie w' ((S.grow D x v nb S.m).w f) tb lb root (num + 1) md mn' mx' → Only (Own S tb md) w w' → (∀ d p b, d ≤ S.m → lkg S.m S.lk D x nb S.m d p = some b → Own S tb md b ∨ w.heap.size ≤ b) → P (.returned (.tuple #[])) w') ∧ KeysOk S tb md w x v
end Go.Proofs.YtcjifjfcjimefaaDoor.xf
