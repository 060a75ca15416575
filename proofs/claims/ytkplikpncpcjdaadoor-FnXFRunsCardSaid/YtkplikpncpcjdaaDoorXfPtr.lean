/-
  Pointers to nodes compared; a child is set.
-/
import Derived.Test.YtkplikpncpcjdaaDoorXfShape
import Derived.Deep.LoopGhost
namespace Go.Proofs.YtkplikpncpcjdaaDoor.xf
open Go.RowKit Go.Proofs.YtkplikpncpcjdaaDoor.base Go.Proofs.YtkplikpncpcjdaaDoor.heap Go.Proofs.YtkplikpncpcjdaaDoor.rows Go.Proofs.YtkplikpncpcjdaaDoor.mapn
set_option linter.unusedVariables false

/-- something lies at a block's head -/
def Liv (w : World) (b : Nat) : Prop := ∃ c t, w.heap[b]? = some (.cells c t (0, 0))
theorem Nd.liv {w : World} {b : Nat} {e : Value} {c0 c1 p : Option Nat} (h : Nd w b e c0 c1 p) : Liv w b := ⟨_, _, h⟩
theorem info_N : ∃ i, Tryd.prog.info? 79 = some i ∧ i.size ≠ 0 := by
  have h : (Tryd.prog.info? 79).map (fun i => i.size) = some 4 := by kernel_rfl
  cases hc : Tryd.prog.info? 79 with
  | none => rw [hc] at h; cases h
  | some i =>
    rw [hc] at h
    have h2 : i.size = 4 := by simpa using h
    exact ⟨i, rfl, by omega⟩
abbrev pb (b : Nat) : Value := .pointer (some ⟨b, 0, none⟩)
theorem neq_pp {w : World} {u x : Nat} (hu : Liv w u) (hx : Liv w x) : (binOp .neq 67 (pb u) (pb x)).run Tryd.prog w = .ok (.bool (!(u == x))) w := by
  obtain ⟨i, hi, hsz⟩ := info_N
  by_cases e : u = x
  · subst e
    rw [beq_self_eq_true]
    have h : ∀ d : Nat, (Op.equalIn (d + 1) 67 (pb u) (pb u)).run Tryd.prog w = .ok true w := fun d => by
      simp [Op.equalIn, run_underlying Tryd.underlying67, sizeOf, typeInfo, hi, run_sameAddr_same]
    simp only [binOp]
    simp [Op.equal, Op.maxDepth, h 9999]
  · obtain ⟨c1, t1, h1⟩ := hu
    obtain ⟨c2, t2, h2⟩ := hx
    rw [show (u == x) = false by simpa using e]
    have hne : (⟨u, 0, none⟩ : Addr) ≠ ⟨x, 0, none⟩ := fun h => e (by cases h; rfl)
    have h : ∀ d : Nat, (Op.equalIn (d + 1) 67 (pb u) (pb x)).run Tryd.prog w = .ok false w := fun d => by
      simp [Op.equalIn, run_underlying Tryd.underlying67, sizeOf, typeInfo, hi, hsz, run_sameAddr_other w hne h1 h2]
    simp only [binOp]
    simp [Op.equal, Op.maxDepth, h 9999]

theorem neq_np (w : World) (b : Nat) : (binOp .neq 67 (.pointer none) (pb b)).run Tryd.prog w = .ok (.bool true) w := by
  obtain ⟨i, hi, hsz⟩ := info_N
  have h : ∀ d : Nat, (Op.equalIn (d + 1) 67 (.pointer none) (pb b)).run Tryd.prog w = .ok false w := fun d => by
    simp [Op.equalIn, run_underlying Tryd.underlying67]
  simp only [binOp]
  simp [Op.equal, Op.maxDepth, h 9999]
theorem neq_nn (w : World) : (binOp .neq 67 (.pointer none) (.pointer none)).run Tryd.prog w = .ok (.bool false) w := by
  have h : ∀ d : Nat, (Op.equalIn (d + 1) 67 (.pointer none) (.pointer none)).run Tryd.prog w = .ok true w := fun d => by
    simp [Op.equalIn, run_underlying Tryd.underlying67]
  simp only [binOp]
  simp [Op.equal, Op.maxDepth, h 9999]
theorem neq_pn (w : World) (b : Nat) : (binOp .neq 67 (pb b) (.pointer none)).run Tryd.prog w = .ok (.bool true) w := by
  have h : ∀ d : Nat, (Op.equalIn (d + 1) 67 (pb b) (.pointer none)).run Tryd.prog w = .ok false w := fun d => by
    simp [Op.equalIn, run_underlying Tryd.underlying67]
  simp only [binOp]
  simp [Op.equal, Op.maxDepth, h 9999]

abbrev Cf := Nat → Nat → Nat → Option Nat
/-- the children, one of them set -/
def upd (f : Cf) (d p s : Nat) (c : Option Nat) : Cf := fun d' p' s' => if d' = d ∧ p' = p ∧ s' = s then c else f d' p' s'
theorem upd_same (f : Cf) (d p s : Nat) (c : Option Nat) : upd f d p s c d p s = c := by simp [upd]
theorem upd_other (f : Cf) (d p s : Nat) (c : Option Nat) {d' p' s' : Nat} (h : ¬ (d' = d ∧ p' = p ∧ s' = s)) : upd f d p s c d' p' s' = f d' p' s' := by simp [upd, h]
/-- other children -/
abbrev Sh.w (S : Sh) (f : Cf) : Sh := { S with ch := f }
def Inj (S : Sh) : Prop := ∀ d p d' p' b, d ≤ S.m → d' ≤ S.m → S.lk d p = some b → S.lk d' p' = some b → d = d' ∧ p = p'
theorem Mem.put {w : World} {S : Sh} {f : Cf} {d p b s : Nat} (h : Mem w (S.w f)) (hi : Inj S) (hd : d ≤ S.m) (hb : S.lk d p = some b) (hs : s < 2) (c : Option Nat) : Mem (w.setCell ⟨b, s + 1, none⟩ (op c)) (S.w (upd f d p s c)) := by
  intro d' p' b' hd' hb'
  have h1 := h d' p' b' hd' hb'
  by_cases e : b' = b
  · subst e
    obtain ⟨rfl, rfl⟩ := hi d p d' p' b' hd hd' hb hb'
    have h0 : s = 0 ∨ s = 1 := by omega
    rcases h0 with rfl | rfl
    · have := h1.set0 c
      show Nd _ _ _ (upd f d p 0 c d p 0) (upd f d p 0 c d p 1) _
      rw [upd_same, upd_other _ _ _ _ _ (by omega)]
      exact this
    · have := h1.set1 c
      show Nd _ _ _ (upd f d p 1 c d p 0) (upd f d p 1 c d p 1) _
      rw [upd_same, upd_other _ _ _ _ _ (by omega)]
      exact this
  · have h2 : Nd (w.setCell ⟨b, s + 1, none⟩ (op c)) b' ((S.w f).entv d' p') (f d' p' 0) (f d' p' 1) ((S.w f).par d' p') := h1.keep ((Only.refl (fun k => k = b) w).setCell ⟨b, s + 1, none⟩ _ (fun _ => rfl)) e
    have hne : ∀ t, ¬ (d' = d ∧ p' = p ∧ t = s) := fun t ⟨e1, e2, _⟩ => by
      subst e1; subst e2
      have e3 : S.lk d' p' = some b' := hb'
      rw [hb] at e3
      cases e3
      exact e rfl
    show Nd _ _ _ (upd f d p s c d' p' 0) (upd f d p s c d' p' 1) _
    rw [upd_other _ _ _ _ _ (hne 0), upd_other _ _ _ _ _ (hne 1)]
    exact h2
/-- no inner node: nil, or a leaf -/
def NotIn (S : Sh) (c : Option Nat) : Prop := c = none ∨ ∃ k, S.K k ∧ c = S.lk S.m k
/-- nil, or a node -/
def ChOk (S : Sh) (c : Option Nat) : Prop := NotIn S c ∨ ∃ d p, d < S.m ∧ c = S.lk d p ∧ c ≠ none
/-- inner nodes -/
def Inn (S : Sh) (k : Nat) : Prop := ∃ d p, d < S.m ∧ S.lk d p = some k
/-- said of a walk up from the leaf of a key: the leaf bx is now a thread on side s -/
def UpP (S : Sh) (s ks : Nat) (rt : Option Nat) (bx : Nat) (w : World) (e : Ending) (w' : World) : Prop :=
  e = .returned (.tuple #[]) ∧ ∃ f, Mem w' (S.w f) ∧ Only (Inn S) w w' ∧ (∀ d p t, f d p t = S.ch d p t ∨ (t = s ∧ d < S.m ∧ p = pre S.m d ks ∧ f d p t = some bx ∧ NotIn S (S.ch d p t))) ∧
    ∀ d, d < S.m → (∀ d', d ≤ d' → d' < S.m → S.lk d' (pre S.m d' ks) ≠ rt) → S.ch d (pre S.m d ks) s = none → f d (pre S.m d ks) s = some bx
/-- in the course of it: j levels are left -/
structure UpI (S : Sh) (s ks : Nat) (rt : Option Nat) (bx : Nat) (w wr : World) (j : Nat) (f : Cf) : Prop where
  mem : Mem wr (S.w f)
  only : Only (Inn S) w wr
  ch : ∀ d p t, f d p t = S.ch d p t ∨ (t = s ∧ d < S.m ∧ p = pre S.m d ks ∧ f d p t = some bx ∧ NotIn S (S.ch d p t))
  low : ∀ d p, d < j → f d p s = S.ch d p s
  done : ∀ d, j ≤ d → d < S.m → S.ch d (pre S.m d ks) s = none → f d (pre S.m d ks) s = some bx
  ne : ∀ d, j ≤ d → d < S.m → S.lk d (pre S.m d ks) ≠ rt
/-- a level on, nothing set -/
theorem UpI.skip {S : Sh} {s ks bx j : Nat} {rt : Option Nat} {w wr : World} {f : Cf} (h : UpI S s ks rt bx w wr (j + 1) f) (h1 : S.lk j (pre S.m j ks) ≠ rt) (h2 : S.ch j (pre S.m j ks) s ≠ none) : UpI S s ks rt bx w wr j f :=
  ⟨h.mem, h.only, h.ch, fun d p hd => h.low d p (by omega), fun d hd hm hn => by
    rcases Nat.eq_or_lt_of_le hd with e | hlt
    · subst e; exact absurd hn h2
    · exact h.done d hlt hm hn, fun d hd hm => by
    rcases Nat.eq_or_lt_of_le hd with e | hlt
    · subst e; exact h1
    · exact h.ne d hlt hm⟩
/-- a level on, the child set -/
theorem UpI.set {S : Sh} {s ks bx j b : Nat} {rt : Option Nat} {w wr : World} {f : Cf} (h : UpI S s ks rt bx w wr (j + 1) f) (hi : Inj S) (hs : s < 2) (hj : j < S.m) (hb : S.lk j (pre S.m j ks) = some b) (h1 : S.lk j (pre S.m j ks) ≠ rt) (h2 : NotIn S (S.ch j (pre S.m j ks) s)) : UpI S s ks rt bx w (wr.setCell ⟨b, s + 1, none⟩ (op (some bx))) j (upd f j (pre S.m j ks) s (some bx)) := by
  refine ⟨h.mem.put hi (by omega) hb hs _, h.only.setCell _ _ (fun _ => ⟨j, _, hj, hb⟩), fun d p t => ?_, fun d p hd => ?_, fun d hd hm hn => ?_, fun d hd hm => ?_⟩
  · by_cases e : d = j ∧ p = pre S.m j ks ∧ t = s
    · obtain ⟨rfl, rfl, rfl⟩ := e
      exact .inr ⟨rfl, hj, rfl, upd_same _ _ _ _ _, h2⟩
    · rw [upd_other _ _ _ _ _ e]; exact h.ch d p t
  · rw [upd_other _ _ _ _ _ (by omega)]; exact h.low d p (by omega)
  · rcases Nat.eq_or_lt_of_le hd with e | hlt
    · subst e; exact upd_same _ _ _ _ _
    · rw [upd_other _ _ _ _ _ (by omega)]; exact h.done d hlt hm hn
  · rcases Nat.eq_or_lt_of_le hd with e | hlt
    · subst e; exact h1
    · exact h.ne d hlt hm
/-- the parent of an inner node on the way -/
theorem par_up {S : Sh} {j ks : Nat} (hj : j < S.m) : S.par j (pre S.m j ks) = if j = 0 then none else S.lk (j - 1) (pre S.m (j - 1) ks) := by
  cases j with
  | zero => rfl
  | succ e =>
    show S.lk e (pre S.m (e + 1) ks / 2) = _
    rw [pre_half (by omega)]; rfl
end Go.Proofs.YtkplikpncpcjdaaDoor.xf
