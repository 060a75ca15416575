/-
  Plain law of the forest: what an entry that is put in, cut off, taken out, or hung under another one makes of it.
-/
import Derived.Test.YtpddddjfjmipfaaFhGr
namespace Go.Proofs.Ytpddddjfjmipfaa.fh
open Go.Proofs.Ytpddddjfjmipfaa.flt
set_option linter.unusedVariables false

/-- from an entry upwards a root is reached -/
inductive UpF (pa : Nat → Option Nat) : Nat → Prop
  | root {b : Nat} : pa b = none → UpF pa b
  | step {b p : Nat} : pa b = some p → UpF pa p → UpF pa b
theorem up_none {pa : Nat → Option Nat} {x b : Nat} (h : UpF pa b) : UpF (put pa x none) b := by
  induction h with
  | @root b h =>
    refine .root ?_
    by_cases e : b = x
    · subst e; exact put_same
    · rw [put_other e]; exact h
  | @step b p h _ ih =>
    by_cases e : b = x
    · subst e; exact .root put_same
    · exact .step (by rw [put_other e]; exact h) ih
theorem up_some {pa : Nat → Option Nat} {x a b : Nat} (h : UpF pa b) (ha : pa a = none) (hax : a ≠ x) : UpF (put pa x (some a)) b := by
  have h0 : UpF (put pa x (some a)) a := .root (by rw [put_other hax]; exact ha)
  induction h with
  | @root b h =>
    by_cases e : b = x
    · subst e; exact .step put_same h0
    · exact .root (by rw [put_other e]; exact h)
  | @step b p h _ ih =>
    by_cases e : b = x
    · subst e; exact .step put_same h0
    · exact .step (by rw [put_other e]; exact h) ih
theorem up_congr {pa pa' : Nat → Option Nat} {S : Nat → Prop} {b : Nat} (h : UpF pa b) (hb : S b) (hs : ∀ b, S b → pa' b = none ∨ (pa' b = pa b ∧ ∀ p, pa b = some p → S p)) : UpF pa' b := by
  induction h with
  | @root b h =>
    rcases hs b hb with h1 | h1
    · exact .root h1
    · exact .root (h1.1.trans h)
  | @step b p h _ ih =>
    rcases hs b hb with h1 | h1
    · exact .root h1
    · exact .step (h1.1.trans h) (ih (h1.2 p h))

structure Fo (F : Fs) (G : Gs) (A X : List Nat) : Prop where
  rings : Rings F.nx F.pv G
  tmp : G .tmp = []
  nodup : A.Nodup
  all : ∀ b, b ∈ A ↔ b ∈ G .root ∨ ∃ p, b ∈ G (.kid p)
  kidpa : ∀ p b, b ∈ G (.kid p) → F.pa b = some p
  rootpa : ∀ b, b ∈ G .root → b ∉ X → F.pa b = none
  pend : ∀ x ∈ X, x ∈ G .root
  kids : ∀ p b, b ∈ G (.kid p) → p ∈ A
  ch : ∀ p ∈ A, (F.ch p = none ∧ G (.kid p) = []) ∨ ∃ c, F.ch p = some c ∧ c ∈ G (.kid p)
  deg : ∀ p ∈ A, F.deg p = ((G (.kid p)).length : Int)
  up : ∀ b ∈ A, UpF F.pa b
  fin : ∀ b ∈ A, FinW (F.pr b)
/-- a child comes not ahead of its parent; but for what E says -/
def Ord (F : Fs) (G : Gs) (E : Nat → Prop) : Prop := ∀ p b, b ∈ G (.kid p) → ¬ E b → fval (F.pr p) ≤ fval (F.pr b)
def Least (F : Fs) (G : Gs) (m : Nat) : Prop := m ∈ G .root ∧ ∀ r ∈ G .root, fval (F.pr m) ≤ fval (F.pr r)
section
variable {F : Fs} {G G' : Gs} {A X : List Nat} {b m x p a z : Nat} {k j : Key}
theorem Fo.mem (h : Fo F G A X) (hb : b ∈ G k) : b ∈ A := by
  cases k with
  | root => exact (h.all b).2 (.inl hb)
  | kid p => exact (h.all b).2 (.inr ⟨p, hb⟩)
  | tmp => rw [h.tmp] at hb; cases hb
theorem Fo.least (h : Fo F G A []) (ho : Ord F G (fun _ => False)) (hl : Least F G m) : ∀ b ∈ A, fval (F.pr m) ≤ fval (F.pr b) := by
  intro b hb
  have hu := h.up b hb
  induction hu with
  | @root b hp =>
    rcases (h.all b).1 hb with h1 | ⟨p, h1⟩
    · exact hl.2 b h1
    · have := h.kidpa p b h1
      rw [hp] at this; cases this
  | @step b p hp _ ih =>
    rcases (h.all b).1 hb with h1 | ⟨q, h1⟩
    · have := h.rootpa b h1 (by simp)
      rw [hp] at this; cases this
    · have h2 := h.kidpa q b h1
      rw [hp] at h2
      cases h2
      exact Int.le_trans (ih (h.kids p b h1)) (ho p b h1 (fun f => f))
/-- the same groups, gone through from other entries on -/
theorem Fo.perm (h : Fo F G A X) (hr : Rings F.nx F.pv G') (hp : ∀ k, (G' k).Perm (G k)) : Fo F G' A X := by
  have hm : ∀ k b, b ∈ G' k ↔ b ∈ G k := fun k b => (hp k).mem_iff
  refine ⟨hr, ?_, h.nodup, fun b => ?_, fun p b hb => h.kidpa p b ((hm _ _).1 hb), fun b hb => h.rootpa b ((hm _ _).1 hb), fun x hx => (hm _ _).2 (h.pend x hx), fun p b hb => h.kids p b ((hm _ _).1 hb), fun p hpA => ?_, fun p hpA => ?_, h.up, h.fin⟩
  · have := hp .tmp
    rw [h.tmp] at this
    exact List.Perm.eq_nil this
  · rw [h.all b]
    constructor
    · rintro (h1 | ⟨p, h1⟩)
      · exact .inl ((hm _ _).2 h1)
      · exact .inr ⟨p, (hm _ _).2 h1⟩
    · rintro (h1 | ⟨p, h1⟩)
      · exact .inl ((hm _ _).1 h1)
      · exact .inr ⟨p, (hm _ _).1 h1⟩
  · rcases h.ch p hpA with ⟨h1, h2⟩ | ⟨c, h1, h2⟩
    · refine .inl ⟨h1, ?_⟩
      have := hp (.kid p)
      rw [h2] at this
      exact List.Perm.eq_nil this
    · exact .inr ⟨c, h1, (hm _ _).2 h2⟩
  · rw [h.deg p hpA, (hp (.kid p)).length_eq]
theorem Ord.perm {E : Nat → Prop} (h : Ord F G E) (hp : ∀ k, (G' k).Perm (G k)) : Ord F G' E := fun p b hb => h p b ((hp _).mem_iff.1 hb)
theorem Least.perm (h : Least F G m) (hp : ∀ k, (G' k).Perm (G k)) : Least F G' m := ⟨(hp _).mem_iff.2 h.1, fun r hr => h.2 r ((hp _).mem_iff.1 hr)⟩
/-- a group, from an entry of it on -/
theorem Fo.front (h : Fo F G A X) (hb : b ∈ G k) : ∃ G' l, G' k = b :: l ∧ (∀ i, i ≠ k → G' i = G i) ∧ (∀ i, (G' i).Perm (G i)) ∧ Fo F G' A X := by
  obtain ⟨l, m, hl⟩ := List.append_of_mem hb
  have hp : ∀ i, (gput G k (b :: m ++ l) i).Perm (G i) := fun i => by
    by_cases e : i = k
    · subst e; rw [gput_same, hl]; exact List.perm_append_comm
    · rw [gput_other e]
  exact ⟨gput G k (b :: m ++ l), m ++ l, gput_same, fun i hi => gput_other hi, hp, h.perm (h.rings.rot hl) hp⟩

/-- a new entry -/
def Nw (F : Fs) (b v : Nat) : Fs :=
  { deg := put F.deg b 0, mrk := put F.mrk b false, nx := put F.nx b b, pv := put F.pv b b, ch := put F.ch b none, pa := put F.pa b none, pr := put F.pr b v }
theorem Fo.nin (h : Fo F G A X) (hb : b ∉ A) : ∀ i, b ∉ G i := fun i hi => hb (h.mem hi)
theorem Fo.enq0 (h : Fo F G [] []) {v : Nat} (hv : FinW v) : Fo (Nw F b v) (gput G .root [b]) [b] [] := by
  have hn : ∀ i, ∀ u, u ∉ G i := fun i u hi => by have := h.mem hi; cases this
  have h0 : ∀ i, G i = [] := fun i => List.eq_nil_iff_forall_not_mem.2 (hn i)
  have hk : ∀ p, gput G .root [b] (.kid p) = [] := fun p => by rw [gput_other (by simp)]; exact h0 _
  have hkn : ∀ p u, u ∈ gput G .root [b] (.kid p) → False := fun p u hu => by rw [hk] at hu; cases hu
  refine ⟨h.rings.single (h0 _) (fun i => hn i b), by rw [gput_other (by simp)]; exact h0 _, by simp, fun u => ?_, fun p u hu => (hkn p u hu).elim, fun u hu _ => ?_, fun x hx => absurd hx List.not_mem_nil, fun p u hu => (hkn p u hu).elim, fun p hp => .inl ⟨?_, hk p⟩, fun p hp => ?_, fun u hu => .root ?_, fun u hu => ?_⟩
  · rw [gput_same]
    constructor
    · exact .inl
    · rintro (h1 | ⟨p, h1⟩)
      · exact h1
      · rw [hk] at h1; cases h1
  · rw [gput_same] at hu; simp at hu; subst hu; exact put_same
  · simp at hp; subst hp; exact put_same
  · simp at hp; subst hp; rw [hk]; exact put_same
  · simp at hu; subst hu; exact put_same
  · simp at hu; subst hu; show FinW (put F.pr u v u); rw [put_same]; exact hv
theorem Fo.enq (h : Fo F G A []) (hb : b ∉ A) {v : Nat} (hv : FinW v) (hm : m ∈ G .root) : ∃ G', Fo (Mg (Nw F b v) m b) G' (A ++ [b]) [] ∧ (G' .root).Perm (G .root ++ [b]) ∧ (∀ p, G' (.kid p) = G (.kid p)) := by
  obtain ⟨G1, l, e1, e2, hp, h1⟩ := h.front hm
  have hn := h1.nin hb
  have hr := h1.rings.single (x := b) h1.tmp hn
  have hr2 := hr.merge (k := .root) (j := .tmp) (by simp) (x := m) (l := l) (y := b) (m := []) (by rw [gput_other (by simp)]; exact e1) gput_same
  have hne : ∀ u, u ∈ A → u ≠ b := fun u hu e => hb (e ▸ hu)
  have hmr : ∀ u, u ∈ m :: [] ++ b :: l ↔ u ∈ G1 .root ∨ u = b := fun u => by
    rw [e1]
    simp only [List.mem_append, List.mem_cons, List.not_mem_nil, or_false]
    constructor
    · rintro (h | h | h)
      · exact .inl (.inl h)
      · exact .inr h
      · exact .inl (.inr h)
    · rintro ((h | h) | h)
      · exact .inl h
      · exact .inr (.inr h)
      · exact .inr (.inl h)
  let G2 : Gs := gput (gput (gput G1 .tmp [b]) .tmp []) .root (m :: [] ++ b :: l)
  have gk : ∀ p, G2 (.kid p) = G1 (.kid p) := fun p => by
    show gput _ _ _ _ = _
    rw [gput_other (by simp), gput_other (by simp), gput_other (by simp)]
  have gr : G2 .root = m :: [] ++ b :: l := gput_same
  have gt : G2 .tmp = [] := by
    show gput _ _ _ _ = _
    rw [gput_other (by simp), gput_same]
  refine ⟨G2, ⟨hr2, gt, ?_, fun u => ?_, fun p u hu => ?_, fun u hu _ => ?_, fun x hx => absurd hx List.not_mem_nil, fun p u hu => ?_, fun p hp => ?_, fun p hp => ?_, fun u hu => ?_, fun u hu => ?_⟩, ?_, fun p => ?_⟩
  · rw [List.nodup_append]
    exact ⟨h.nodup, by simp, fun u hu c hc => by simp at hc; subst hc; exact hne u hu⟩
  · rw [gr, hmr, List.mem_append, h1.all u]
    simp only [gk, List.mem_singleton]
    constructor
    · rintro ((h2 | h2) | h2)
      · exact .inl (.inl h2)
      · exact .inr h2
      · exact .inl (.inr h2)
    · rintro ((h2 | h2) | h2)
      · exact .inl (.inl h2)
      · exact .inr h2
      · exact .inl (.inr h2)
  · rw [gk] at hu
    show put F.pa b none u = _
    rw [put_other (hne u (h1.mem hu))]
    exact h1.kidpa p u hu
  · rw [gr, hmr] at hu
    show put F.pa b none u = _
    rcases hu with hu | hu
    · rw [put_other (hne u (h1.mem hu))]; exact h1.rootpa u hu (by simp)
    · subst hu; exact put_same
  · rw [gk] at hu
    exact List.mem_append_left _ (h1.kids p u hu)
  · show (put F.ch b none p = none ∧ _) ∨ ∃ c, put F.ch b none p = some c ∧ _
    rw [gk]
    rcases List.mem_append.1 hp with hp | hp
    · rw [put_other (hne p hp)]; exact h1.ch p hp
    · simp at hp
      subst hp
      refine .inl ⟨put_same, ?_⟩
      exact List.eq_nil_iff_forall_not_mem.2 (fun u hu => hb (h1.kids p u hu))
  · show put F.deg b 0 p = _
    rw [gk]
    rcases List.mem_append.1 hp with hp | hp
    · rw [put_other (hne p hp)]; exact h1.deg p hp
    · simp at hp
      subst hp
      rw [put_same, show G1 (.kid p) = [] from List.eq_nil_iff_forall_not_mem.2 (fun u hu => hb (h1.kids p u hu))]
      rfl
  · rcases List.mem_append.1 hu with hu | hu
    · exact up_none (h1.up u hu)
    · simp at hu; subst hu; exact .root put_same
  · show FinW (put F.pr b v u)
    rcases List.mem_append.1 hu with hu | hu
    · rw [put_other (hne u hu)]; exact h1.fin u hu
    · simp at hu; subst hu; rw [put_same]; exact hv
  · rw [gr]
    have hp1 := hp .root
    rw [e1] at hp1
    refine List.Perm.trans ?_ (hp1.append_right [b])
    show (m :: ([] ++ b :: l)).Perm (m :: (l ++ [b]))
    exact List.Perm.cons _ (List.perm_append_singleton b l).symm
  · rw [gk, e2 _ (by simp)]

/-- an entry that is cut off its parent stands among the roots; its own word for its parent is still to be turned -/
theorem Fo.cutFin (h : Fo F G A X) (hx : x ∈ G (.kid p)) {nx' pv' : Nat → Nat} {mr : Nat → Bool} {ch' : Nat → Option Nat} (hr : Rings nx' pv' G') (ht : G' .tmp = []) (hroot : ∀ b, b ∈ G' .root ↔ b ∈ G .root ∨ b = x)
    (hkp : (x :: G' (.kid p)).Perm (G (.kid p))) (hk : ∀ q, q ≠ p → (G' (.kid q)).Perm (G (.kid q))) (hc : (ch' p = none ∧ G' (.kid p) = []) ∨ ∃ c, ch' p = some c ∧ c ∈ G' (.kid p)) (hc' : ∀ q, q ≠ p → ch' q = F.ch q) :
    Fo { F with mrk := mr, nx := nx', pv := pv', ch := ch', deg := put F.deg p (F.deg p - 1) } G' A (x :: X) := by
  have hpA := h.kids p x hx
  have hkk : ∀ q b, b ∈ G' (.kid q) → b ∈ G (.kid q) := fun q b hb => by
    by_cases e : q = p
    · subst e; exact hkp.mem_iff.1 (by simp [hb])
    · exact (hk q e).mem_iff.1 hb
  refine ⟨hr, ht, h.nodup, fun b => ?_, fun q b hb => h.kidpa q b (hkk q b hb), fun b hb hn => ?_, fun b hb => ?_, fun q b hb => h.kids q b (hkk q b hb), fun q hq => ?_, fun q hq => ?_, h.up, h.fin⟩
  · rw [h.all b, hroot]
    constructor
    · rintro (h1 | ⟨q, h1⟩)
      · exact .inl (.inl h1)
      · by_cases e : q = p
        · subst e
          rcases List.mem_cons.1 (hkp.mem_iff.2 h1) with h2 | h2
          · exact .inl (.inr h2)
          · exact .inr ⟨q, h2⟩
        · exact .inr ⟨q, (hk q e).mem_iff.2 h1⟩
    · rintro ((h1 | rfl) | ⟨q, h1⟩)
      · exact .inl h1
      · exact .inr ⟨p, hx⟩
      · exact .inr ⟨q, hkk q b h1⟩
  · simp only [List.mem_cons, not_or] at hn
    rcases (hroot b).1 hb with h1 | h1
    · exact h.rootpa b h1 hn.2
    · exact absurd h1 hn.1
  · rw [hroot]
    rcases List.mem_cons.1 hb with h1 | h1
    · exact .inr h1
    · exact .inl (h.pend b h1)
  · by_cases e : q = p
    · subst e; exact hc
    · show (ch' q = none ∧ _) ∨ ∃ c, ch' q = some c ∧ _
      rw [hc' q e]
      rcases h.ch q hq with ⟨h1, h2⟩ | ⟨c, h1, h2⟩
      · refine .inl ⟨h1, ?_⟩
        have := hk q e
        rw [h2] at this
        exact List.Perm.eq_nil this
      · exact .inr ⟨c, h1, (hk q e).mem_iff.2 h2⟩
  · show put F.deg p (F.deg p - 1) q = _
    by_cases e : q = p
    · subst e
      rw [put_same, h.deg q hq]
      have := hkp.length_eq
      rw [List.length_cons] at this
      omega
    · rw [put_other e, h.deg q hq, (hk q e).length_eq]
theorem Fo.cut8 (h : Fo F G A (x :: X)) (hn : x ∉ X) : Fo { F with pa := put F.pa x none } G A X := by
  have hx := h.pend x (by simp)
  refine ⟨h.rings, h.tmp, h.nodup, h.all, fun q b hb => ?_, fun b hb hbX => ?_, fun b hb => h.pend b (by simp [hb]), h.kids, h.ch, h.deg, fun b hb => up_none (h.up b hb), h.fin⟩
  · show put F.pa x none b = _
    rw [put_other (fun e => by subst e; have := h.rings.disj _ _ b hx hb; cases this)]
    exact h.kidpa q b hb
  · show put F.pa x none b = _
    by_cases e : b = x
    · subst e; exact put_same
    · rw [put_other e]; exact h.rootpa b hb (by simp [e, hbX])
/-- a root is taken out, its children become roots -/
theorem Fo.deqFin (h : Fo F G A []) (hx : x ∈ G .root) {nx' pv' : Nat → Nat} {pa' : Nat → Option Nat} (hr : Rings nx' pv' G') (ht : G' .tmp = []) (hroot : ∀ b, b ∈ G' .root ↔ (b ∈ G .root ∧ b ≠ x) ∨ b ∈ G (.kid x))
    (hkx : G' (.kid x) = []) (hk : ∀ q, q ≠ x → (G' (.kid q)).Perm (G (.kid q))) (h1 : ∀ b, b ∈ G (.kid x) → pa' b = none) (h2 : ∀ b, b ∉ G (.kid x) → pa' b = F.pa b) :
    Fo { F with nx := nx', pv := pv', pa := pa' } G' (A.erase x) [] := by
  have hxA := h.mem hx
  have hmem : ∀ b, b ∈ A.erase x ↔ b ≠ x ∧ b ∈ A := fun b => h.nodup.mem_erase_iff
  have hkk : ∀ q b, b ∈ G' (.kid q) → q ≠ x ∧ b ∈ G (.kid q) := fun q b hb => by
    by_cases e : q = x
    · subst e; rw [hkx] at hb; cases hb
    · exact ⟨e, (hk q e).mem_iff.1 hb⟩
  have hxk : ∀ q, x ∉ G (.kid q) := fun q hq => by have := h.rings.disj _ _ x hx hq; cases this
  refine ⟨hr, ht, h.nodup.erase x, fun b => ?_, fun q b hb => ?_, fun b hb _ => ?_, fun b hb => absurd hb List.not_mem_nil, fun q b hb => ?_, fun q hq => ?_, fun q hq => ?_, fun b hb => ?_, fun b hb => h.fin b (List.mem_of_mem_erase hb)⟩
  · rw [hmem, h.all b, hroot]
    constructor
    · rintro ⟨hne, h3 | ⟨q, h3⟩⟩
      · exact .inl (.inl ⟨h3, hne⟩)
      · by_cases e : q = x
        · subst e; exact .inl (.inr h3)
        · exact .inr ⟨q, (hk q e).mem_iff.2 h3⟩
    · rintro ((⟨h3, hne⟩ | h3) | ⟨q, h3⟩)
      · exact ⟨hne, .inl h3⟩
      · exact ⟨fun e => hxk x (e ▸ h3), .inr ⟨x, h3⟩⟩
      · exact ⟨fun e => hxk q (e ▸ (hkk q b h3).2), .inr ⟨q, (hkk q b h3).2⟩⟩
  · have h3 := hkk q b hb
    show pa' b = _
    rw [h2 b (fun h4 => by have := h.rings.disj _ _ b h3.2 h4; cases this; exact h3.1 rfl)]
    exact h.kidpa q b h3.2
  · show pa' b = _
    by_cases hc : b ∈ G (.kid x)
    · exact h1 b hc
    · rw [h2 b hc]
      rcases (hroot b).1 hb with h3 | h3
      · exact h.rootpa b h3.1 List.not_mem_nil
      · exact absurd h3 hc
  · have h3 := hkk q b hb
    exact (hmem q).2 ⟨h3.1, h.kids q b h3.2⟩
  · have h3 := (hmem q).1 hq
    show (F.ch q = none ∧ _) ∨ ∃ c, F.ch q = some c ∧ _
    rcases h.ch q h3.2 with ⟨h4, h5⟩ | ⟨c, h4, h5⟩
    · refine .inl ⟨h4, ?_⟩
      have := hk q h3.1
      rw [h5] at this
      exact List.Perm.eq_nil this
    · exact .inr ⟨c, h4, (hk q h3.1).mem_iff.2 h5⟩
  · have h3 := (hmem q).1 hq
    show F.deg q = _
    rw [h.deg q h3.2, (hk q h3.1).length_eq]
  · have h3 := (hmem b).1 hb
    refine up_congr (S := fun b => b ≠ x ∧ b ∈ A) (h.up b h3.2) h3 (fun u hu => ?_)
    by_cases hc : u ∈ G (.kid x)
    · exact .inl (h1 u hc)
    · refine .inr ⟨h2 u hc, fun p hp => ?_⟩
      rcases (h.all u).1 hu.2 with h4 | ⟨q, h4⟩
      · have := h.rootpa u h4 List.not_mem_nil
        rw [hp] at this; cases this
      · have h5 := h.kidpa q u h4
        rw [hp] at h5
        cases h5
        exact ⟨fun e => hc (e ▸ h4), h.kids p u h4⟩
/-- a root is hung under another one -/
theorem Fo.linkFin (h : Fo F G A []) (ha : a ∈ G .root) (hz : z ∈ G .root) (haz : a ≠ z) {nx' pv' : Nat → Nat} {mr : Nat → Bool} {c : Nat} (hr : Rings nx' pv' G') (ht : G' .tmp = []) (hroot : ∀ b, b ∈ G' .root ↔ b ∈ G .root ∧ b ≠ z)
    (hka : (G' (.kid a)).Perm (z :: G (.kid a))) (hk : ∀ q, q ≠ a → (G' (.kid q)).Perm (G (.kid q))) (hc : c ∈ G' (.kid a)) :
    Fo { F with mrk := mr, nx := nx', pv := pv', pa := put F.pa z (some a), ch := put F.ch a (some c), deg := put F.deg a (F.deg a + 1) } G' A [] := by
  have haA := h.mem ha
  have hzk : ∀ q, z ∉ G (.kid q) := fun q hq => by have := h.rings.disj _ _ z hz hq; cases this
  have hpa := h.rootpa a ha List.not_mem_nil
  refine ⟨hr, ht, h.nodup, fun b => ?_, fun q b hb => ?_, fun b hb _ => ?_, fun b hb => absurd hb List.not_mem_nil, fun q b hb => ?_, fun q hq => ?_, fun q hq => ?_, fun b hb => up_some (h.up b hb) hpa haz, h.fin⟩
  · rw [h.all b, hroot]
    constructor
    · rintro (h3 | ⟨q, h3⟩)
      · by_cases e : b = z
        · subst e; exact .inr ⟨a, hka.mem_iff.2 (by simp)⟩
        · exact .inl ⟨h3, e⟩
      · by_cases e : q = a
        · subst e; exact .inr ⟨q, hka.mem_iff.2 (by simp [h3])⟩
        · exact .inr ⟨q, (hk q e).mem_iff.2 h3⟩
    · rintro (h3 | ⟨q, h3⟩)
      · exact .inl h3.1
      · by_cases e : q = a
        · subst e
          rcases List.mem_cons.1 (hka.mem_iff.1 h3) with rfl | h4
          · exact .inl hz
          · exact .inr ⟨q, h4⟩
        · exact .inr ⟨q, (hk q e).mem_iff.1 h3⟩
  · show put F.pa z (some a) b = _
    by_cases e : q = a
    · subst e
      rcases List.mem_cons.1 (hka.mem_iff.1 hb) with rfl | h4
      · exact put_same
      · rw [put_other (fun (e : b = z) => hzk q (e ▸ h4))]; exact h.kidpa q b h4
    · have h4 := (hk q e).mem_iff.1 hb
      rw [put_other (fun (e : b = z) => hzk q (e ▸ h4))]; exact h.kidpa q b h4
  · have h3 := (hroot b).1 hb
    show put F.pa z (some a) b = _
    rw [put_other h3.2]; exact h.rootpa b h3.1 List.not_mem_nil
  · by_cases e : q = a
    · subst e; exact haA
    · exact h.kids q b ((hk q e).mem_iff.1 hb)
  · show (put F.ch a (some c) q = none ∧ _) ∨ ∃ d, put F.ch a (some c) q = some d ∧ _
    by_cases e : q = a
    · subst e; exact .inr ⟨c, put_same, hc⟩
    · rw [put_other e]
      rcases h.ch q hq with ⟨h4, h5⟩ | ⟨d, h4, h5⟩
      · refine .inl ⟨h4, ?_⟩
        have := hk q e
        rw [h5] at this
        exact List.Perm.eq_nil this
      · exact .inr ⟨d, h4, (hk q e).mem_iff.2 h5⟩
  · show put F.deg a (F.deg a + 1) q = _
    by_cases e : q = a
    · subst e
      rw [put_same, h.deg q hq, hka.length_eq, List.length_cons]
      omega
    · rw [put_other e, h.deg q hq, (hk q e).length_eq]

/-- the first of a group is taken out, also where it is alone -/
theorem Rings.out' {nx pv : Nat → Nat} {l : List Nat} (h : Rings nx pv G) (hk : G k = x :: l) : Rings (put nx (pv x) (nx x)) (put pv (nx x) (pv x)) (gput G k l) := by
  by_cases hl : l = []
  · subst hl
    have hr := h.ring k
    rw [hk] at hr
    have e1 : nx x = x := hr.1
    have e2 : pv x = x := hr.2
    refine (h.drop k).congr (fun i u hu => ?_) (fun i u hu => ?_)
    · rcases gput_mem hu with ⟨_, h1⟩ | ⟨hi, h1⟩
      · cases h1
      · rw [e1, e2]; exact put_other (fun e => hi (h.disj i k u h1 (by rw [hk, e]; simp)))
    · rcases gput_mem hu with ⟨_, h1⟩ | ⟨hi, h1⟩
      · cases h1
      · rw [e1, e2]; exact put_other (fun e => hi (h.disj i k u h1 (by rw [hk, e]; simp)))
  · exact h.out hk hl
theorem Rings.out_nin {nx pv : Nat → Nat} {l : List Nat} (h : Rings nx pv G) (hk : G k = x :: l) : ∀ i, x ∉ gput G k l i := fun i hi => by
  rcases gput_mem hi with ⟨rfl, h1⟩ | ⟨hne, h1⟩
  · have := h.nodup i
    rw [hk] at this
    exact (List.nodup_cons.1 this).1 h1
  · exact hne (h.disj i k x h1 (by rw [hk]; simp))

/-- the children's head of p, when x is cut off -/
def chCut (F : Fs) (x p : Nat) : Nat → Option Nat := if F.ch p = some x then put F.ch p (if F.nx x = x then none else some (F.nx x)) else F.ch
def CtF (F : Fs) (x p : Nat) : Fs :=
  { F with mrk := put F.mrk x false, nx := put (put F.nx (F.pv x) (F.nx x)) x x, pv := put (put F.pv (F.nx x) (F.pv x)) x x, ch := chCut F x p, deg := put F.deg p (F.deg p - 1) }
theorem Fo.cut (h : Fo F G A X) (hx : x ∈ G (.kid p)) (hm : m ∈ G .root) :
    ∃ G', Fo (Mg (CtF F x p) m x) G' A (x :: X) ∧ (∀ b, b ∈ G' .root ↔ b ∈ G .root ∨ b = x) ∧ (∀ q b, b ∈ G' (.kid q) → b ∈ G (.kid q)) := by
  obtain ⟨Ga, r, ea, oa, pa, ha⟩ := h.front hm
  have hxa : x ∈ Ga (.kid p) := (pa _).mem_iff.2 hx
  obtain ⟨Gb, l, eb, ob, pb, hb⟩ := ha.front hxa
  have er : Gb .root = m :: r := by rw [ob _ (by simp), ea]
  have r1 := hb.rings.out' eb
  have n1 := hb.rings.out_nin eb
  have t1 : gput Gb (.kid p) l .tmp = [] := by rw [gput_other (by simp)]; exact hb.tmp
  have r2 := r1.single t1 n1
  have r3 := r2.merge (k := .root) (j := .tmp) (by simp) (x := m) (l := r) (y := x) (m := []) (by rw [gput_other (by simp), gput_other (by simp)]; exact er) gput_same
  let G2 : Gs := gput (gput (gput (gput Gb (.kid p) l) .tmp [x]) .tmp []) .root (m :: [] ++ x :: r)
  have gk : ∀ q, q ≠ p → G2 (.kid q) = Gb (.kid q) := fun q hq => by
    show gput _ _ _ _ = _
    rw [gput_other (by simp), gput_other (by simp), gput_other (by simp), gput_other (by simpa using hq)]
  have gp : G2 (.kid p) = l := by
    show gput _ _ _ _ = _
    rw [gput_other (by simp), gput_other (by simp), gput_other (by simp), gput_same]
  have gr : G2 .root = m :: [] ++ x :: r := gput_same
  have gt : G2 .tmp = [] := by
    show gput _ _ _ _ = _
    rw [gput_other (by simp), gput_same]
  have hroot : ∀ b, b ∈ G2 .root ↔ b ∈ G .root ∨ b = x := fun b => by
    rw [gr, ← (pa .root).mem_iff, ea]
    simp only [List.mem_append, List.mem_cons, List.not_mem_nil, or_false]
    constructor
    · rintro (h1 | h1 | h1)
      · exact .inl (.inl h1)
      · exact .inr h1
      · exact .inl (.inr h1)
    · rintro ((h1 | h1) | h1)
      · exact .inl h1
      · exact .inr (.inr h1)
      · exact .inr (.inl h1)
  have hkp : (x :: G2 (.kid p)).Perm (G (.kid p)) := by rw [gp, ← eb]; exact (pb _).trans (pa _)
  have hk : ∀ q, q ≠ p → (G2 (.kid q)).Perm (G (.kid q)) := fun q hq => by rw [gk q hq]; exact (pb _).trans (pa _)
  have hpA := h.kids p x hx
  have hring := hb.rings.ring (.kid p)
  have hnd := hb.rings.nodup (.kid p)
  rw [eb] at hring hnd
  have hc : (chCut F x p p = none ∧ G2 (.kid p) = []) ∨ ∃ c, chCut F x p p = some c ∧ c ∈ G2 (.kid p) := by
    unfold chCut
    by_cases e : F.ch p = some x
    · rw [if_pos e, put_same]
      by_cases e2 : F.nx x = x
      · rw [if_pos e2]
        exact .inl ⟨rfl, by rw [gp]; exact (ring_alone hring hnd).1 e2⟩
      · rw [if_neg e2]
        refine .inr ⟨_, rfl, ?_⟩
        rw [gp]
        rcases List.mem_cons.1 (ring_nx_mem hring x (by simp)) with h1 | h1
        · exact absurd h1 e2
        · exact h1
    · rw [if_neg e]
      rcases h.ch p hpA with ⟨h1, h2⟩ | ⟨c, h1, h2⟩
      · rw [h2] at hx; cases hx
      · refine .inr ⟨c, h1, ?_⟩
        rcases List.mem_cons.1 (hkp.mem_iff.2 h2) with h3 | h3
        · subst h3; exact absurd h1 e
        · exact h3
  have hc' : ∀ q, q ≠ p → chCut F x p q = F.ch q := fun q hq => by
    unfold chCut
    split
    · exact put_other hq
    · rfl
  refine ⟨G2, ?_, hroot, fun q b hb => ?_⟩
  · exact h.cutFin hx r3 gt hroot hkp hk hc hc'
  · by_cases e : q = p
    · subst e; exact hkp.mem_iff.1 (by simp [hb])
    · exact (hk q e).mem_iff.1 hb

/-- a root x is taken out: the links -/
def OutF (F : Fs) (x : Nat) : Fs := { F with nx := put F.nx (F.pv x) (F.nx x), pv := put F.pv (F.nx x) (F.pv x) }
def paOut (F : Fs) (C : List Nat) : Nat → Option Nat := fun b => if b ∈ C then none else F.pa b
theorem paOut_in {C : List Nat} (h : b ∈ C) : paOut F C b = none := if_pos h
theorem paOut_out {C : List Nat} (h : b ∉ C) : paOut F C b = F.pa b := if_neg h
/-- x had no children, and was not alone -/
theorem Fo.deq1 (h : Fo F G A []) (hx : x ∈ G .root) (hk : G (.kid x) = []) :
    ∃ G', Fo { OutF F x with pa := paOut F (G (.kid x)) } G' (A.erase x) [] ∧ (∀ b, b ∈ G' .root ↔ (b ∈ G .root ∧ b ≠ x) ∨ b ∈ G (.kid x)) ∧ (∀ q b, b ∈ G' (.kid q) → b ∈ G (.kid q)) := by
  obtain ⟨Ga, r, ea, oa, pa, ha⟩ := h.front hx
  have r1 := ha.rings.out' ea
  have hnd := ha.rings.nodup .root
  rw [ea] at hnd
  let G2 : Gs := gput Ga .root r
  have gk : ∀ q, G2 (.kid q) = G (.kid q) := fun q => by
    show gput _ _ _ _ = _
    rw [gput_other (by simp), oa _ (by simp)]
  have hroot : ∀ b, b ∈ G2 .root ↔ (b ∈ G .root ∧ b ≠ x) ∨ b ∈ G (.kid x) := fun b => by
    rw [hk, show G2 .root = r from gput_same, ← (pa .root).mem_iff, ea]
    constructor
    · intro h1
      exact .inl ⟨by simp [h1], fun e => (List.nodup_cons.1 hnd).1 (e ▸ h1)⟩
    · rintro (⟨h1, h2⟩ | h1)
      · rcases List.mem_cons.1 h1 with h3 | h3
        · exact absurd h3 h2
        · exact h3
      · cases h1
  refine ⟨G2, h.deqFin hx r1 ?_ hroot ?_ (fun q hq => by rw [gk]) (fun b hb => paOut_in hb) (fun b hb => paOut_out hb), hroot, fun q b hb => by rwa [gk] at hb⟩
  · show gput _ _ _ _ = _
    rw [gput_other (by simp)]; exact ha.tmp
  · rw [gk, hk]
/-- x was alone among the roots -/
theorem Fo.deq2 (h : Fo F G A []) (hx : G .root = [x]) :
    ∃ G', Fo { F with pa := paOut F (G (.kid x)) } G' (A.erase x) [] ∧ (∀ b, b ∈ G' .root ↔ (b ∈ G .root ∧ b ≠ x) ∨ b ∈ G (.kid x)) ∧ (∀ q b, b ∈ G' (.kid q) → b ∈ G (.kid q)) := by
  have hC := h.rings.nodup (.kid x)
  have hrC := h.rings.ring (.kid x)
  have r1 := (h.rings.drop .root).drop (.kid x)
  have r2 := r1.add (k := .root) hC hrC (by rw [gput_other (by simp), gput_same]) (fun b hb i hi => by
    rcases gput_mem hi with ⟨_, h1⟩ | ⟨hne, h1⟩
    · cases h1
    · rcases gput_mem h1 with ⟨_, h2⟩ | ⟨hne2, h2⟩
      · cases h2
      · exact hne (h.rings.disj i _ b h2 hb))
  let G2 : Gs := gput (gput (gput G .root []) (.kid x) []) .root (G (.kid x))
  have hroot : ∀ b, b ∈ G2 .root ↔ (b ∈ G .root ∧ b ≠ x) ∨ b ∈ G (.kid x) := fun b => by
    rw [show G2 .root = G (.kid x) from gput_same, hx]
    constructor
    · exact .inr
    · rintro (⟨h1, h2⟩ | h1)
      · simp at h1; exact absurd h1 h2
      · exact h1
  have gk : ∀ q, q ≠ x → G2 (.kid q) = G (.kid q) := fun q hq => by
    show gput _ _ _ _ = _
    rw [gput_other (by simp), gput_other (by simpa using hq), gput_other (by simp)]
  have gx : G2 (.kid x) = [] := by
    show gput _ _ _ _ = _
    rw [gput_other (by simp), gput_same]
  refine ⟨G2, h.deqFin (by rw [hx]; simp) r2 ?_ hroot gx (fun q hq => by rw [gk q hq]) (fun b hb => paOut_in hb) (fun b hb => paOut_out hb), hroot, fun q b hb => ?_⟩
  · show gput _ _ _ _ = _
    rw [gput_other (by simp), gput_other (by simp), gput_other (by simp)]; exact h.tmp
  · by_cases e : q = x
    · subst e; rw [gx] at hb; cases hb
    · rwa [gk q e] at hb
/-- x was not alone, and had children: u is a root besides, c a child -/
theorem Fo.deq3 (h : Fo F G A []) (hx : x ∈ G .root) {u c : Nat} (hu : u ∈ G .root) (hux : u ≠ x) (hc : c ∈ G (.kid x)) :
    ∃ G', Fo (Mg { OutF F x with pa := paOut F (G (.kid x)) } u c) G' (A.erase x) [] ∧ (∀ b, b ∈ G' .root ↔ (b ∈ G .root ∧ b ≠ x) ∨ b ∈ G (.kid x)) ∧ (∀ q b, b ∈ G' (.kid q) → b ∈ G (.kid q)) := by
  obtain ⟨Ga, r, ea, oa, pa, ha⟩ := h.front hx
  have r1 := ha.rings.out' ea
  have hnd := ha.rings.nodup .root
  rw [ea] at hnd
  have hur : u ∈ r := by
    have := (pa .root).mem_iff.2 hu
    rw [ea] at this
    rcases List.mem_cons.1 this with h1 | h1
    · exact absurd h1 hux
    · exact h1
  obtain ⟨r1', r2', hr12⟩ := List.append_of_mem hur
  obtain ⟨c1, c2, hc12⟩ := List.append_of_mem hc
  have s1 := r1.rot (k := .root) (l := r1') (c := u) (m := r2') (by rw [gput_same, hr12])
  have s2 := s1.rot (k := .kid x) (l := c1) (c := c) (m := c2) (by rw [gput_other (by simp), gput_other (by simp), oa _ (by simp), hc12])
  have s3 := s2.merge (k := .root) (j := .kid x) (by simp) (x := u) (l := r2' ++ r1') (y := c) (m := c2 ++ c1) (by rw [gput_other (by simp), gput_same]; rfl) (by rw [gput_same]; rfl)
  let G0 : Gs := gput (gput (gput Ga .root r) .root (u :: r2' ++ r1')) (.kid x) (c :: c2 ++ c1)
  let G2 : Gs := gput (gput G0 (.kid x) []) .root (u :: (c2 ++ c1) ++ c :: (r2' ++ r1'))
  have gr : G2 .root = u :: (c2 ++ c1) ++ c :: (r2' ++ r1') := gput_same
  have gk : ∀ q, q ≠ x → G2 (.kid q) = G (.kid q) := fun q hq => by
    show gput _ _ _ _ = _
    rw [gput_other (by simp), gput_other (by simpa using hq)]
    show gput _ _ _ _ = _
    rw [gput_other (by simpa using hq), gput_other (by simp), gput_other (by simp), oa _ (by simp)]
  have gx : G2 (.kid x) = [] := by
    show gput _ _ _ _ = _
    rw [gput_other (by simp), gput_same]
  have gt : G2 .tmp = [] := by
    show gput _ _ _ _ = _
    rw [gput_other (by simp), gput_other (by simp)]
    show gput _ _ _ _ = _
    rw [gput_other (by simp), gput_other (by simp), gput_other (by simp)]
    exact ha.tmp
  have hroot : ∀ b, b ∈ G2 .root ↔ (b ∈ G .root ∧ b ≠ x) ∨ b ∈ G (.kid x) := fun b => by
    have e1 : b ∈ G2 .root ↔ b ∈ r ∨ b ∈ G (.kid x) := by
      rw [gr, hr12, hc12]
      simp only [List.mem_append, List.mem_cons]
      constructor
      · rintro ((h1 | h1 | h1) | h1 | h1 | h1)
        · exact .inl (.inr (.inl h1))
        · exact .inr (.inr (.inr h1))
        · exact .inr (.inl h1)
        · exact .inr (.inr (.inl h1))
        · exact .inl (.inr (.inr h1))
        · exact .inl (.inl h1)
      · rintro ((h1 | h1 | h1) | h1 | h1 | h1)
        · exact .inr (.inr (.inr h1))
        · exact .inl (.inl h1)
        · exact .inr (.inr (.inl h1))
        · exact .inl (.inr (.inr h1))
        · exact .inr (.inl h1)
        · exact .inl (.inr (.inl h1))
    rw [e1, ← (pa .root).mem_iff (a := b), ea]
    constructor
    · rintro (h1 | h1)
      · exact .inl ⟨by simp [h1], fun e => (List.nodup_cons.1 hnd).1 (e ▸ h1)⟩
      · exact .inr h1
    · rintro (⟨h1, h2⟩ | h1)
      · rcases List.mem_cons.1 h1 with h3 | h3
        · exact absurd h3 h2
        · exact .inl h3
      · exact .inr h1
  refine ⟨G2, h.deqFin hx s3 gt hroot gx (fun q hq => by rw [gk q hq]) (fun b hb => paOut_in hb) (fun b hb => paOut_out hb), hroot, fun q b hb => ?_⟩
  by_cases e : q = x
  · subst e; rw [gx] at hb; cases hb
  · rwa [gk q e] at hb

/-- z is hung under a -/
def Lk1 (F : Fs) (z : Nat) : Fs := { F with nx := put (put F.nx (F.pv z) (F.nx z)) z z, pv := put (put F.pv (F.nx z) (F.pv z)) z z }
def Lk2 (F : Fs) (a z c : Nat) : Fs := { F with mrk := put F.mrk z false, pa := put F.pa z (some a), ch := put F.ch a (some c), deg := put F.deg a (F.deg a + 1) }
theorem Fo.link (h : Fo F G A []) (ha : a ∈ G .root) (hz : z ∈ G .root) (haz : a ≠ z) :
    ∃ G', (match F.ch a with
      | none => Fo (Lk2 (Lk1 F z) a z z) G' A []
      | some c => ∀ d, d = c ∨ d = z → Fo (Lk2 (Mg (Lk1 F z) c z) a z d) G' A []) ∧ (∀ b, b ∈ G' .root ↔ b ∈ G .root ∧ b ≠ z) ∧ (∀ q b, b ∈ G' (.kid q) → b ∈ G (.kid q) ∨ (q = a ∧ b = z)) := by
  obtain ⟨Ga, r, ea, oa, pa, hA⟩ := h.front hz
  have r1 := hA.rings.out' ea
  have n1 := hA.rings.out_nin ea
  have hnd := hA.rings.nodup .root
  rw [ea] at hnd
  have t1 : gput Ga .root r .tmp = [] := by rw [gput_other (by simp)]; exact hA.tmp
  have r2 := r1.single t1 n1
  have hroot0 : ∀ b, b ∈ r ↔ b ∈ G .root ∧ b ≠ z := fun b => by
    rw [← (pa .root).mem_iff, ea]
    constructor
    · intro h1; exact ⟨by simp [h1], fun e => (List.nodup_cons.1 hnd).1 (e ▸ h1)⟩
    · rintro ⟨h1, h2⟩
      rcases List.mem_cons.1 h1 with h3 | h3
      · exact absurd h3 h2
      · exact h3
  have haA := h.mem ha
  rcases h.ch a haA with ⟨hc, hk⟩ | ⟨c, hc, hk⟩
  · have r3 := (r2.drop .tmp).add (k := .kid a) (L := [z]) (by simp) (ring_single put_same put_same) (by rw [gput_other (by simp), gput_other (by simp), gput_other (by simp), oa _ (by simp)]; exact hk) (fun b hb i hi => by
      simp at hb; subst hb
      rcases gput_mem hi with ⟨_, h1⟩ | ⟨hne, h1⟩
      · cases h1
      · rw [gput_other hne] at h1; exact n1 i h1)
    let G2 : Gs := gput (gput (gput (gput Ga .root r) .tmp [z]) .tmp []) (.kid a) [z]
    have gr : G2 .root = r := by
      show gput _ _ _ _ = _
      rw [gput_other (by simp), gput_other (by simp), gput_other (by simp), gput_same]
    have gt : G2 .tmp = [] := by
      show gput _ _ _ _ = _
      rw [gput_other (by simp), gput_same]
    have ga : G2 (.kid a) = [z] := gput_same
    have gk : ∀ q, q ≠ a → G2 (.kid q) = G (.kid q) := fun q hq => by
      show gput _ _ _ _ = _
      rw [gput_other (by simpa using hq), gput_other (by simp), gput_other (by simp), gput_other (by simp), oa _ (by simp)]
    have hroot : ∀ b, b ∈ G2 .root ↔ b ∈ G .root ∧ b ≠ z := fun b => by rw [gr]; exact hroot0 b
    refine ⟨G2, ?_, hroot, fun q b hb => ?_⟩
    · rw [hc]
      exact h.linkFin ha hz haz r3 gt hroot (by rw [ga, hk]) (fun q hq => by rw [gk q hq]) (c := z) (by rw [ga]; simp)
    · by_cases e : q = a
      · subst e; rw [ga] at hb; simp at hb; exact .inr ⟨rfl, hb⟩
      · rw [gk q e] at hb; exact .inl hb
  · obtain ⟨c1, c2, hc12⟩ := List.append_of_mem hk
    have s2 := r2.rot (k := .kid a) (l := c1) (c := c) (m := c2) (by rw [gput_other (by simp), gput_other (by simp), oa _ (by simp), hc12])
    have s3 := s2.merge (k := .kid a) (j := .tmp) (by simp) (x := c) (l := c2 ++ c1) (y := z) (m := []) (by rw [gput_same]; rfl) (by rw [gput_other (by simp), gput_same])
    let G0 : Gs := gput (gput (gput Ga .root r) .tmp [z]) (.kid a) (c :: c2 ++ c1)
    let G2 : Gs := gput (gput G0 .tmp []) (.kid a) (c :: [] ++ z :: (c2 ++ c1))
    have gr : G2 .root = r := by
      show gput _ _ _ _ = _
      rw [gput_other (by simp), gput_other (by simp)]
      show gput _ _ _ _ = _
      rw [gput_other (by simp), gput_other (by simp), gput_same]
    have gt : G2 .tmp = [] := by
      show gput _ _ _ _ = _
      rw [gput_other (by simp), gput_same]
    have ga : G2 (.kid a) = c :: [] ++ z :: (c2 ++ c1) := gput_same
    have gk : ∀ q, q ≠ a → G2 (.kid q) = G (.kid q) := fun q hq => by
      show gput _ _ _ _ = _
      rw [gput_other (by simpa using hq), gput_other (by simp)]
      show gput _ _ _ _ = _
      rw [gput_other (by simpa using hq), gput_other (by simp), gput_other (by simp), oa _ (by simp)]
    have hroot : ∀ b, b ∈ G2 .root ↔ b ∈ G .root ∧ b ≠ z := fun b => by rw [gr]; exact hroot0 b
    have hpa : (G2 (.kid a)).Perm (z :: G (.kid a)) := by
      rw [ga, hc12]
      refine (List.Perm.swap z c _).trans (List.Perm.cons z ?_)
      exact (List.Perm.cons c List.perm_append_comm).trans List.perm_middle.symm
    refine ⟨G2, ?_, hroot, fun q b hb => ?_⟩
    · rw [hc]
      intro d hd
      refine h.linkFin ha hz haz s3 gt hroot hpa (fun q hq => by rw [gk q hq]) (c := d) ?_
      rw [ga]
      rcases hd with rfl | rfl <;> simp
    · by_cases e : q = a
      · subst e
        rcases List.mem_cons.1 (hpa.mem_iff.1 hb) with h1 | h1
        · exact .inr ⟨rfl, h1⟩
        · exact .inl h1
      · rw [gk q e] at hb; exact .inl hb
end
end Go.Proofs.Ytpddddjfjmipfaa.fh
