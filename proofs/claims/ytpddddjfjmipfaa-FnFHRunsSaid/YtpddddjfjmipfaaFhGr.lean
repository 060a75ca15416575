/-
  Plain law of the groups of a forest: the roots, the children of each entry; each group is a ring.
-/
import Derived.Test.YtpddddjfjmipfaaFhMem
namespace Go.Proofs.Ytpddddjfjmipfaa.fh
open Go.Proofs.Ytpddddjfjmipfaa.flt
set_option linter.unusedVariables false

inductive Key where
  | root
  | kid (p : Nat)
  | tmp
  deriving DecidableEq
abbrev Gs := Key → List Nat
def gput (G : Gs) (k : Key) (L : List Nat) : Gs := fun j => if j = k then L else G j
section
variable {G : Gs} {k j : Key} {L : List Nat}
theorem gput_same : gput G k L k = L := if_pos rfl
theorem gput_other (h : j ≠ k) : gput G k L j = G j := if_neg h
end
structure Rings (nx pv : Nat → Nat) (G : Gs) : Prop where
  nodup : ∀ k, (G k).Nodup
  disj : ∀ k j b, b ∈ G k → b ∈ G j → k = j
  ring : ∀ k, Ring nx pv (G k)
section
variable {nx pv nx' pv' : Nat → Nat} {G G' : Gs} {k j : Key} {x y b c : Nat} {l m : List Nat}
/-- a group may be gone through from any of its entries on -/
theorem Rings.rot (h : Rings nx pv G) (hk : G k = l ++ c :: m) : Rings nx pv (gput G k (c :: m ++ l)) := by
  have hp : (c :: m ++ l).Perm (l ++ c :: m) := List.perm_append_comm
  have hm : ∀ i b, b ∈ gput G k (c :: m ++ l) i → b ∈ G i := fun i b hb => by
    by_cases e : i = k
    · subst e
      rw [gput_same] at hb
      rw [hk]; exact hp.mem_iff.1 hb
    · rwa [gput_other e] at hb
  refine ⟨fun i => ?_, fun i j b h1 h2 => h.disj i j b (hm i b h1) (hm j b h2), fun i => ?_⟩
  · by_cases e : i = k
    · subst e
      rw [gput_same, hp.nodup_iff, ← hk]; exact h.nodup i
    · rw [gput_other e]; exact h.nodup i
  · by_cases e : i = k
    · subst e
      rw [gput_same]
      have := h.ring i
      rw [hk] at this
      exact ring_rot this
    · rw [gput_other e]; exact h.ring i
/-- two groups become one -/
theorem Rings.merge (h : Rings nx pv G) (hkj : k ≠ j) (hk : G k = x :: l) (hj : G j = y :: m) :
    Rings (put (put nx x (nx y)) y (nx x)) (put (put pv (nx y) x) (nx x) y) (gput (gput G j []) k (x :: m ++ y :: l)) := by
  have hd : ∀ b, b ∈ x :: l → b ∉ y :: m := fun b h1 h2 => hkj (h.disj k j b (by rw [hk]; exact h1) (by rw [hj]; exact h2))
  have hnk := h.nodup k
  have hnj := h.nodup j
  rw [hk] at hnk
  rw [hj] at hnj
  have hn : (x :: l ++ y :: m).Nodup := List.nodup_append.2 ⟨hnk, hnj, fun a ha b hb e => hd a ha (e ▸ hb)⟩
  have hrk := h.ring k
  have hrj := h.ring j
  rw [hk] at hrk
  rw [hj] at hrj
  have hxy : x ≠ y := fun e => hd x (by simp) (by simp [e])
  have n1 := ring_nx_mem hrk x (by simp)
  have n2 := ring_nx_mem hrj y (by simp)
  have hnn : nx x ≠ nx y := fun e => hd _ n1 (e ▸ n2)
  have hp : (x :: m ++ y :: l).Perm (x :: l ++ y :: m) := by
    refine List.Perm.cons _ ?_
    exact (List.perm_middle.trans (List.Perm.cons _ List.perm_append_comm)).trans List.perm_middle.symm
  have hm : ∀ i b, b ∈ gput (gput G j []) k (x :: m ++ y :: l) i → b ∈ G i ∨ (i = k ∧ b ∈ G j) := fun i b hb => by
    by_cases e : i = k
    · subst e
      rw [gput_same] at hb
      rcases List.mem_append.1 (hp.mem_iff.1 hb) with h1 | h1
      · exact .inl (by rw [hk]; exact h1)
      · exact .inr ⟨rfl, by rw [hj]; exact h1⟩
    · rw [gput_other e] at hb
      by_cases e2 : i = j
      · subst e2
        rw [gput_same] at hb
        cases hb
      · rw [gput_other e2] at hb
        exact .inl hb
  refine ⟨fun i => ?_, fun i i' b h1 h2 => ?_, fun i => ?_⟩
  · by_cases e : i = k
    · subst e
      rw [gput_same, hp.nodup_iff]; exact hn
    · rw [gput_other e]
      by_cases e2 : i = j
      · subst e2; rw [gput_same]; exact List.nodup_nil
      · rw [gput_other e2]; exact h.nodup i
  · have hj0 : ∀ i, b ∈ gput (gput G j []) k (x :: m ++ y :: l) i → i ≠ j := fun i hi e => by
      subst e
      rw [gput_other (fun e => hkj e.symm), gput_same] at hi
      cases hi
    rcases hm i b h1 with a1 | ⟨a1, b1⟩ <;> rcases hm i' b h2 with a2 | ⟨a2, b2⟩
    · exact h.disj i i' b a1 a2
    · exact absurd (h.disj i j b a1 b2) (hj0 i h1)
    · exact absurd (h.disj i' j b a2 b1) (hj0 i' h2)
    · rw [a1, a2]
  · by_cases e : i = k
    · subst e
      rw [gput_same]
      refine ring_merge hrk hrj hn ?_ ?_ ?_ ?_ ?_ ?_
      · rw [put_other hxy, put_same]
      · rw [put_same]
      · intro u h1 h2; rw [put_other h2, put_other h1]
      · rw [put_other (fun e => hnn e.symm), put_same]
      · rw [put_same]
      · intro v h1 h2; rw [put_other h1, put_other h2]
    · rw [gput_other e]
      by_cases e2 : i = j
      · subst e2; rw [gput_same]; trivial
      · rw [gput_other e2]
        refine ring_congr (h.ring i) (fun u hu => ?_) (fun u hu => ?_)
        · rw [put_other (fun e3 => e2 (h.disj i j u hu (by rw [hj, e3]; simp))), put_other (fun e3 => e (h.disj i k u hu (by rw [hk, e3]; simp)))]
        · rw [put_other (fun e3 => e (h.disj i k u hu (by rw [hk, e3]; exact n1))), put_other (fun e3 => e2 (h.disj i j u hu (by rw [hj, e3]; exact n2)))]
theorem gput_mem {L : List Nat} {i : Key} (h : b ∈ gput G k L i) : (i = k ∧ b ∈ L) ∨ (i ≠ k ∧ b ∈ G i) := by
  by_cases e : i = k
  · subst e; rw [gput_same] at h; exact .inl ⟨rfl, h⟩
  · rw [gput_other e] at h; exact .inr ⟨e, h⟩
/-- the first of a group is taken out -/
theorem Rings.out (h : Rings nx pv G) (hk : G k = x :: l) (hl : l ≠ []) : Rings (put nx (pv x) (nx x)) (put pv (nx x) (pv x)) (gput G k l) := by
  have hnk := h.nodup k
  have hrk := h.ring k
  rw [hk] at hnk hrk
  have n1 := ring_nx_mem hrk x (by simp)
  have p1 := ring_pv_mem hrk x (by simp)
  have hm : ∀ i b, b ∈ gput G k l i → b ∈ G i := fun i b hb => by
    rcases gput_mem hb with ⟨rfl, h1⟩ | ⟨_, h1⟩
    · rw [hk]; simp [h1]
    · exact h1
  refine ⟨fun i => ?_, fun i i' b h1 h2 => h.disj i i' b (hm i b h1) (hm i' b h2), fun i => ?_⟩
  · by_cases e : i = k
    · subst e; rw [gput_same]; exact (List.nodup_cons.1 hnk).2
    · rw [gput_other e]; exact h.nodup i
  · by_cases e : i = k
    · subst e
      rw [gput_same]
      exact ring_out hrk hnk hl put_same put_same (fun u h1 h2 => put_other h2) (fun v h1 h2 => put_other h2)
    · rw [gput_other e]
      refine ring_congr (h.ring i) (fun u hu => ?_) (fun u hu => ?_)
      · rw [put_other (fun e3 => e (h.disj i k u hu (by rw [hk, e3]; exact p1)))]
      · rw [put_other (fun e3 => e (h.disj i k u hu (by rw [hk, e3]; exact n1)))]
/-- a group is emptied, or becomes another one -/
theorem Rings.drop (h : Rings nx pv G) (k : Key) : Rings nx pv (gput G k []) := by
  have hm : ∀ i b, b ∈ gput G k [] i → b ∈ G i := fun i b hb => by
    rcases gput_mem hb with ⟨rfl, h1⟩ | ⟨_, h1⟩
    · cases h1
    · exact h1
  refine ⟨fun i => ?_, fun i i' b h1 h2 => h.disj i i' b (hm i b h1) (hm i' b h2), fun i => ?_⟩
  · by_cases e : i = k
    · subst e; rw [gput_same]; exact List.nodup_nil
    · rw [gput_other e]; exact h.nodup i
  · by_cases e : i = k
    · subst e; rw [gput_same]; trivial
    · rw [gput_other e]; exact h.ring i
theorem Rings.add (h : Rings nx pv G) {L : List Nat} (hL : L.Nodup) (hr : Ring nx pv L) (hk : G k = []) (hn : ∀ b ∈ L, ∀ i, b ∉ G i) : Rings nx pv (gput G k L) := by
  refine ⟨fun i => ?_, fun i i' b h1 h2 => ?_, fun i => ?_⟩
  · by_cases e : i = k
    · subst e; rw [gput_same]; exact hL
    · rw [gput_other e]; exact h.nodup i
  · rcases gput_mem h1 with ⟨rfl, a⟩ | ⟨e1, a⟩ <;> rcases gput_mem h2 with ⟨rfl, b'⟩ | ⟨e2, b'⟩
    · rfl
    · exact absurd b' (hn b a _)
    · exact absurd a (hn b b' _)
    · exact h.disj _ _ b a b'
  · by_cases e : i = k
    · subst e; rw [gput_same]; exact hr
    · rw [gput_other e]; exact h.ring i
/-- fields of entries of no group may change -/
theorem Rings.congr (h : Rings nx pv G) (h1 : ∀ i u, u ∈ G i → nx' u = nx u) (h2 : ∀ i u, u ∈ G i → pv' u = pv u) : Rings nx' pv' G :=
  ⟨h.nodup, h.disj, fun i => ring_congr (h.ring i) (h1 i) (h2 i)⟩
/-- an entry of no group becomes a group of its own -/
theorem Rings.single (h : Rings nx pv G) (hk : G k = []) (hx : ∀ i, x ∉ G i) : Rings (put nx x x) (put pv x x) (gput G k [x]) := by
  have h1 := h.congr (nx' := put nx x x) (pv' := put pv x x) (fun i u hu => put_other (fun e => hx i (e ▸ hu))) (fun i u hu => put_other (fun e => hx i (e ▸ hu)))
  exact h1.add (by simp) (ring_single put_same put_same) hk (fun b hb i => by simp at hb; subst hb; exact hx i)
end
end Go.Proofs.Ytpddddjfjmipfaa.fh
