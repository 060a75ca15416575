/-
  Graphs as lists: the degrees are together twice the edges; who is a neighbour has one; the vertices are ends.
-/
import Derived.Test.YtpccodjmjgfloaaDoorGrPlain
namespace Go.Proofs.YtpccodjmjgfloaaDoor.gr
open Go.Proofs.YtpccodjmjgfloaaDoor.rows
set_option linter.unusedVariables false

def total (S : Sh) : Nat := (S.map (·.2.length)).sum
theorem total_addVs (S : Sh) (v : Int) : total (addVs S v) = total S := by
  unfold addVs
  split
  · rfl
  · simp [total]
theorem total_putS : ∀ (S : Sh) (v x : Int), (S.map (·.1)).Nodup → v ∈ S.map (·.1) → x ∉ nbrs S v → total (putS S v x) = total S + 1
  | [], v, x, _, hv, _ => by simp at hv
  | s :: S, v, x, hn, hv, hx => by
    rw [List.map_cons, List.nodup_cons] at hn
    by_cases h : s.1 = v
    · have hnb : nbrs (s :: S) v = s.2 := by unfold nbrs; rw [List.find?_cons, show (v == s.1) = true by simp [h]]; rfl
      rw [hnb] at hx
      have hrest : putS S v x = S := by
        unfold putS
        conv => rhs; rw [← List.map_id S]
        apply List.map_congr_left
        intro t ht
        have : t.1 ≠ v := fun e => hn.1 (by rw [h, ← e]; exact List.mem_map_of_mem ht)
        rw [if_neg this]; rfl
      have e1 : putS (s :: S) v x = (s.1, s.2 ++ [x]) :: putS S v x := by
        unfold putS
        rw [List.map_cons, if_pos h, if_neg hx]
      rw [e1, hrest]
      simp [total]; omega
    · have hv' : v ∈ S.map (·.1) := by
        rcases List.mem_cons.1 (by simpa using hv : v ∈ s.1 :: S.map (·.1)) with e | e
        · exact absurd e.symm h
        · exact e
      have hnb : nbrs (s :: S) v = nbrs S v := by unfold nbrs; rw [List.find?_cons, show (v == s.1) = false by simp [Ne.symm h]]
      rw [hnb] at hx
      have ih := total_putS S v x hn.2 hv' hx
      have e1 : putS (s :: S) v x = s :: putS S v x := by
        unfold putS
        rw [List.map_cons, if_neg h]
      rw [e1]
      unfold total at *
      simp only [List.map_cons, List.sum_cons] at *
      omega
theorem mem_addVs {S : Sh} {v a : Int} (h : a ∈ (addVs S v).map (·.1)) : a ∈ S.map (·.1) ∨ a = v := by
  rw [addVs_fst] at h
  split at h
  · exact .inl h
  · rcases List.mem_append.1 h with h | h
    · exact .inl h
    · rw [List.mem_singleton] at h; exact .inr h
theorem addVs_nodup (S : Sh) (v : Int) (h : (S.map (·.1)).Nodup) : ((addVs S v).map (·.1)).Nodup := by
  rw [addVs_fst]
  split
  · exact h
  · rename_i hv
    rw [List.nodup_append]
    exact ⟨h, by simp, fun a ha b hb => by simp at hb; subst hb; exact fun e => hv (e ▸ ha)⟩
theorem nbrs_putS (S : Sh) (v x a : Int) (h : a ≠ v) : nbrs (putS S v x) a = nbrs S a := by
  induction S with
  | nil => rfl
  | cons s S ih =>
    unfold nbrs putS at *
    rw [List.map_cons, List.find?_cons, List.find?_cons]
    by_cases hs : s.1 = v
    · rw [if_pos hs]
      rw [show (a == s.1) = false by rw [hs]; simp [h]]
      exact ih
    · rw [if_neg hs]
      cases a == s.1
      · exact ih
      · rfl

theorem joined_symm (E : List Ed) (a y : Int) : joined E a y = joined E y a := by
  unfold joined
  congr 1
  funext p
  unfold meets
  rw [Bool.or_comm]

/-- what holds of the graph besides -/
structure Good (l : List Ed) (t : T) : Prop where
  nodup : (t.S.map (·.1)).Nodup
  total : total t.S = 2 * t.e
  ends : ∀ v ∈ t.S.map (·.1), ∃ p ∈ l, v = p.1 ∨ v = p.2
  some : 0 < t.e ↔ t.S ≠ []
theorem good_step {l : List Ed} {t : T} {q : Q} (ha : Alike t q) (h : Good l t) (p : Ed) (hp : p ∈ l) : Good l (t.step p) := by
  obtain ⟨v, x⟩ := p
  obtain ⟨hf, hn, hb, he, hs⟩ := ha
  by_cases hvx : v = x
  · have e1 : errS t.S v x = 2 := by unfold errS; rw [if_pos hvx]
    have e2 : stepS t.S v x = t.S := by unfold stepS; rw [if_pos hvx]
    exact ⟨by simp only [T.step]; rw [e2]; exact h.nodup, by simp only [T.step]; rw [e1, e2]; exact h.total, by simp only [T.step]; rw [e2]; exact h.ends, by simp only [T.step]; rw [e1, e2]; exact h.some⟩
  · have hb1 : Bet q.E (t.S.map (·.1)) := by rw [hf]; exact hb
    have hn1 := hn.addVs hb1 v
    have hn2 := hn1.addVs (hb1.addVs v) x
    have hv : v ∈ (addVs (addVs t.S v) x).map (·.1) := by
      rw [addVs_fst, addVs_fst]
      split <;> split <;> simp_all
    have hx : x ∈ (addVs (addVs t.S v) x).map (·.1) := by
      rw [addVs_fst]
      split
      · assumption
      · simp
    have hnb := nbrs_mem hn2 hv x
    have hnbx := nbrs_mem hn2 hx v
    by_cases hin : x ∈ nbrs (addVs (addVs t.S v) x) v
    · have hj := hnb.1 hin
      have hvV := hb v x hj
      have a1 : addVs t.S v = t.S := by unfold addVs; rw [if_pos ((hasV_iff _ _).2 (by rw [hf]; exact hvV.1))]
      have a2 : addVs t.S x = t.S := by unfold addVs; rw [if_pos ((hasV_iff _ _).2 (by rw [hf]; exact hvV.2))]
      have e1 : errS t.S v x = 3 := by unfold errS; rw [if_neg hvx, if_pos hin]
      have e2 : stepS t.S v x = t.S := by unfold stepS; rw [if_neg hvx, if_pos hin, a1, a2]
      exact ⟨by simp only [T.step]; rw [e2]; exact h.nodup, by simp only [T.step]; rw [e1, e2]; exact h.total, by simp only [T.step]; rw [e2]; exact h.ends, by simp only [T.step]; rw [e1, e2]; exact h.some⟩
    · have e1 : errS t.S v x = 0 := by unfold errS; rw [if_neg hvx, if_neg hin]
      have e2 : stepS t.S v x = putS (putS (addVs (addVs t.S v) x) v x) x v := by unfold stepS; rw [if_neg hvx, if_neg hin]
      have hnd : ((addVs (addVs t.S v) x).map (·.1)).Nodup := addVs_nodup _ _ (addVs_nodup _ _ h.nodup)
      have hin2 : v ∉ nbrs (putS (addVs (addVs t.S v) x) v x) x := by
        rw [nbrs_putS _ _ _ _ (fun e => hvx e.symm)]
        intro hh
        have := hnbx.1 hh
        rw [joined_symm] at this
        exact hin (hnb.2 this)
      refine ⟨?_, ?_, ?_, ?_⟩
      · simp only [T.step]; rw [e2, putS_fst, putS_fst]; exact hnd
      · simp only [T.step]; rw [e1, e2, total_putS _ _ _ (by rw [putS_fst]; exact hnd) (by rw [putS_fst]; exact hx) hin2, total_putS _ _ _ hnd hv hin, total_addVs, total_addVs, h.total]
        simp; omega
      · simp only [T.step]; rw [e2, putS_fst, putS_fst]
        intro a ha
        have key : a ∈ t.S.map (·.1) ∨ a = v ∨ a = x := by
          rcases mem_addVs ha with ha | ha
          · rcases mem_addVs ha with ha | ha
            · exact .inl ha
            · exact .inr (.inl ha)
          · exact .inr (.inr ha)
        rcases key with ha | ha | ha
        · exact h.ends a ha
        · exact ⟨_, hp, .inl ha⟩
        · exact ⟨_, hp, .inr ha⟩
      · simp only [T.step]; rw [e1, e2]
        simp only [if_true]
        constructor
        · intro _ hc
          have : (putS (putS (addVs (addVs t.S v) x) v x) x v).map (·.1) = [] := by rw [hc]; rfl
          rw [putS_fst, putS_fst] at this
          rw [this] at hv
          cases hv
        · intro _; omega
theorem good (l : List Ed) : Good l (tOf l) := by
  unfold tOf
  have : ∀ (r : List Ed) (t : T) (q : Q), (∀ p ∈ r, p ∈ l) → Alike t q → Good l t → Good l (r.foldl T.step t) := by
    intro r
    induction r with
    | nil => intro t q _ _ h; exact h
    | cons p r ih => intro t q hr ha h; exact ih _ _ (fun p hp => hr p (List.mem_cons_of_mem _ hp)) (alike_step ha p) (good_step ha h p (hr p (List.mem_cons_self ..)))
  exact this l _ ⟨[], [], []⟩ (fun _ h => h) ⟨rfl, fun s hs => (nomatch hs), (fun a y h => by cases h), rfl, rfl⟩ ⟨List.nodup_nil, rfl, fun v hv => (nomatch hv), by simp⟩

/-- a neighbour is a vertex, and has one as its neighbour -/
theorem nbr_back {l : List Ed} {v y : Int} (hv : v ∈ (tOf l).S.map (·.1)) (hy : y ∈ nbrs (tOf l).S v) : y ∈ (tOf l).S.map (·.1) ∧ v ∈ nbrs (tOf l).S y := by
  obtain ⟨hf, hn, hb, _, _⟩ := alike l
  have hj := (nbrs_mem hn hv y).1 hy
  have hyV : y ∈ (tOf l).S.map (·.1) := by rw [hf]; exact (hb v y hj).2
  exact ⟨hyV, (nbrs_mem hn hyV v).2 (by rw [joined_symm]; exact hj)⟩

/-- who has been seen among the first ends -/
def seenOf (S : Sh) (ends : List Int) : List Int := ends.foldl (fun s v => if v ∈ S.map (·.1) ∧ v ∉ s then s ++ [v] else s) []
def endsOf (l : List Ed) : List Int := l.flatMap fun p => [p.1, p.2]
theorem seenOf_snoc (S : Sh) (ends : List Int) (v : Int) : seenOf S (ends ++ [v]) = if v ∈ S.map (·.1) ∧ v ∉ seenOf S ends then seenOf S ends ++ [v] else seenOf S ends := by
  unfold seenOf; rw [List.foldl_append]; rfl
theorem seen_from (S : Sh) : ∀ (r s : List Int), s.Nodup → (∀ v ∈ s, v ∈ S.map (·.1)) → (r.foldl (fun s v => if v ∈ S.map (·.1) ∧ v ∉ s then s ++ [v] else s) s).Nodup ∧ ∀ v, v ∈ r.foldl (fun s v => if v ∈ S.map (·.1) ∧ v ∉ s then s ++ [v] else s) s ↔ v ∈ s ∨ (v ∈ S.map (·.1) ∧ v ∈ r)
  | [], s, hn, hs => ⟨hn, fun v => by simp⟩
  | x :: r, s, hn, hs => by
    rw [List.foldl_cons]
    by_cases hx : x ∈ S.map (·.1) ∧ x ∉ s
    · rw [if_pos hx]
      obtain ⟨h1, h2⟩ := seen_from S r (s ++ [x]) (by
        rw [List.nodup_append]
        exact ⟨hn, by simp, fun a ha b hb => by simp at hb; subst hb; exact fun e => hx.2 (e ▸ ha)⟩) (fun v hv => by
        rcases List.mem_append.1 hv with hv | hv
        · exact hs v hv
        · rw [List.mem_singleton] at hv; rw [hv]; exact hx.1)
      refine ⟨h1, fun v => ?_⟩
      rw [h2, List.mem_append, List.mem_singleton, List.mem_cons]
      constructor
      · rintro ((h | h) | h)
        · exact .inl h
        · rw [h]; exact .inr ⟨hx.1, .inl rfl⟩
        · exact .inr ⟨h.1, .inr h.2⟩
      · rintro (h | ⟨h, h' | h'⟩)
        · exact .inl (.inl h)
        · exact .inl (.inr h')
        · exact .inr ⟨h, h'⟩
    · rw [if_neg hx]
      obtain ⟨h1, h2⟩ := seen_from S r s hn hs
      refine ⟨h1, fun v => ?_⟩
      rw [h2, List.mem_cons]
      constructor
      · rintro (h | h)
        · exact .inl h
        · exact .inr ⟨h.1, .inr h.2⟩
      · rintro (h | ⟨h, h' | h'⟩)
        · exact .inl h
        · by_cases hv : v ∈ s
          · exact .inl hv
          · exact absurd ⟨by rw [← h']; exact h, by rw [← h']; exact hv⟩ hx
        · exact .inr ⟨h, h'⟩
theorem seenOf_ok (S : Sh) (ends : List Int) : (seenOf S ends).Nodup ∧ ∀ v, v ∈ seenOf S ends ↔ v ∈ S.map (·.1) ∧ v ∈ ends := by
  obtain ⟨h1, h2⟩ := seen_from S ends [] List.nodup_nil (fun v hv => (nomatch hv))
  refine ⟨h1, fun v => ?_⟩
  have := h2 v
  simpa [seenOf] using this
def degs (S : Sh) (vs : List Int) : Nat := (vs.map fun v => (nbrs S v).length).sum
theorem degs_all {S : Sh} (h : (S.map (·.1)).Nodup) : degs S (S.map (·.1)) = total S := by
  unfold degs total
  rw [List.map_map]
  congr 1
  apply List.map_congr_left
  intro s hs
  simp only [Function.comp]
  congr 1
  unfold nbrs
  cases hf : S.find? (fun t => s.1 == t.1) with
  | none =>
    have := List.find?_eq_none.1 hf s hs
    simp at this
  | some t =>
    have h1 := List.mem_of_find?_eq_some hf
    have h2 : s.1 = t.1 := by have := List.find?_some hf; exact eq_of_beq this
    have : s = t := map_inj h hs h1 h2
    subst this
    rfl
theorem perm_of_nodup {a b : List Int} (ha : a.Nodup) (hb : b.Nodup) (h : ∀ x, x ∈ a ↔ x ∈ b) : a.Perm b := (List.perm_ext_iff_of_nodup ha hb).2 h
/-- at the end -/
theorem seen_end (l : List Ed) : (seenOf (tOf l).S (endsOf l)).length = (tOf l).S.length ∧ degs (tOf l).S (seenOf (tOf l).S (endsOf l)) = 2 * (tOf l).e := by
  have hg := good l
  obtain ⟨h1, h2⟩ := seenOf_ok (tOf l).S (endsOf l)
  have hp : (seenOf (tOf l).S (endsOf l)).Perm ((tOf l).S.map (·.1)) := perm_of_nodup h1 hg.nodup fun v => by
    rw [h2]
    constructor
    · exact fun h => h.1
    · intro h
      obtain ⟨p, hp, he⟩ := hg.ends v h
      exact ⟨h, List.mem_flatMap.2 ⟨p, hp, by simpa using he⟩⟩
  refine ⟨by rw [hp.length_eq, List.length_map], ?_⟩
  rw [← hg.total, ← degs_all hg.nodup]
  unfold degs
  exact (hp.map _).sum_nat
end Go.Proofs.YtpccodjmjgfloaaDoor.gr
