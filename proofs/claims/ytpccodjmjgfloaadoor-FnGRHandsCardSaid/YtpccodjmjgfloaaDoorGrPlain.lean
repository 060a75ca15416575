/-
  Graphs as lists: the vertices with their neighbours against the vertices and the edges of the specification.
-/
import Derived.Test.YtpccodjmjgfloaaDoorGrOfS
namespace Go.Proofs.YtpccodjmjgfloaaDoor.gr
open Go.Proofs.YtpccodjmjgfloaaDoor.rows
set_option linter.unusedVariables false

theorem hasV_iff (S : Sh) (v : Int) : hasV S v = true ↔ v ∈ S.map (·.1) := by
  unfold hasV
  rw [List.find?_isSome]
  constructor
  · rintro ⟨s, hs, h⟩
    exact List.mem_map.2 ⟨s, hs, (eq_of_beq h).symm⟩
  · intro h
    obtain ⟨s, hs, rfl⟩ := List.mem_map.1 h
    exact ⟨s, hs, by simp⟩
theorem addVs_fst (S : Sh) (v : Int) : (addVs S v).map (·.1) = if v ∈ S.map (·.1) then S.map (·.1) else S.map (·.1) ++ [v] := by
  unfold addVs
  by_cases h : v ∈ S.map (·.1)
  · rw [if_pos ((hasV_iff S v).2 h), if_pos h]
  · rw [if_neg (fun e => h ((hasV_iff S v).1 e)), if_neg h, List.map_append]; rfl
/-- the neighbours are those that are joined -/
def Nbr (S : Sh) (E : List Ed) : Prop := ∀ s ∈ S, ∀ y, y ∈ s.2 ↔ joined E s.1 y = true
/-- the edges are between vertices -/
def Bet (E : List Ed) (V : List Int) : Prop := ∀ a y, joined E a y = true → a ∈ V ∧ y ∈ V
theorem Nbr.addVs {S : Sh} {E : List Ed} (h : Nbr S E) (hb : Bet E (S.map (·.1))) (v : Int) : Nbr (addVs S v) E := by
  unfold gr.addVs
  by_cases hv : v ∈ S.map (·.1)
  · rw [if_pos ((hasV_iff S v).2 hv)]; exact h
  · rw [if_neg (fun e => hv ((hasV_iff S v).1 e))]
    intro s hs y
    rcases List.mem_append.1 hs with hs | hs
    · exact h s hs y
    · simp at hs
      subst hs
      constructor
      · intro hy; cases hy
      · intro hj; exact absurd (hb v y hj).1 hv
theorem Bet.addVs {S : Sh} {E : List Ed} (h : Bet E (S.map (·.1))) (v : Int) : Bet E ((addVs S v).map (·.1)) := by
  intro a y hj
  obtain ⟨h1, h2⟩ := h a y hj
  rw [addVs_fst]
  split
  · exact ⟨h1, h2⟩
  · exact ⟨List.mem_append_left _ h1, List.mem_append_left _ h2⟩
theorem nbrs_mem {S : Sh} {E : List Ed} (h : Nbr S E) {v : Int} (hv : v ∈ S.map (·.1)) (y : Int) : y ∈ nbrs S v ↔ joined E v y = true := by
  have hs := (hasV_iff S v).2 hv
  unfold hasV at hs
  unfold nbrs
  cases hf : S.find? (fun s => v == s.1) with
  | none => rw [hf] at hs; cases hs
  | some s =>
    have h1 := List.mem_of_find?_eq_some hf
    have h2 : s.1 = v := by have := List.find?_some hf; exact (eq_of_beq this).symm
    rw [← h2]
    exact h s h1 y
theorem joined_snoc (E : List Ed) (v x a y : Int) : joined (E ++ [(v, x)]) a y = true ↔ joined E a y = true ∨ (a = v ∧ y = x) ∨ (a = x ∧ y = v) := by
  unfold joined
  rw [List.any_append, Bool.or_eq_true]
  constructor
  · rintro (h | h)
    · exact .inl h
    · simp [meets] at h
      rcases h with ⟨h1, h2⟩ | ⟨h1, h2⟩
      · exact .inr (.inl ⟨h1.symm, h2.symm⟩)
      · exact .inr (.inr ⟨h2.symm, h1.symm⟩)
  · rintro (h | ⟨h1, h2⟩ | ⟨h1, h2⟩)
    · exact .inl h
    · right; simp [meets, h1, h2]
    · right; simp [meets, h1, h2]
theorem putS_fst (S : Sh) (v x : Int) : (putS S v x).map (·.1) = S.map (·.1) := by
  unfold putS
  rw [List.map_map]
  apply List.map_congr_left
  intro s _
  simp only [Function.comp]
  split <;> rfl
theorem putS_mem {S : Sh} {v x : Int} {s : Int × List Int} (h : s ∈ putS S v x) : ∃ t ∈ S, t.1 = s.1 ∧ ∀ y, y ∈ s.2 ↔ y ∈ t.2 ∨ (s.1 = v ∧ y = x) := by
  obtain ⟨t, ht, rfl⟩ := List.mem_map.1 h
  by_cases hv : t.1 = v
  · rw [if_pos hv]
    refine ⟨t, ht, rfl, fun y => ?_⟩
    by_cases hx : x ∈ t.2
    · simp only [if_pos hx]
      constructor
      · exact .inl
      · rintro (h | ⟨_, rfl⟩)
        · exact h
        · exact hx
    · simp only [if_neg hx, List.mem_append, List.mem_singleton]
      constructor
      · rintro (h | h)
        · exact .inl h
        · exact .inr ⟨hv, h⟩
      · rintro (h | ⟨_, h⟩)
        · exact .inl h
        · exact .inr h
  · rw [if_neg hv]
    refine ⟨t, ht, rfl, fun y => ?_⟩
    constructor
    · exact .inl
    · rintro (h | ⟨h, _⟩)
      · exact h
      · exact absurd h hv
theorem Nbr.putS {S : Sh} {E : List Ed} (h : Nbr S E) (v x : Int) : Nbr (putS (putS S v x) x v) (E ++ [(v, x)]) := by
  intro s hs y
  obtain ⟨t, ht, e1, h1⟩ := putS_mem hs
  obtain ⟨u, hu, e2, h2⟩ := putS_mem ht
  rw [h1, h2, h u hu, joined_snoc, e2, e1]
  constructor
  · rintro ((h | h) | h)
    · exact .inl h
    · exact .inr (.inl h)
    · exact .inr (.inr h)
  · rintro (h | h | h)
    · exact .inl (.inl h)
    · exact .inl (.inr h)
    · exact .inr h

/-- the two graphs are one -/
structure Alike (t : T) (q : Q) : Prop where
  fst : t.S.map (·.1) = q.V
  nbr : Nbr t.S q.E
  bet : Bet q.E q.V
  e : t.e = q.E.length
  es : t.es = q.es
theorem alike_step {t : T} {q : Q} (h : Alike t q) (p : Ed) : Alike (t.step p) (q.step p) := by
  obtain ⟨v, x⟩ := p
  obtain ⟨hf, hn, hb, he, hs⟩ := h
  by_cases hvx : v = x
  · have e1 : errS t.S v x = 2 := by unfold errS; rw [if_pos hvx]
    have e2 : stepS t.S v x = t.S := by unfold stepS; rw [if_pos hvx]
    have e3 : qerr q.E v x = 2 := by unfold qerr; rw [if_pos hvx]
    have e4 : qV q.V q.E v x = q.V := by unfold qV; rw [e3]; rfl
    have e5 : qE q.E v x = q.E := by unfold qE; rw [e3]; rfl
    exact ⟨by simp only [T.step, Q.step]; rw [e2, e4]; exact hf, by simp only [T.step, Q.step]; rw [e2, e5]; exact hn, by simp only [T.step, Q.step]; rw [e4, e5]; exact hb, by simp only [T.step, Q.step]; rw [e1, e5]; exact he, by simp only [T.step, Q.step]; rw [e1, e3, hs]⟩
  · have hb1 : Bet q.E (t.S.map (·.1)) := by rw [hf]; exact hb
    have hn1 := hn.addVs hb1 v
    have hn2 := hn1.addVs (hb1.addVs v) x
    have hb2 := (hb1.addVs v).addVs x
    have hfst : (addVs (addVs t.S v) x).map (·.1) = st.withL q.V [v, x] := by
      rw [addVs_fst, addVs_fst, hf]; rfl
    have hv : v ∈ (addVs (addVs t.S v) x).map (·.1) := by
      rw [addVs_fst, addVs_fst]
      split <;> split <;> simp_all
    have hnb := nbrs_mem hn2 hv x
    by_cases hj : joined q.E v x = true
    · have hin := hnb.2 hj
      have e1 : errS t.S v x = 3 := by unfold errS; rw [if_neg hvx, if_pos hin]
      have e3 : qerr q.E v x = 3 := by unfold qerr; rw [if_neg hvx, if_pos hj]
      have hvV := (hb v x hj)
      have a1 : addVs t.S v = t.S := by unfold addVs; rw [if_pos ((hasV_iff _ _).2 (by rw [hf]; exact hvV.1))]
      have a2 : addVs t.S x = t.S := by unfold addVs; rw [if_pos ((hasV_iff _ _).2 (by rw [hf]; exact hvV.2))]
      have e2 : stepS t.S v x = t.S := by unfold stepS; rw [if_neg hvx, if_pos hin, a1, a2]
      have e4 : qV q.V q.E v x = q.V := by unfold qV; rw [e3]; rfl
      have e5 : qE q.E v x = q.E := by unfold qE; rw [e3]; rfl
      exact ⟨by simp only [T.step, Q.step]; rw [e2, e4]; exact hf, by simp only [T.step, Q.step]; rw [e2, e5]; exact hn, by simp only [T.step, Q.step]; rw [e4, e5]; exact hb, by simp only [T.step, Q.step]; rw [e1, e5]; exact he, by simp only [T.step, Q.step]; rw [e1, e3, hs]⟩
    · have hin : ¬ x ∈ nbrs (addVs (addVs t.S v) x) v := fun h => hj (hnb.1 h)
      have e1 : errS t.S v x = 0 := by unfold errS; rw [if_neg hvx, if_neg hin]
      have e3 : qerr q.E v x = 0 := by unfold qerr; rw [if_neg hvx, if_neg hj]
      have e2 : stepS t.S v x = putS (putS (addVs (addVs t.S v) x) v x) x v := by unfold stepS; rw [if_neg hvx, if_neg hin]
      have e4 : qV q.V q.E v x = st.withL q.V [v, x] := by unfold qV; rw [e3]; rfl
      have e5 : qE q.E v x = q.E ++ [(v, x)] := by unfold qE; rw [e3]; rfl
      have hx : x ∈ (addVs (addVs t.S v) x).map (·.1) := by
        rw [addVs_fst]
        split
        · assumption
        · simp
      refine ⟨?_, ?_, ?_, ?_, ?_⟩
      · simp only [T.step, Q.step]; rw [e2, e4, putS_fst, putS_fst, hfst]
      · simp only [T.step, Q.step]; rw [e2, e5]; exact hn2.putS v x
      · simp only [T.step, Q.step]; rw [e4, e5, ← hfst]
        intro a y h
        rcases (joined_snoc q.E v x a y).1 h with h | ⟨rfl, rfl⟩ | ⟨rfl, rfl⟩
        · exact hb2 a y h
        · exact ⟨hv, hx⟩
        · exact ⟨hx, hv⟩
      · simp only [T.step, Q.step]; rw [e1, e5, List.length_append, he]; rfl
      · simp only [T.step, Q.step]; rw [e1, e3, hs]
theorem alike (l : List Ed) : Alike (tOf l) (qOf l) := by
  unfold tOf qOf
  have : ∀ (l : List Ed) (t : T) (q : Q), Alike t q → Alike (l.foldl T.step t) (l.foldl Q.step q) := by
    intro l
    induction l with
    | nil => intro t q h; exact h
    | cons p l ih => intro t q h; exact ih _ _ (alike_step h p)
  exact this l _ _ ⟨rfl, fun s hs => (nomatch hs), (fun a y h => by cases h), rfl, rfl⟩
end Go.Proofs.YtpccodjmjgfloaaDoor.gr
