/-
  AVL trees: the plain law of FnAVAny.
-/
import Derived.Test.YtdamanckgmkbiaaAvKeys
namespace Go.Proofs.Ytdamanckgmkbiaa.av
open Go.RowKit Go.Proofs.Ytdamanckgmkbiaa.base Go.Proofs.Ytdamanckgmkbiaa.heap Go.Proofs.Ytdamanckgmkbiaa.rows
open Tre
set_option linter.unusedVariables false
theorem first_dif (L : List (Int × Int)) : Dif (firstL L) := by
  have key : ∀ (L out : List (Int × Int)), Dif out → Dif (L.foldl firstS out) := by
    intro L
    induction L with
    | nil => intro out h; exact h
    | cons x L ih =>
      intro out h
      refine ih _ ?_
      unfold firstS
      split
      · exact h
      · rename_i hx
        rw [dif_pair] at h ⊢
        refine List.pairwise_append.2 ⟨h, List.pairwise_singleton _ _, fun a ha b hb e => hx ?_⟩
        rw [List.mem_singleton.1 hb] at e
        exact List.any_eq_true.2 ⟨a, ha, by simpa using e⟩
  exact key L [] List.nodup_nil
theorem put_new {M : List (Int × Int)} {x : Int × Int} (h : Dif (M ++ [x])) : putL M x.1 x.2 = M ++ [x] := by
  unfold putL
  rw [dif_pair] at h
  have h1 := (List.pairwise_append.1 h).2.2
  rw [List.filter_eq_self.2 (fun a ha => by
    have := h1 a ha x (List.mem_singleton_self _)
    simpa using this)]
theorem putAll_dif (L M : List (Int × Int)) (h : Dif (M ++ L)) : putAll M L = M ++ L := by
  induction L generalizing M with
  | nil => exact (List.append_nil M).symm
  | cons x L ih =>
    have e : M ++ x :: L = (M ++ [x]) ++ L := by simp
    rw [e] at h ⊢
    have h1 : Dif (M ++ [x]) := by
      rw [dif_pair] at h ⊢
      exact (List.pairwise_append.1 h).1
    show putAll (putL M x.1 x.2) L = _
    rw [put_new h1]
    exact ih _ h
theorem dif_perm {L M : List (Int × Int)} (h : M.Perm L) (hd : Dif L) : Dif M := by
  unfold Dif at hd ⊢
  exact (h.map Prod.fst).nodup_iff.2 hd
theorem find_perm {L M : List (Int × Int)} (h : M.Perm L) (hd : Dif L) {y : Int × Int} (hy : y ∈ L) : findL M y.1 = some y.2 :=
  (find_mem (dif_perm h hd)).2 (h.mem_iff.2 hy)
theorem asks_said {L M : List (Int × Int)} (h : M.Perm L) (hd : Dif L) : saidGet M (asks (L.map Prod.fst)) = L.map (fun y => (y.1, some y.2)) := by
  unfold saidGet asks
  rw [List.map_map, List.map_map]
  apply List.map_congr_left
  intro y hy
  show (y.1, findL M y.1) = _
  rw [find_perm h hd hy]
theorem said_kv {L M : List (Int × Int)} (h : M.Perm L) (hd : Dif L) : (saidGet M (asks (L.map Prod.fst))).map kv = L ∧ ∀ b ∈ (saidGet M (asks (L.map Prod.fst))).map hasv, b = true := by
  rw [asks_said h hd, List.map_map, List.map_map]
  refine ⟨(List.map_congr_left (fun y _ => rfl)).trans (List.map_id L), fun b hb => ?_⟩
  obtain ⟨y, _, rfl⟩ := List.mem_map.1 hb
  rfl
/-- what counts of a step -/
def sh (s : Stp) : Int × Nat × List (Int × Int) × Nat := (s.op, s.fr, s.E, s.m)
def plan (own oth : List (Int × Int)) : List (Int × Nat × List (Int × Int) × Nat) := (1, 0, own, own.length) :: oth.mapIdx (fun i x => (1, (if i = 0 then 0 else i + 1), [x], 1))
theorem plan_snoc (own oth : List (Int × Int)) (x : Int × Int) : plan own (oth ++ [x]) = plan own oth ++ [(1, (if oth.length = 0 then 0 else oth.length + 1), [x], 1)] := by
  unfold plan
  rw [List.mapIdx_append]
  simp
theorem step_one {t : St} {s : Stp} (h : s.op = 1) : (step t s).Ls = t.Ls ++ [putAll (t.of s) s.E] := by
  unfold step
  rw [if_pos h]
theorem run_plan (own other : List (Int × Int)) : ∀ i, i ≤ other.length → ∀ Q : List Stp, Q.map sh = plan own (other.take i) → (run Q).Ls = [] :: putAll [] own :: (List.range i).map (fun k => putAll [] (other.take (k + 1)))
  | 0, _, Q, h => by
    have h' : Q.map sh = [(1, 0, own, own.length)] := h
    obtain ⟨s, rfl, hs⟩ := List.map_eq_singleton_iff.1 h'
    have h1 : s.op = 1 := congrArg (·.1) hs
    have h2 : s.fr = 0 := congrArg (·.2.1) hs
    have h3 : s.E = own := congrArg (·.2.2.1) hs
    show (step ⟨[[]], [], 0⟩ s).Ls = _
    rw [step_one h1, h3]
    unfold St.of
    rw [h2]
    rfl
  | i + 1, hi, Q, h => by
    have hx : other[i]? = some (other[i]'(by omega)) := List.getElem?_eq_getElem _
    rw [take_snoc other i _ hx, plan_snoc] at h
    obtain ⟨Q', Q2, rfl, hQ', hQ2⟩ := List.map_eq_append_iff.1 h
    obtain ⟨s, rfl, hs⟩ := List.map_eq_singleton_iff.1 hQ2
    have ih := run_plan own other i (by omega) Q' hQ'
    have h1 : s.op = 1 := congrArg (·.1) hs
    have h2 : s.fr = if (other.take i).length = 0 then 0 else (other.take i).length + 1 := congrArg (·.2.1) hs
    have h3 : s.E = [other[i]'(by omega)] := congrArg (·.2.2.1) hs
    rw [List.length_take, Nat.min_eq_left (by omega)] at h2
    have hlen : (run Q').Ls.length = i + 2 := by rw [ih]; simp
    have hof : (run Q').of s = putAll [] (other.take i) := by
      unfold St.of
      rw [hlen, h2, List.getD_eq_getElem?_getD, ih]
      by_cases h0 : i = 0
      · rw [if_pos h0, h0]
        rfl
      · rw [if_neg h0, Nat.mod_eq_of_lt (by omega)]
        obtain ⟨k, rfl⟩ : ∃ k, i = k + 1 := ⟨i - 1, by omega⟩
        rw [List.getElem?_cons_succ, List.getElem?_cons_succ, List.getElem?_map, List.getElem?_range (by omega)]
        rfl
    rw [run_snoc, step_one h1, ih, hof, h3, List.range_succ, List.map_append]
    have e : putAll (putAll [] (other.take i)) [other[i]'(by omega)] = putAll [] (other.take (i + 1)) := by
      rw [take_snoc other i _ hx, putAll_snoc]
      rfl
    rw [e]
    rfl
theorem run_lv1 (Q : List Stp) (h : ∀ s ∈ Q, s.op = 1) : (run Q).lv = 0 := by
  have key : ∀ (Q : List Stp) (t : St), (∀ s ∈ Q, s.op = 1) → t.lv = 0 → (Q.foldl step t).lv = 0 := by
    intro Q
    induction Q with
    | nil => intro t _ h; exact h
    | cons s Q ih =>
      intro t h ht
      refine ih _ (fun s hs => h s (List.mem_cons_of_mem _ hs)) ?_
      unfold step
      rw [if_pos (h s (List.mem_cons_self ..))]
      exact ht
  exact key Q _ h rfl
theorem plan_mem {own oth : List (Int × Int)} {p : Int × Nat × List (Int × Int) × Nat} (h : p ∈ plan own oth) : p.1 = 1 ∧ p.2.1 ≤ oth.length + 1 ∧ p.2.2.1.length = p.2.2.2 ∧ (p.2.2.2 = own.length ∨ p.2.2.2 = 1) := by
  rcases List.mem_cons.1 h with rfl | h
  · exact ⟨rfl, Nat.zero_le _, rfl, .inl rfl⟩
  · obtain ⟨i, hi, rfl⟩ := List.mem_mapIdx.1 h
    refine ⟨rfl, ?_, rfl, .inr rfl⟩
    show (if i = 0 then 0 else i + 1) ≤ oth.length + 1
    split <;> omega
/-- the script is borne -/
theorem plan_fine {own other : List (Int × Int)} {Q : List Stp} (h : Q.map sh = plan own other) (h0 : 0 < own.length) (h1 : own.length ≤ 60) (h2 : other.length ≤ 60) : Fine Q := by
  have hm : ∀ s ∈ Q, s.op = 1 ∧ s.fr ≤ other.length + 1 ∧ s.E.length = s.m ∧ (s.m = own.length ∨ s.m = 1) := fun s hs => by
    have hp : sh s ∈ plan own other := by rw [← h]; exact List.mem_map_of_mem hs
    exact plan_mem hp
  have hn : Q.length = other.length + 1 := by
    have := congrArg List.length h
    simpa [plan] using this
  refine ⟨by omega, fun s hs => .inl (hm s hs).1, fun s hs => ?_, fun s hs => (hm s hs).2.2.1, fun s hs => by have := (hm s hs).2.1; omega, fun j s hs => ?_⟩
  · have := (hm s hs).2.2.2
    omega
  · rw [run_lv1 _ (fun s hs => (hm s (List.mem_of_mem_take hs)).1)]
    exact Nat.zero_le _
/-- all trees -/
theorem plan_end {own other : List (Int × Int)} {Q : List Stp} (h : Q.map sh = plan own other) (hd : Dif own) (hp : other.Perm own) : (run Q).Ls.length = own.length + 2 ∧ (run Q).Ls[0]? = some [] ∧ (run Q).Ls[1]? = some own ∧ (0 < own.length → (run Q).Ls[own.length + 1]? = some other) := by
  have hl := hp.length_eq
  have hr := run_plan own other other.length (Nat.le_refl _) Q (by rw [List.take_length]; exact h)
  rw [hr]
  refine ⟨by simp [hl], rfl, ?_, fun h0 => ?_⟩
  · show some (putAll [] own) = _
    rw [putAll_dif own [] (by simpa using hd)]
    rfl
  · obtain ⟨k, hk⟩ : ∃ k, own.length = k + 1 := ⟨own.length - 1, by omega⟩
    rw [hk, List.getElem?_cons_succ, List.getElem?_cons_succ, List.getElem?_map, List.getElem?_range (by omega)]
    show some (putAll [] (other.take (k + 1))) = _
    rw [List.take_of_length_le (by omega), putAll_dif other [] (by simpa using dif_perm hp hd)]
    rfl
end Go.Proofs.Ytdamanckgmkbiaa.av
