/-
  Several bitsets in memory, and steps on them by lists of bits.
-/
import Derived.Test.YtgndpckcdageiaaBsRange
import Derived.Test.YtgndpckcdageiaaBsLaw
namespace Go.Proofs.Ytgndpckcdageiaa.bs
open Go.RowKit Go.Proofs.Ytgndpckcdageiaa.base Go.Proofs.Ytgndpckcdageiaa.heap Go.Proofs.Ytgndpckcdageiaa.bit
set_option linter.unusedVariables false
/-- the bitsets l stand for the bits s; no two share a block -/
structure Mem (w : World) (l : List O) (s : List (List Bool)) : Prop where
  len : l.length = s.length
  ok : ∀ (i : Nat) (o : O) (b : List Bool), l[i]? = some o → s[i]? = some b → o.ok w ∧ o.rep b
  apart : ∀ (i j : Nat) (o o' : O), i ≠ j → l[i]? = some o → l[j]? = some o' → ∀ k, o.foot k → ¬ o'.foot k
def FoL (l : List O) (k : Nat) : Prop := ∃ o ∈ l, o.foot k
theorem Mem.get {w : World} {l : List O} {s : List (List Bool)} (h : Mem w l s) {i : Nat} {b : List Bool} (hb : s[i]? = some b) : ∃ o, l[i]? = some o ∧ o.ok w ∧ o.rep b := by
  have hi := (List.getElem?_eq_some_iff.1 hb).1
  have ho : l[i]? = some (l[i]'(by rw [h.len]; exact hi)) := List.getElem?_eq_getElem _
  exact ⟨_, ho, h.ok i _ b ho hb⟩
theorem Mem.bits {w : World} {l : List O} {s : List (List Bool)} (h : Mem w l s) {i : Nat} {o : O} (ho : l[i]? = some o) : ∃ b, s[i]? = some b ∧ o.ok w ∧ o.rep b := by
  have hi := (List.getElem?_eq_some_iff.1 ho).1
  have hb : s[i]? = some (s[i]'(by rw [← h.len]; exact hi)) := List.getElem?_eq_getElem _
  exact ⟨_, hb, h.ok i o _ ho hb⟩
theorem Mem.lt {w : World} {l : List O} {s : List (List Bool)} (h : Mem w l s) : ∀ k, FoL l k → k < w.heap.size := by
  rintro k ⟨o, ho, hk⟩
  obtain ⟨i, hi⟩ := List.mem_iff_getElem?.1 ho
  obtain ⟨b, _, h1, _⟩ := h.bits hi
  exact h1.lt k hk
theorem Mem.keep {w w' : World} {l : List O} {s : List (List Bool)} {S : Nat → Prop} (h : Mem w l s) (ho : Only S w w') (hn : ∀ k, FoL l k → ¬ S k) : Mem w' l s :=
  ⟨h.len, fun i o b h1 h2 => ⟨(h.ok i o b h1 h2).1.keep ho (fun k hk => hn k ⟨o, List.mem_of_getElem? h1, hk⟩), (h.ok i o b h1 h2).2⟩, h.apart⟩
theorem Mem.still {w w' : World} {l : List O} {s : List (List Bool)} (h : Mem w l s) (ho : Same w w') : Mem w' l s := h.keep ho (fun _ _ => id)
/-- one of them has turned -/
theorem Mem.upd {w w' : World} {l : List O} {s : List (List Bool)} (h : Mem w l s) {i : Nat} {o : O} {b' : List Bool} (hi : l[i]? = some o) (hu : Upd o b' w w') :
    ∃ o', o'.p = o.p ∧ Mem w' (l.set i o') (s.set i b') ∧ (∀ k, FoL (l.set i o') k → FoL l k ∨ w.heap.size ≤ k) ∧ Only (FoL l) w w' := by
  obtain ⟨o', hp, hok, hrep, hO, hf⟩ := hu
  have hil := (List.getElem?_eq_some_iff.1 hi).1
  have hol : o ∈ l := List.mem_of_getElem? hi
  have hget : ∀ j x, (l.set i o')[j]? = some x → (j = i ∧ x = o') ∨ (j ≠ i ∧ l[j]? = some x) := fun j x hx => by
    rw [List.getElem?_set] at hx
    by_cases e : i = j
    · rw [if_pos e, if_pos hil] at hx
      exact .inl ⟨e.symm, by cases hx; rfl⟩
    · rw [if_neg e] at hx
      exact .inr ⟨fun h => e h.symm, hx⟩
  refine ⟨o', hp, ⟨by rw [List.length_set, List.length_set]; exact h.len, fun j x b h1 h2 => ?_, fun j m x x' hjm h1 h2 k hk hk' => ?_⟩, ?_, hO.mono (fun k _ hk => ⟨o, hol, hk⟩)⟩
  · rcases hget j x h1 with ⟨rfl, rfl⟩ | ⟨hne, h3⟩
    · rw [List.getElem?_set, if_pos rfl, if_pos (by rw [← h.len]; exact hil)] at h2
      cases h2
      exact ⟨hok, hrep⟩
    · rw [List.getElem?_set, if_neg (fun e => hne e.symm)] at h2
      obtain ⟨h4, h5⟩ := h.ok j x b h3 h2
      exact ⟨h4.keep hO (fun k hk => h.apart j i x o hne h3 hi k hk), h5⟩
  · rcases hget j x h1 with ⟨rfl, rfl⟩ | ⟨hne, h3⟩
    · rcases hget m x' h2 with ⟨rfl, rfl⟩ | ⟨hne2, h4⟩
      · exact hjm rfl
      · rcases hf k hk with h5 | h5
        · exact h.apart j m o x' hjm hi h4 k h5 hk'
        · have := h.lt k ⟨x', List.mem_of_getElem? h4, hk'⟩; omega
    · rcases hget m x' h2 with ⟨rfl, rfl⟩ | ⟨hne2, h4⟩
      · rcases hf k hk' with h5 | h5
        · exact h.apart j m x o hjm h3 hi k hk h5
        · have := h.lt k ⟨x, List.mem_of_getElem? h3, hk⟩; omega
      · exact h.apart j m x x' hjm h3 h4 k hk hk'
  · rintro k ⟨x, hx, hk⟩
    obtain ⟨j, hj⟩ := List.mem_iff_getElem?.1 hx
    rcases hget j x hj with ⟨rfl, rfl⟩ | ⟨_, h3⟩
    · exact (hf k hk).imp (fun h5 => ⟨o, hol, h5⟩) id
    · exact .inl ⟨x, List.mem_of_getElem? h3, hk⟩
/-- a further one -/
theorem Mem.snoc {w w' : World} {l : List O} {s : List (List Bool)} (h : Mem w l s) {o : O} {b : List Bool} (hok : o.ok w') (hrep : o.rep b) (hS : Same w w') (hf : ∀ k, o.foot k → w.heap.size ≤ k) : Mem w' (l ++ [o]) (s ++ [b]) := by
  have hget : ∀ j x, (l ++ [o])[j]? = some x → (j = l.length ∧ x = o) ∨ l[j]? = some x := fun j x hx => by
    rcases Nat.lt_or_ge j l.length with h1 | h1
    · rw [List.getElem?_append_left h1] at hx; exact .inr hx
    · rw [List.getElem?_append_right h1] at hx
      have h2 := (List.getElem?_eq_some_iff.1 hx).1
      have h3 : j - l.length = 0 := by simpa using h2
      rw [h3] at hx
      exact .inl ⟨by omega, by cases hx; rfl⟩
  refine ⟨by rw [List.length_append, List.length_append, h.len]; rfl, fun j x c h1 h2 => ?_, fun j m x x' hjm h1 h2 k hk hk' => ?_⟩
  · rcases hget j x h1 with ⟨rfl, rfl⟩ | h3
    · rw [h.len, List.getElem?_append_right (Nat.le_refl _), Nat.sub_self] at h2
      cases h2
      exact ⟨hok, hrep⟩
    · rw [List.getElem?_append_left (by rw [← h.len]; exact (List.getElem?_eq_some_iff.1 h3).1)] at h2
      obtain ⟨h4, h5⟩ := h.ok j x c h3 h2
      exact ⟨h4.keep hS (fun _ _ => id), h5⟩
  · rcases hget j x h1 with ⟨rfl, rfl⟩ | h3
    · rcases hget m x' h2 with ⟨rfl, rfl⟩ | h4
      · exact hjm rfl
      · have := h.lt k ⟨x', List.mem_of_getElem? h4, hk'⟩
        have := hf k hk
        omega
    · rcases hget m x' h2 with ⟨rfl, rfl⟩ | h4
      · have := h.lt k ⟨x, List.mem_of_getElem? h3, hk⟩
        have := hf k hk'
        omega
      · exact h.apart j m x x' hjm h3 h4 k hk hk'
theorem FoL.snoc {l : List O} {o : O} {k : Nat} (h : FoL (l ++ [o]) k) : FoL l k ∨ o.foot k := by
  obtain ⟨x, hx, hk⟩ := h
  rcases List.mem_append.1 hx with hx | hx
  · exact .inl ⟨x, hx, hk⟩
  · rw [List.mem_singleton] at hx
    subst hx; exact .inr hk
end Go.Proofs.Ytgndpckcdageiaa.bs
