/-
  slices.Clone, slices.Sort and slices.Equal of lists of numbers, over the kit's contracts.
-/
import Derived.Test.YtpddddjfjmipfaaRw
import Derived.Test.YtpddddjfjmipfaaShelf
namespace Go.Proofs.Ytpddddjfjmipfaa.rows
open Go.RowKit Go.Proofs.Ytpddddjfjmipfaa.heap
set_option linter.unusedVariables false

theorem iv_one (l : List Int) : ∀ u ∈ l.map iv, u.oneCell' = true := fun u hu => by
  obtain ⟨x, _, rfl⟩ := List.mem_map.1 hu
  rfl
/-- a row that the sort has written -/
theorem put_row {w w' : World} {b n cap k : Nat} {l : List Int} {d : Array Int} {os : Array Obj} (h : OL 3 iv w (some ⟨b, 0, none⟩) n cap l) (hd : d.size = n)
    (hw : w' = Sort.grow (Sort.putRow (Value.int .i64) (Sort.ahead w k) b 0 d) os) : OL 3 iv w' (some ⟨b, 0, none⟩) n cap d.toList ∧ Only (fun j => j = b) w w' := by
  rcases h.1.alt with ⟨hc, _⟩ | ⟨b', cur, hb', hb, hs, ht⟩
  · cases hc
  · cases hb'
    have hlt := lt_of_heap hb
    have hheap : w'.heap = (w.heap.modify b (Sort.onCells (Sort.putCells (Value.int .i64) 0 d))) ++ os := by rw [hw]; rfl
    have h1 : w'.heap[b]? = some (.cells (Sort.putCells (Value.int .i64) 0 d cur) 3 (0, 0)) := by
      rw [hheap, Array.getElem?_append_left (by simpa using hlt), Array.getElem?_modify, if_pos rfl, hb]
      rfl
    have hcap := h.1.le
    have h2 := Own.of_block (size := 1) h1 n cap hcap h.1.max (by simp [Sort.putCells]; omega)
    have e : (Sort.putCells (Value.int .i64) 0 d cur).toList.take (n * 1) = d.toList.map iv := by
      apply List.ext_getElem?
      intro j
      rw [Nat.mul_one, List.getElem?_take, List.getElem?_map]
      by_cases hj : j < n
      · rw [if_pos hj]
        have hjc : j < cur.size := by omega
        have hjd : j < d.size := by omega
        simp [Sort.putCells, hjc, hjd]
      · rw [if_neg hj, List.getElem?_eq_none (by simpa using (by omega : d.size ≤ j))]
        rfl
    rw [e] at h2
    refine ⟨⟨h2 (iv_one _), by simpa using hd⟩, ⟨by rw [hw]; rfl, by rw [hw]; rfl, by rw [hw]; rfl, by rw [hheap]; simp, fun j hj hne => ?_⟩⟩
    rw [hheap, Array.getElem?_append_left (by simpa using hj), Array.getElem?_modify, if_neg (fun e => hne e.symm)]
theorem getD_int {l : List Int} {j : Nat} (h : j < l.length) : l[j]? = some (l.getD j 0) := by
  rw [List.getD_eq_getElem?_getD, List.getElem?_eq_getElem h]; rfl
def srt (l : List Int) : List Int := l.mergeSort fun x y => decide (x ≤ y)
def ClP (a : Option Addr) (n cap : Nat) (l : List Int) (w : World) (e : Ending) (w' : World) : Prop := ∃ a' c', e = .returned (.slice a' n c') ∧ OL 3 iv w' a' n c' l ∧ Same w w' ∧ ∀ k, At a' k → w.heap.size ≤ k
theorem cloneL {w : World} {a : Option Addr} {n cap : Nat} {l : List Int} (h : RL iv w a n cap l) (hn : n ≤ 1000000) : Calls Try.prog 21 #[.slice a n cap] w (ClP a n cap l w) := by
  have of : ∀ {w' : World} {v : Value}, w'.ownsRow w.heap.size 3 1 v n (l.map iv) → Below w.heap.size w w' → ∃ a' c', v = .slice a' n c' ∧ OL 3 iv w' a' n c' l ∧ Same w w' ∧ ∀ k, At a' k → w.heap.size ≤ k := fun {w' v} ho hb => by
    obtain ⟨h1, h2⟩ := ho
    rcases h2 with ⟨rfl, rfl⟩ | ⟨g, c, cur, rfl, hg, hh, hle, hm, hs, ht⟩
    · have : l = [] := List.eq_nil_of_length_eq_zero h.2
      subst this
      exact ⟨none, 0, rfl, OL.nil _ _ _, Only.of_below hb, fun k hk => hk.elim⟩
    · have h3 := Own.of_block (size := 1) hh n c hle hm hs (by rw [ht]; exact iv_one _)
      rw [ht] at h3
      exact ⟨_, c, rfl, ⟨h3, h.2⟩, Only.of_below hb, fun k hk => by have : g = k := hk; omega⟩
  rcases Nat.eq_zero_or_pos n with rfl | hp
  · have hl : l = [] := List.eq_nil_of_length_eq_zero h.2
    subst hl
    cases a with
    | none =>
      refine (Try.slices_Clone_int_nil 0 cap w).mono ?_
      rintro e w' ⟨rfl, rfl⟩
      exact ⟨none, 0, rfl, OL.nil _ _ _, Only.refl _ _, fun k hk => hk.elim⟩
    | some ad =>
      refine (Try.slices_Clone_int_zero ad cap w).mono ?_
      rintro e w' ⟨v, rfl, ho, _, hb⟩
      obtain ⟨a', c', rfl, h2, h3, h4⟩ := of ho hb
      exact ⟨a', c', rfl, h2, h3, h4⟩
  · obtain ⟨b, off, rfl, _, hc⟩ := h.at hp
    refine (Try.slices_Clone_int b off n cap l w (by rw [h.2]; exact Nat.le_refl _) (by omega) (fun j hj => hc j _ (getD_int hj))).mono ?_
    rintro e w' ⟨v, rfl, ho, _, hb⟩
    rw [List.take_of_length_le (by rw [h.2]; exact Nat.le_refl _)] at ho
    obtain ⟨a', c', rfl, h2, h3, h4⟩ := of ho hb
    exact ⟨a', c', rfl, h2, h3, h4⟩
def SoP (a : Option Addr) (n cap : Nat) (l : List Int) (w : World) (e : Ending) (w' : World) : Prop := e = .returned (.tuple #[]) ∧ OL 3 iv w' a n cap (srt l) ∧ Only (At a) w w'
theorem sortL {w : World} {a : Option Addr} {n cap : Nat} {l : List Int} (h : OL 3 iv w a n cap l) (hn : n ≤ 1000000) : Calls Try.prog 22 #[.slice a n cap] w (SoP a n cap l w) := by
  rcases Nat.eq_zero_or_pos n with rfl | hp
  · have hl : l = [] := List.eq_nil_of_length_eq_zero h.2
    subst hl
    refine (Try.slices_Sort_int_none a cap w).mono ?_
    rintro e w' ⟨rfl, rfl⟩
    exact ⟨rfl, by simpa [srt] using h, Only.refl _ _⟩
  · obtain ⟨b, rfl, hb, hc⟩ := h.1.at hp
    have hln : l.length = n := h.2
    have hH : Sort.Holds (Value.int .i64) w b 0 l.toArray := fun j hj => by
      have hj' : j < l.length := by simpa using hj
      refine ⟨?_, h.1.frozen rfl _⟩
      have := hc j (iv l[j]) (by rw [List.getElem?_map, List.getElem?_eq_getElem hj']; rfl)
      simpa [hj'] using this
    have := Try.slices_Sort_int b 0 cap l w hH hb (by omega)
    rw [hln] at this
    refine this.mono ?_
    rintro e w' ⟨rfl, k, os, hw⟩
    obtain ⟨h1, h2⟩ := put_row h (by simp [hln]) hw
    refine ⟨rfl, ?_, h2.mono (fun k _ hk => by rw [hk]; rfl)⟩
    simpa [srt] using h1
theorem equalL {w : World} {a a' : Option Addr} {n cap n' cap' : Nat} {l l' : List Int} (h : RL iv w a n cap l) (h' : RL iv w a' n' cap' l') (hn : n ≤ 1000000) (hn' : n' ≤ 1000000) (hnn : n = n') : Calls Try.prog 23 #[.slice a n cap, .slice a' n' cap'] w (FV w (.bool (l == l'))) := by
  have hl := h.2
  have hl' := h'.2
  rcases Nat.eq_zero_or_pos n with rfl | hp
  · refine (Try.slices_Equal_int_empty a a' cap n' cap' w (by omega)).mono ?_
    rintro e w' ⟨rfl, rfl⟩
    refine ⟨?_, Only.refl _ _⟩
    have e1 : l = [] := List.eq_nil_of_length_eq_zero hl
    subst e1
    cases l' with
    | nil => simp at hl'; subst hl'; rfl
    | cons x l' => simp at hl'; subst hl'; rfl
  · rcases Nat.eq_zero_or_pos n' with rfl | hp'
    · omega
    · obtain ⟨b, off, rfl, _, hc⟩ := h.at hp
      obtain ⟨b', off', rfl, _, hc'⟩ := h'.at hp'
      refine (Try.slices_Equal_int b off n cap b' off' n' cap' l l' w (by omega) (by omega) (by omega) (by omega) (fun j hj => hc j _ (getD_int hj)) (fun j hj => hc' j _ (getD_int hj))).mono ?_
      rintro e w' ⟨rfl, q, rfl⟩
      rw [List.take_of_length_le (by omega), List.take_of_length_le (by omega)]
      exact ⟨rfl, (Only.refl _ _).drewN q⟩
end Go.Proofs.Ytpddddjfjmipfaa.rows
