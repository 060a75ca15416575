/-
  Plain law of a heap in a list: what stands at the parent is not greater; an element goes up, an element goes down.
-/
namespace Go.Proofs.YtpddddjfjmipfaaDoor.pq
set_option linter.unusedVariables false

/-- an element: a key, a tag -/
structure It where
  key : Int
  tag : Int
def kAt (L : List It) (i : Nat) : Int := (L.getD i ⟨0, 0⟩).key
def swapL (L : List It) (i j : Nat) : List It := (L.set i (L.getD j ⟨0, 0⟩)).set j (L.getD i ⟨0, 0⟩)
theorem swapL_len (L : List It) (i j : Nat) : (swapL L i j).length = L.length := by simp [swapL]
theorem kAt_eq {L : List It} {i : Nat} {x : It} (h : L[i]? = some x) : kAt L i = x.key := by simp [kAt, List.getD_eq_getElem?_getD, h]
theorem swapL_perm {L : List It} {i j : Nat} (hi : i < L.length) (hj : j < L.length) : (swapL L i j).Perm L := by
  have := List.set_set_perm (as := L) hi hj
  simpa [swapL, List.getD_eq_getElem?_getD, List.getElem?_eq_getElem hi, List.getElem?_eq_getElem hj] using this
theorem swapL_get {L : List It} {i j : Nat} (hi : i < L.length) (hj : j < L.length) (m : Nat) : (swapL L i j)[m]? = if m = j then L[i]? else if m = i then L[j]? else L[m]? := by
  simp only [swapL, List.getElem?_set, List.length_set, List.getD_eq_getElem?_getD, List.getElem?_eq_getElem hi, List.getElem?_eq_getElem hj, Option.getD_some]
  by_cases h1 : m = j
  · subst h1; simp [hj]
  · rw [if_neg (fun e => h1 e.symm), if_neg h1]
    by_cases h2 : m = i
    · subst h2; simp [hi]
    · rw [if_neg (fun e => h2 e.symm), if_neg h2]
theorem kAt_swap {L : List It} {i j : Nat} (hi : i < L.length) (hj : j < L.length) (m : Nat) : kAt (swapL L i j) m = if m = j then kAt L i else if m = i then kAt L j else kAt L m := by
  simp only [kAt, List.getD_eq_getElem?_getD, swapL_get hi hj]
  split
  · rfl
  · split <;> rfl

def Heap (L : List It) : Prop := ∀ j, 0 < j → j < L.length → kAt L ((j - 1) / 2) ≤ kAt L j
structure UpH (L : List It) (i : Nat) : Prop where
  lt : i < L.length
  el : ∀ j, 0 < j → j < L.length → j ≠ i → kAt L ((j - 1) / 2) ≤ kAt L j
  gr : 0 < i → ∀ j, 0 < j → j < L.length → (j - 1) / 2 = i → kAt L ((i - 1) / 2) ≤ kAt L j
structure DownH (L : List It) (i : Nat) : Prop where
  el : ∀ j, 0 < j → j < L.length → (j - 1) / 2 ≠ i → kAt L ((j - 1) / 2) ≤ kAt L j
  gr : 0 < i → ∀ j, 0 < j → j < L.length → (j - 1) / 2 = i → kAt L ((i - 1) / 2) ≤ kAt L j

theorem kAt_append_left {L : List It} (R : List It) {i : Nat} (h : i < L.length) : kAt (L ++ R) i = kAt L i := by
  simp [kAt, List.getD_eq_getElem?_getD, List.getElem?_append_left h]
theorem up_start {L : List It} (h : Heap L) (x : It) : UpH (L ++ [x]) L.length := by
  refine ⟨by simp, fun j h0 hj hn => ?_, fun h0 j h1 hj e => ?_⟩
  · have hj' : j < L.length := by simp at hj; omega
    rw [kAt_append_left _ (by omega), kAt_append_left _ hj']
    exact h j h0 hj'
  · simp at hj; omega
theorem up_step {L : List It} {i : Nat} (h : UpH L i) (h0 : 0 < i) (hlt : kAt L i < kAt L ((i - 1) / 2)) : UpH (swapL L i ((i - 1) / 2)) ((i - 1) / 2) := by
  have hi := h.lt
  have hp : (i - 1) / 2 < L.length := by omega
  refine ⟨by rw [swapL_len]; exact hp, fun j h1 hj hn => ?_, fun h1 j h2 hj e => ?_⟩
  · rw [swapL_len] at hj
    simp only [kAt_swap hi hp]
    by_cases e1 : j = i
    · subst e1
      simp only [if_true, if_neg (show ¬ j = (j - 1) / 2 by omega)]
      omega
    · rw [if_neg (show ¬ j = (i - 1) / 2 from hn), if_neg e1]
      by_cases e2 : (j - 1) / 2 = (i - 1) / 2
      · rw [if_pos e2]
        have := h.el j h1 hj e1
        rw [e2] at this
        omega
      · rw [if_neg e2]
        by_cases e3 : (j - 1) / 2 = i
        · rw [if_pos e3]; exact h.gr h0 j h1 hj e3
        · rw [if_neg e3]; exact h.el j h1 hj e1
  · rw [swapL_len] at hj
    simp only [kAt_swap hi hp]
    rw [if_neg (show ¬ ((i - 1) / 2 - 1) / 2 = (i - 1) / 2 by omega), if_neg (show ¬ ((i - 1) / 2 - 1) / 2 = i by omega), if_neg (show ¬ j = (i - 1) / 2 by omega)]
    have hpp := h.el ((i - 1) / 2) h1 hp (by omega)
    by_cases e1 : j = i
    · rw [if_pos e1]; exact hpp
    · rw [if_neg e1]
      have := h.el j h2 hj e1
      rw [e] at this
      omega
theorem up_done {L : List It} {i : Nat} (h : UpH L i) (h0 : 0 < i → kAt L ((i - 1) / 2) ≤ kAt L i) : Heap L := by
  intro j h1 hj
  by_cases e : j = i
  · subst e; exact h0 h1
  · exact h.el j h1 hj e
theorem least {L : List It} (h : Heap L) : ∀ j, j < L.length → kAt L 0 ≤ kAt L j := by
  intro j
  induction j using Nat.strongRecOn with
  | _ j ih =>
    intro hj
    rcases Nat.eq_zero_or_pos j with rfl | hp
    · exact Int.le_refl _
    · have h1 := ih ((j - 1) / 2) (by omega) (by omega)
      have h2 := h j hp hj
      omega
theorem down_step {L : List It} {i c : Nat} (h : DownH L i) (hi : i < L.length) (hc : c < L.length) (hp : (c - 1) / 2 = i) (h0 : 0 < c) (hmin : ∀ j, 0 < j → j < L.length → (j - 1) / 2 = i → kAt L c ≤ kAt L j) (hlt : kAt L c < kAt L i) :
    DownH (swapL L i c) c := by
  refine ⟨fun j h1 hj hn => ?_, fun h1 j h2 hj e => ?_⟩
  · rw [swapL_len] at hj
    simp only [kAt_swap hi hc]
    rw [if_neg hn]
    by_cases e2 : (j - 1) / 2 = i
    · rw [if_pos e2]
      by_cases e1 : j = c
      · rw [if_pos e1]; omega
      · rw [if_neg e1, if_neg (show ¬ j = i by omega)]
        exact hmin j h1 hj e2
    · rw [if_neg e2, if_neg (show ¬ j = c from fun e => e2 (by rw [e]; exact hp))]
      by_cases e1 : j = i
      · rw [if_pos e1]
        subst e1
        exact h.gr h1 c h0 hc hp
      · rw [if_neg e1]; exact h.el j h1 hj e2
  · rw [swapL_len] at hj
    simp only [kAt_swap hi hc]
    rw [hp, if_neg (show ¬ i = c by omega), if_pos rfl, if_neg (show ¬ j = c by omega), if_neg (show ¬ j = i by omega)]
    have := h.el j h2 hj (by omega)
    rw [e] at this
    exact this
theorem down_done {L : List It} {i : Nat} (h : DownH L i) (hmin : ∀ j, 0 < j → j < L.length → (j - 1) / 2 = i → kAt L i ≤ kAt L j) : Heap L := by
  intro j h1 hj
  by_cases e : (j - 1) / 2 = i
  · rw [e]; exact hmin j h1 hj e
  · exact h.el j h1 hj e
theorem kAt_take {L : List It} {n i : Nat} (h : i < n) : kAt (L.take n) i = kAt L i := by
  simp [kAt, List.getD_eq_getElem?_getD, h]
/-- the last one is put first, and the list ends ahead of its place -/
def cutL (L : List It) : List It := (swapL L (L.length - 1) 0).take (L.length - 1)
theorem cutL_len (L : List It) : (cutL L).length = L.length - 1 := by simp [cutL, swapL_len]
theorem cutL_perm {L : List It} {x : It} (hx : L[0]? = some x) : (cutL L ++ [x]).Perm L := by
  have h0 : 0 < L.length := (List.getElem?_eq_some_iff.1 hx).1
  refine List.Perm.trans ?_ (swapL_perm (i := L.length - 1) (j := 0) (by omega) h0)
  have hlast : (swapL L (L.length - 1) 0)[L.length - 1]? = some x := by
    rw [swapL_get (by omega) h0]
    by_cases e : L.length - 1 = 0
    · rw [if_pos e, e, hx]
    · rw [if_neg e, if_pos rfl, hx]
  have : swapL L (L.length - 1) 0 = cutL L ++ [x] := by
    apply List.ext_getElem?
    intro m
    by_cases hm : m < L.length - 1
    · rw [List.getElem?_append_left (by rw [cutL_len]; exact hm), cutL, List.getElem?_take, if_pos hm]
    · by_cases he : m = L.length - 1
      · subst he
        rw [hlast, List.getElem?_append_right (by rw [cutL_len]; exact Nat.le_refl _), cutL_len]; simp
      · rw [List.getElem?_eq_none (by rw [swapL_len]; omega), List.getElem?_eq_none (by rw [List.length_append, cutL_len]; simp; omega)]
  rw [this]
theorem down_start {L : List It} (h : Heap L) (h0 : 0 < L.length) : DownH (cutL L) 0 := by
  refine ⟨fun j h1 hj hn => ?_, fun h => absurd h (Nat.lt_irrefl _)⟩
  rw [cutL_len] at hj
  unfold cutL
  rw [kAt_take (by omega), kAt_take hj, kAt_swap (by omega) h0, kAt_swap (by omega) h0, if_neg hn, if_neg (by omega), if_neg (by omega), if_neg (by omega)]
  exact h j h1 (by omega)

/-- taken out one after the other: the first ones, sorted -/
structure Got (L R rest : List It) : Prop where
  perm : (R ++ rest).Perm L
  sorted : ∀ (i j : Nat) (x y : It), i < j → R[i]? = some x → R[j]? = some y → x.key ≤ y.key
  less : ∀ x ∈ R, ∀ y ∈ rest, x.key ≤ y.key
  heap : Heap rest
  zero : R = [] → rest = L
  fst : ∀ x, R[0]? = some x → L[0]? = some x
theorem Got.start {L : List It} (h : Heap L) : Got L [] L := ⟨List.Perm.refl _, fun i j x y _ hx => by simp at hx, fun x hx => by simp at hx, h, fun _ => rfl, fun x hx => by simp at hx⟩
theorem heap_least {L : List It} (h : Heap L) {x : It} (hx : L[0]? = some x) : ∀ y ∈ L, x.key ≤ y.key := by
  intro y hy
  obtain ⟨j, hj⟩ := List.mem_iff_getElem?.1 hy
  have := least h j (List.getElem?_eq_some_iff.1 hj).1
  rw [kAt_eq hx, kAt_eq hj] at this
  exact this
theorem Got.step {L R rest rest' : List It} {x : It} (h : Got L R rest) (hx : rest[0]? = some x) (hp : (rest' ++ [x]).Perm rest) (hh : Heap rest') : Got L (R ++ [x]) rest' := by
  have hm : ∀ y ∈ rest', y ∈ rest := fun y hy => hp.mem_iff.1 (List.mem_append_left _ hy)
  have hxm : x ∈ rest := List.mem_of_getElem? hx
  refine ⟨?_, ?_, ?_, hh, fun e => by simp at e, fun y hy => ?_⟩
  · refine List.Perm.trans ?_ h.perm
    rw [List.append_assoc]
    exact List.Perm.append_left R (List.perm_append_comm.trans hp)
  · intro i j a b hij ha hb
    by_cases hj : j < R.length
    · rw [List.getElem?_append_left hj] at hb
      rw [List.getElem?_append_left (by omega)] at ha
      exact h.sorted i j a b hij ha hb
    · have hj' : j = R.length := by
        have := (List.getElem?_eq_some_iff.1 hb).1
        simp at this; omega
      subst hj'
      rw [List.getElem?_append_right (Nat.le_refl _), Nat.sub_self] at hb
      simp at hb
      subst hb
      rw [List.getElem?_append_left hij] at ha
      exact h.less a (List.mem_of_getElem? ha) x hxm
  · intro a ha b hb
    rcases List.mem_append.1 ha with ha | ha
    · exact h.less a ha b (hm b hb)
    · simp at ha
      subst ha
      exact heap_least h.heap hx b (hm b hb)
  · cases hR : R with
    | nil =>
      rw [hR] at hy
      have : y = x := by simpa using hy.symm
      rw [this, ← h.zero hR]; exact hx
    | cons z R' =>
      rw [hR] at hy
      exact h.fst y (by rw [hR]; simpa using hy)
end Go.Proofs.YtpddddjfjmipfaaDoor.pq
