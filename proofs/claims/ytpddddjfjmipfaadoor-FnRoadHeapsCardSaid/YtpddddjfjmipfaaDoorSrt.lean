/-
  Sorting by counting how many are less: plain facts, no program in sight.
-/
import Derived.WalkKit
namespace Go.Proofs.YtpddddjfjmipfaaDoor.srt

/-- among the first k elements those that come before the i-th one -/
def before (l : List Int) (i k : Nat) : Bool := decide (l.getD k 0 < l.getD i 0 ∨ (l.getD k 0 = l.getD i 0 ∧ k < i))
def rankTo (l : List Int) (i k : Nat) : Nat := (List.range k).countP (before l i)
def rank (l : List Int) (i : Nat) : Nat := rankTo l i l.length
theorem rankTo_succ (l : List Int) (i k : Nat) : rankTo l i (k + 1) = rankTo l i k + if before l i k then 1 else 0 := by
  unfold rankTo
  rw [List.range_succ, List.countP_append]
  simp [List.countP_cons]
theorem rankTo_le (l : List Int) (i k : Nat) : rankTo l i k ≤ k := by
  have := List.countP_le_length (p := before l i) (l := List.range k)
  simpa [rankTo] using this

theorem countP_le {α : Type} {p q : α → Bool} : ∀ l : List α, (∀ a ∈ l, p a = true → q a = true) → l.countP p ≤ l.countP q := by
  intro l
  induction l with
  | nil => intro _; simp
  | cons a r ih =>
    intro h
    have ih := ih (fun x hx => h x (by simp [hx]))
    have ha := h a (by simp)
    rw [List.countP_cons, List.countP_cons]
    cases hp : p a <;> cases hq : q a <;> simp_all <;> omega
theorem countP_lt {α : Type} {p q : α → Bool} : ∀ l : List α, (∀ a ∈ l, p a = true → q a = true) → (∃ a ∈ l, q a = true ∧ p a = false) → l.countP p < l.countP q := by
  intro l
  induction l with
  | nil => rintro _ ⟨a, ha, _⟩; simp at ha
  | cons a r ih =>
    rintro h ⟨b, hb, hq, hp⟩
    have hle := countP_le r (fun x hx => h x (by simp [hx]))
    have ha := h a (by simp)
    rw [List.countP_cons, List.countP_cons]
    rcases List.mem_cons.1 hb with rfl | hb
    · rw [hq, hp]; simp; omega
    · have ih := ih (fun x hx => h x (by simp [hx])) ⟨b, hb, hq, hp⟩
      cases hp' : p a <;> cases hq' : q a <;> simp_all <;> omega

theorem rank_mono {l : List Int} {i j : Nat} (hi : i < l.length) (h : before l j i = true) : rank l i < rank l j := by
  have hj : l.getD i 0 < l.getD j 0 ∨ (l.getD i 0 = l.getD j 0 ∧ i < j) := of_decide_eq_true h
  refine countP_lt _ (fun k _ hk => ?_) ⟨i, by simpa using hi, h, ?_⟩
  · have hk : l.getD k 0 < l.getD i 0 ∨ (l.getD k 0 = l.getD i 0 ∧ k < i) := of_decide_eq_true hk
    exact decide_eq_true (by omega)
  · exact decide_eq_false (by omega)
theorem before_total (l : List Int) {i j : Nat} (h : i ≠ j) : before l j i = true ∨ before l i j = true := by
  by_cases h1 : l.getD i 0 < l.getD j 0 ∨ (l.getD i 0 = l.getD j 0 ∧ i < j)
  · exact .inl (decide_eq_true h1)
  · exact .inr (decide_eq_true (by omega))
theorem rank_inj {l : List Int} {i j : Nat} (hi : i < l.length) (hj : j < l.length) (h : rank l i = rank l j) : i = j := by
  by_cases e : i = j
  · exact e
  · rcases before_total l e with h1 | h1
    · have := rank_mono hi h1; omega
    · have := rank_mono hj h1; omega
theorem rank_lt {l : List Int} {i : Nat} (hi : i < l.length) : rank l i < l.length := by
  have h : rank l i < (List.range l.length).countP (fun _ => true) :=
    countP_lt _ (fun _ _ _ => rfl) ⟨i, by simpa using hi, rfl, decide_eq_false (by omega)⟩
  simpa using h

/-- different numbers below n are at most n -/
theorem pigeon (n : Nat) : ∀ L : List Nat, L.Nodup → (∀ x ∈ L, x < n) → L.length ≤ n := by
  induction n with
  | zero =>
    intro L _ h
    cases L with
    | nil => simp
    | cons a r => have := h a (by simp); omega
  | succ n ih =>
    intro L hn h
    have h1 := ih (L.erase n) (hn.erase n) (fun x hx => by
      have h2 := List.mem_of_mem_erase hx
      have h3 := h x h2
      have h4 : x ≠ n := fun e => by
        rw [hn.erase_eq_filter] at hx
        have := (List.mem_filter.1 hx).2
        simp [e] at this
      omega)
    have h5 := List.length_erase (l := L) (a := n)
    split at h5 <;> omega
theorem all_met {n : Nat} {L : List Nat} (hn : L.Nodup) (hl : L.length = n) (h : ∀ x ∈ L, x < n) {p : Nat} (hp : p < n) : p ∈ L := by
  by_cases hm : p ∈ L
  · exact hm
  · have := pigeon n (p :: L) (List.nodup_cons.2 ⟨hm, hn⟩) (fun x hx => by
      rcases List.mem_cons.1 hx with rfl | hx
      · exact hp
      · exact h x hx)
    simp at this
    omega

def ranks (l : List Int) : List Nat := (List.range l.length).map (rank l)
theorem ranks_nodup (l : List Int) : (ranks l).Nodup := by
  unfold ranks
  rw [List.nodup_iff_pairwise_ne, List.pairwise_map]
  refine List.Pairwise.imp_of_mem (R := (· ≠ ·)) ?_ List.nodup_range
  intro a b ha hb hab h
  exact hab (rank_inj (by simpa using ha) (by simpa using hb) h)
theorem ranks_met (l : List Int) {p : Nat} (hp : p < l.length) : ∃ i, i < l.length ∧ rank l i = p := by
  have h := all_met (ranks_nodup l) (by simp [ranks]) (fun x hx => by
    obtain ⟨i, hi, rfl⟩ := List.mem_map.1 hx
    exact rank_lt (by simpa using hi)) hp
  obtain ⟨i, hi, rfl⟩ := List.mem_map.1 h
  exact ⟨i, by simpa using hi, rfl⟩
theorem ranks_perm (l : List Int) : (ranks l).Perm (List.range l.length) := by
  rw [List.perm_ext_iff_of_nodup (ranks_nodup l) List.nodup_range]
  intro a
  constructor
  · intro h
    obtain ⟨i, hi, rfl⟩ := List.mem_map.1 h
    simpa using rank_lt (by simpa using hi)
  · intro h
    obtain ⟨i, hi, rfl⟩ := ranks_met l (p := a) (by simpa using h)
    exact List.mem_map.2 ⟨i, by simpa using hi, rfl⟩

/-- the list behind m rounds -/
def place (l : List Int) : Nat → List Int
  | 0 => List.replicate l.length 0
  | m + 1 => (place l m).set (rank l m) (l.getD m 0)
theorem place_length (l : List Int) (m : Nat) : (place l m).length = l.length := by
  induction m with
  | zero => simp [place]
  | succ m ih => simp [place, ih]
theorem place_get (l : List Int) (m : Nat) (hm : m ≤ l.length) : ∀ j, j < m → (place l m).getD (rank l j) 0 = l.getD j 0 := by
  induction m with
  | zero => intro j hj; omega
  | succ m ih =>
    intro j hj
    simp only [place, List.getD_eq_getElem?_getD, List.getElem?_set, place_length]
    by_cases h : j = m
    · subst h
      rw [if_pos rfl, if_pos (rank_lt (by omega))]; rfl
    · rw [if_neg (fun e => h (rank_inj (by omega) (by omega) e.symm))]
      have := ih (by omega) j (by omega)
      rw [List.getD_eq_getElem?_getD, List.getD_eq_getElem?_getD] at this
      exact this
def isort (l : List Int) : List Int := place l l.length
theorem isort_length (l : List Int) : (isort l).length = l.length := place_length l _
theorem isort_get {l : List Int} {j : Nat} (hj : j < l.length) : (isort l).getD (rank l j) 0 = l.getD j 0 := place_get l _ (Nat.le_refl _) j hj

theorem map_getD (l : List Int) : (List.range l.length).map (fun i => l.getD i 0) = l := by
  apply List.ext_getElem
  · simp
  · intro i h1 h2
    simp at h1
    simp [h1]
theorem isort_perm (l : List Int) : (isort l).Perm l := by
  have h1 : ((ranks l).map fun p => (isort l).getD p 0) = l := by
    unfold ranks
    rw [List.map_map]
    conv => rhs; rw [← map_getD l]
    refine List.map_congr_left (fun i hi => ?_)
    exact isort_get (by simpa using hi)
  have h2 : ((List.range l.length).map fun p => (isort l).getD p 0) = isort l := by
    have := map_getD (isort l)
    rwa [isort_length] at this
  have h3 := (ranks_perm l).map (fun p => (isort l).getD p 0)
  rw [h1, h2] at h3
  exact h3.symm
def Sorted (l : List Int) : Prop := l.Pairwise (· ≤ ·)
theorem isort_sorted (l : List Int) : Sorted (isort l) := by
  unfold Sorted
  rw [List.pairwise_iff_getElem]
  intro p q hp hq hpq
  rw [isort_length] at hp hq
  obtain ⟨i, hi, rfl⟩ := ranks_met l hp
  obtain ⟨j, hj, rfl⟩ := ranks_met l hq
  have h1 := isort_get hi
  have h2 := isort_get hj
  rw [List.getD_eq_getElem?_getD, List.getElem?_eq_getElem (by rw [isort_length]; exact hp)] at h1
  rw [List.getD_eq_getElem?_getD, List.getElem?_eq_getElem (by rw [isort_length]; exact hq)] at h2
  simp only [Option.getD_some] at h1 h2
  rw [h1, h2]
  by_cases hle : l.getD i 0 ≤ l.getD j 0
  · exact hle
  · have := rank_mono (l := l) (i := j) (j := i) hj (decide_eq_true (by omega))
    omega
theorem isort_unique {l s : List Int} (hp : s.Perm l) (hs : Sorted s) : s = isort l :=
  List.Perm.eq_of_pairwise (le := (· ≤ ·)) (fun _ _ _ _ h h' => Int.le_antisymm h h') hs (isort_sorted l) (hp.trans (isort_perm l).symm)

theorem sorted_le {s : List Int} (hs : Sorted s) {i j : Nat} (hij : i ≤ j) (hj : j < s.length) : s.getD i 0 ≤ s.getD j 0 := by
  rcases Nat.lt_or_eq_of_le hij with h | rfl
  · have := (List.pairwise_iff_getElem.1 hs) i j (by omega) hj h
    simpa [hj, show i < s.length by omega] using this
  · exact Int.le_refl _
/-- a number is put at its place -/
theorem insert_sorted {s : List Int} {x : Int} {i : Nat} (hs : Sorted s) (h1 : ∀ k, k < i → s.getD k 0 < x) (h2 : ∀ k, i ≤ k → k < s.length → x ≤ s.getD k 0) (hi : i ≤ s.length) :
    s.take i ++ x :: s.drop i = isort (s ++ [x]) := by
  refine isort_unique ?_ ?_
  · have e : s ++ [x] = (s.take i ++ s.drop i) ++ [x] := by rw [List.take_append_drop]
    rw [e, List.append_assoc]
    exact List.Perm.append_left _ (List.perm_append_comm (l₁ := [x]))
  · unfold Sorted at *
    rw [List.pairwise_append]
    have hm1 : ∀ a ∈ s.take i, a < x := fun a ha => by
      obtain ⟨k, hk, rfl⟩ := List.mem_iff_getElem.1 ha
      simp at hk
      have hk2 : k < s.length := by omega
      have := h1 k (by omega)
      simpa [hk2] using this
    have hm2 : ∀ b ∈ s.drop i, x ≤ b := fun b hb => by
      obtain ⟨k, hk, rfl⟩ := List.mem_iff_getElem.1 hb
      simp at hk
      have := h2 (i + k) (by omega) (by omega)
      simpa [show i + k < s.length by omega] using this
    refine ⟨hs.sublist (List.take_sublist _ _), List.pairwise_cons.2 ⟨hm2, hs.sublist (List.drop_sublist _ _)⟩, fun a ha b hb => ?_⟩
    rcases List.mem_cons.1 hb with rfl | hb
    · exact Int.le_of_lt (hm1 a ha)
    · exact Int.le_trans (Int.le_of_lt (hm1 a ha)) (hm2 b hb)
end Go.Proofs.YtpddddjfjmipfaaDoor.srt
