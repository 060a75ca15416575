/-
  Plain law of rings: nodes that are linked in a circle, forth by nx and back by pv.
-/
import Derived.Test.YtpddddjfjmipfaaFlt
namespace Go.Proofs.Ytpddddjfjmipfaa.fh
set_option linter.unusedVariables false

/-- a function with one value turned -/
def put {α : Type} (g : Nat → α) (x : Nat) (v : α) : Nat → α := fun u => if u = x then v else g u
section
variable {α : Type} {g : Nat → α} {x y u : Nat} {v : α}
theorem put_same : put g x v x = v := if_pos rfl
theorem put_other (h : u ≠ x) : put g x v u = g u := if_neg h
end
def Lnk (nx pv : Nat → Nat) (a b : Nat) : Prop := nx a = b ∧ pv b = a
/-- from a through l to b -/
def Path (nx pv : Nat → Nat) : Nat → List Nat → Nat → Prop
  | a, [], b => Lnk nx pv a b
  | a, c :: l, b => Lnk nx pv a c ∧ Path nx pv c l b
/-- the nodes of L stand in a ring -/
def Ring (nx pv : Nat → Nat) : List Nat → Prop
  | [] => True
  | x :: l => Path nx pv x l x
section
variable {nx pv nx' pv' : Nat → Nat} {a b c x y : Nat} {l m : List Nat}
theorem path_append : ∀ {l : List Nat} {a : Nat}, Path nx pv a (l ++ c :: m) b ↔ Path nx pv a l c ∧ Path nx pv c m b
  | [], a => Iff.rfl
  | d :: l, a => by
    show (Lnk nx pv a d ∧ Path nx pv d (l ++ c :: m) b) ↔ (Lnk nx pv a d ∧ Path nx pv d l c) ∧ _
    rw [path_append (l := l), and_assoc]
theorem path_congr : ∀ {l : List Nat} {a : Nat}, Path nx pv a l b → (∀ u, u = a ∨ u ∈ l → nx' u = nx u) → (∀ v, v ∈ l ∨ v = b → pv' v = pv v) → Path nx' pv' a l b
  | [], a, h, h1, h2 => ⟨(h1 a (.inl rfl)).trans h.1, (h2 b (.inr rfl)).trans h.2⟩
  | d :: l, a, h, h1, h2 => ⟨⟨(h1 a (.inl rfl)).trans h.1.1, (h2 d (.inl (by simp))).trans h.1.2⟩, path_congr h.2 (fun u hu => h1 u (.inr (by
      rcases hu with rfl | hu
      · simp
      · simp [hu]))) (fun v hv => h2 v (by
      rcases hv with hv | rfl
      · exact .inl (by simp [hv])
      · exact .inr rfl))⟩
theorem ring_rot (h : Ring nx pv (l ++ c :: m)) : Ring nx pv (c :: m ++ l) := by
  cases l with
  | nil => simpa using h
  | cons x l =>
    have h1 : Path nx pv x (l ++ c :: m) x := h
    have h2 := path_append.1 h1
    show Path nx pv c (m ++ x :: l) c
    exact path_append.2 ⟨h2.2, h2.1⟩
theorem path_first (h : Path nx pv a l b) : nx a = (l ++ [b]).head (by simp) := by
  cases l with
  | nil => exact h.1
  | cons d l => exact h.1.1
theorem path_nx_mem (h : Path nx pv a l b) : nx a ∈ l ∨ nx a = b := by
  cases l with
  | nil => exact .inr h.1
  | cons d l => exact .inl (by rw [h.1.1]; simp)
theorem path_pv_mem : ∀ {l : List Nat} {a : Nat}, Path nx pv a l b → pv b = a ∨ pv b ∈ l
  | [], a, h => .inl h.2
  | d :: l, a, h => by
    rcases path_pv_mem h.2 with h1 | h1
    · exact .inr (by rw [h1]; simp)
    · exact .inr (by simp [h1])
theorem ring_nx_mem : ∀ {L : List Nat}, Ring nx pv L → ∀ u ∈ L, nx u ∈ L := fun {L} h u hu => by
  obtain ⟨l, m, rfl⟩ := List.append_of_mem hu
  have h1 : Path nx pv u (m ++ l) u := ring_rot h
  rcases path_nx_mem h1 with h2 | h2
  · simp at h2 ⊢; rcases h2 with h2 | h2 <;> simp [h2]
  · rw [h2]; exact hu
theorem ring_pv_mem : ∀ {L : List Nat}, Ring nx pv L → ∀ u ∈ L, pv u ∈ L := fun {L} h u hu => by
  obtain ⟨l, m, rfl⟩ := List.append_of_mem hu
  have h1 : Path nx pv u (m ++ l) u := ring_rot h
  rcases path_pv_mem h1 with h2 | h2
  · rw [h2]; exact hu
  · simp at h2 ⊢; rcases h2 with h2 | h2 <;> simp [h2]
theorem ring_alone (h : Ring nx pv (x :: l)) (hn : (x :: l).Nodup) : nx x = x ↔ l = [] := by
  have h1 : Path nx pv x l x := h
  constructor
  · intro e
    cases l with
    | nil => rfl
    | cons d l =>
      have e2 : nx x = d := h1.1.1
      rw [e] at e2
      subst e2
      simp at hn
  · rintro rfl
    exact h1.1
theorem ring_congr {L : List Nat} (h : Ring nx pv L) (h1 : ∀ u ∈ L, nx' u = nx u) (h2 : ∀ u ∈ L, pv' u = pv u) : Ring nx' pv' L := by
  cases L with
  | nil => trivial
  | cons x l =>
    refine path_congr (show Path nx pv x l x from h) (fun u hu => h1 u ?_) (fun v hv => h2 v ?_)
    · rcases hu with rfl | hu <;> simp [*]
    · rcases hv with hv | rfl <;> simp [*]

/-- one half of two rings becoming one -/
theorem merge_half (h : Path nx pv y l y) (hn : (y :: l).Nodup) (hx : x ∉ y :: l) (k1 : nx' x = nx y) (k2 : pv' (nx y) = x) (k3 : ∀ u, u ≠ x → u ≠ y → nx' u = nx u) (k4 : ∀ v, v ∈ y :: l → v ≠ nx y → pv' v = pv v) : Path nx' pv' x l y := by
  cases l with
  | nil => exact ⟨by rw [k1]; exact h.1, by rw [← k2]; congr 1; exact h.1.symm⟩
  | cons d l =>
    have e : nx y = d := h.1.1
    rw [e] at k1 k2 k4
    simp only [List.nodup_cons, List.mem_cons, not_or] at hn hx
    refine ⟨⟨k1, k2⟩, path_congr h.2 (fun u hu => k3 u ?_ ?_) (fun v hv => k4 v ?_ ?_)⟩
    · rintro rfl
      rcases hu with rfl | hu
      · exact hx.2.1 rfl
      · exact hx.2.2 hu
    · rintro rfl
      rcases hu with rfl | hu
      · exact hn.1.1 rfl
      · exact hn.1.2 hu
    · rcases hv with hv | rfl <;> simp [*]
    · rintro rfl
      rcases hv with hv | rfl
      · exact hn.2.1 hv
      · exact hn.1.1 rfl
theorem ring_merge (h1 : Ring nx pv (x :: l)) (h2 : Ring nx pv (y :: m)) (hn : (x :: l ++ y :: m).Nodup) (k1 : nx' x = nx y) (k2 : nx' y = nx x) (k3 : ∀ u, u ≠ x → u ≠ y → nx' u = nx u)
    (k4 : pv' (nx y) = x) (k5 : pv' (nx x) = y) (k6 : ∀ v, v ≠ nx x → v ≠ nx y → pv' v = pv v) : Ring nx' pv' (x :: m ++ y :: l) := by
  have hn2 := List.nodup_append.1 hn
  have hxy : x ∉ y :: m := fun h => hn2.2.2 x (by simp) x h rfl
  have hyx : y ∉ x :: l := fun h => hn2.2.2 y h y (by simp) rfl
  have nx1 : nx x ∈ x :: l := ring_nx_mem h1 x (by simp)
  have nx2 : nx y ∈ y :: m := ring_nx_mem h2 y (by simp)
  show Path nx' pv' x (m ++ y :: l) x
  refine path_append.2 ⟨merge_half h2 hn2.2.1 hxy k1 k4 k3 (fun v hv hne => k6 v (fun e => hn2.2.2 _ nx1 _ hv e.symm) hne), merge_half h1 hn2.1 hyx k2 k5 (fun u a b => k3 u b a) (fun v hv hne => k6 v hne (fun e => hn2.2.2 _ hv _ nx2 e))⟩
theorem path_end : ∀ {l : List Nat} {a : Nat}, Path nx pv a l x → (a :: l).Nodup → x ∉ a :: l → (∀ u, u ≠ x → u ≠ pv x → nx' u = nx u) → (∀ v, v ∈ l → pv' v = pv v) → nx' (pv x) = b → pv' b = pv x → Path nx' pv' a l b
  | [], a, h, hn, hx, k1, k2, k3, k4 => by
    have e : pv x = a := h.2
    exact ⟨by rw [← e]; exact k3, by rw [k4, e]⟩
  | d :: l, a, h, hn, hx, k1, k2, k3, k4 => by
    simp only [List.nodup_cons, List.mem_cons, not_or] at hn hx
    have hm : pv x ∈ d :: l := by
      rcases path_pv_mem h.2 with h1 | h1
      · simp [h1]
      · simp [h1]
    have hne : a ≠ pv x := by
      rintro e
      rw [← e] at hm
      rcases List.mem_cons.1 hm with rfl | hm
      · exact hn.1.1 rfl
      · exact hn.1.2 hm
    refine ⟨⟨(k1 a (fun e => hx.1 e.symm) hne).trans h.1.1, (k2 d (by simp)).trans h.1.2⟩, path_end h.2 (by simp [hn]) (by simp [hx]) k1 (fun v hv => k2 v (by simp [hv])) k3 k4⟩
/-- a node is taken out of a ring -/
theorem ring_out (h : Ring nx pv (x :: l)) (hn : (x :: l).Nodup) (hl : l ≠ []) (k1 : nx' (pv x) = nx x) (k2 : pv' (nx x) = pv x) (k3 : ∀ u, u ≠ x → u ≠ pv x → nx' u = nx u) (k4 : ∀ v, v ≠ x → v ≠ nx x → pv' v = pv v) : Ring nx' pv' l := by
  cases l with
  | nil => exact absurd rfl hl
  | cons d l =>
    have h1 : Lnk nx pv x d ∧ Path nx pv d l x := h
    have e : nx x = d := h1.1.1
    rw [e] at k1 k2 k4
    simp only [List.nodup_cons, List.mem_cons, not_or] at hn
    refine path_end h1.2 (by simp [hn]) (by simp [hn]) k3 (fun v hv => k4 v ?_ ?_) k1 k2
    · rintro rfl; exact hn.1.2 hv
    · rintro rfl; exact hn.2.1 hv
theorem ring_single (h1 : nx x = x) (h2 : pv x = x) : Ring nx pv [x] := ⟨h1, h2⟩
end
end Go.Proofs.Ytpddddjfjmipfaa.fh
