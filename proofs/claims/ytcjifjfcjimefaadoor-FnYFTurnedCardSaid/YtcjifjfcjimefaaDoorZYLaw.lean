/-
  Entries that are turned: plain.
-/
import Derived.Test.YtcjifjfcjimefaaDoorZYPlain
import Derived.Test.YtcjifjfcjimefaaDoorZXfLaw
namespace Go.Proofs.YtcjifjfcjimefaaDoor.xf
open Go.RowKit Go.Proofs.YtcjifjfcjimefaaDoor.base Go.Proofs.YtcjifjfcjimefaaDoor.heap Go.Proofs.YtcjifjfcjimefaaDoor.rows
set_option linter.unusedVariables false

/-- entries, each key once with its first entry -/
def once (q : List It) : List It := q.foldl (fun out y => if out.any (fun t => t.1 == y.1) then out else out ++ [y]) []
theorem once_snoc (q : List It) (y : It) : once (q ++ [y]) = if (once q).any (fun t => t.1 == y.1) then once q else once q ++ [y] := by unfold once; rw [List.foldl_append]; rfl
theorem once_le (q : List It) : (once q).length ≤ q.length := by
  have key : ∀ (n : Nat) (q : List It), q.length = n → (once q).length ≤ n := by
    intro n
    induction n with
    | zero => intro q hq; rw [List.eq_nil_of_length_eq_zero hq]; exact Nat.le_refl _
    | succ n ih =>
      intro q hq
      obtain ⟨r, y, rfl⟩ : ∃ r y, q = r ++ [y] := ⟨q.dropLast, q.getLast (by intro e; simp [e] at hq), (List.dropLast_concat_getLast _).symm⟩
      have hr : r.length = n := by simp at hq; omega
      have := ih r hr
      rw [once_snoc]
      split
      · omega
      · simp; omega
  exact key _ q rfl
theorem snoc_ind {p : List It → Prop} (h0 : p []) (hs : ∀ q y, p q → p (q ++ [y])) : ∀ q, p q := by
  have key : ∀ (n : Nat) (q : List It), q.length = n → p q := by
    intro n
    induction n with
    | zero => intro q hq; rw [List.eq_nil_of_length_eq_zero hq]; exact h0
    | succ n ih =>
      intro q hq
      obtain ⟨r, y, rfl⟩ : ∃ r y, q = r ++ [y] := ⟨q.dropLast, q.getLast (by intro e; simp [e] at hq), (List.dropLast_concat_getLast _).symm⟩
      exact hs r y (ih r (by simp at hq; omega))
  exact fun q => key _ q rfl
theorem mem_once : ∀ (q : List It) (z : It), z ∈ once q ↔ q.find? (fun t => t.1 == z.1) = some z := by
  refine snoc_ind (fun z => by simp [once]) (fun q y ih z => ?_)
  rw [once_snoc, List.find?_append]
  by_cases h : (once q).any (fun t => t.1 == y.1) = true
  · rw [if_pos h, ih]
    obtain ⟨t, ht, hty⟩ := List.any_eq_true.1 h
    have hty' : t.1 = y.1 := by simpa using hty
    have hqt := (ih t).1 ht
    rw [hty'] at hqt
    cases hf : q.find? (fun t => t.1 == z.1) with
    | some u => simp
    | none =>
      by_cases e : y.1 = z.1
      · rw [e] at hqt; rw [hf] at hqt; cases hqt
      · have : ¬ (y.1 == z.1) = true := by simpa using e
        simp [this]
  · rw [if_neg h, List.mem_append, List.mem_singleton, ih]
    have hn : ∀ t ∈ once q, t.1 ≠ y.1 := fun t ht e => h (List.any_eq_true.2 ⟨t, ht, by simp [e]⟩)
    cases hf : q.find? (fun t => t.1 == z.1) with
    | some u =>
      have hu1 : u.1 = z.1 := by have := List.find?_some hf; simpa using this
      have hu : u ∈ once q := (ih u).2 (by rw [hu1]; exact hf)
      constructor
      · rintro (e | e)
        · simpa using e
        · subst e
          exact absurd hu1 (hn u hu)
      · intro e
        left
        simpa using e
    | none =>
      constructor
      · rintro (e | e)
        · cases e
        · subst e; simp
      · intro e
        right
        by_cases e2 : y.1 = z.1
        · simp [e2] at e; exact e.symm
        · simp [e2] at e
theorem once_keys : ∀ q : List It, (once q).Pairwise fun a b => a.1 ≠ b.1 := by
  refine snoc_ind (by simp [once]) (fun q y ih => ?_)
  rw [once_snoc]
  split
  · exact ih
  · rename_i h
    refine List.pairwise_append.2 ⟨ih, List.pairwise_singleton _ _, fun a ha b hb => ?_⟩
    rw [List.mem_singleton] at hb
    subst hb
    exact fun e => h (List.any_eq_true.2 ⟨a, ha, by simp [e]⟩)
theorem puts_nil_asc (q : List It) : Asc (puts [] q) := puts_asc List.Pairwise.nil q
theorem mem_puts : ∀ (q : List It) (z : It), z ∈ puts [] q ↔ q.reverse.find? (fun t => t.1 == z.1) = some z := by
  refine snoc_ind (fun z => by simp [puts]) (fun q y ih z => ?_)
  rw [puts_snoc, put_mem (puts_nil_asc q), List.reverse_append, ih]
  show _ ↔ (y :: q.reverse).find? _ = some z
  by_cases e : y.1 = z.1
  · rw [List.find?_cons_of_pos (by simp [e])]
    constructor
    · rintro (h | ⟨h, _⟩)
      · rw [h]
      · exact absurd e.symm h
    · intro h
      cases h
      exact .inl rfl
  · rw [List.find?_cons_of_neg (by simp [e])]
    constructor
    · rintro (h | ⟨_, h⟩)
      · rw [h] at e; exact absurd rfl e
      · exact h
    · intro h
      exact .inr ⟨fun e2 => e e2.symm, h⟩
theorem mem_puts_once : ∀ (q : List It), (q.Pairwise fun a b => a.1 ≠ b.1) → ∀ z, z ∈ puts [] q ↔ z ∈ q := by
  refine snoc_ind (fun _ z => by simp [puts]) (fun q y ih h z => ?_)
  obtain ⟨h1, _, h2⟩ := List.pairwise_append.1 h
  rw [puts_snoc, put_mem (puts_nil_asc q), ih h1, List.mem_append, List.mem_singleton]
  constructor
  · rintro (e | ⟨_, e⟩)
    · exact .inr e
    · exact .inl e
  · rintro (e | e)
    · exact .inr ⟨h2 z e y (List.mem_singleton.2 rfl), e⟩
    · exact .inl e
theorem asc_ext : ∀ {A B : List It}, Asc A → Asc B → (∀ z, z ∈ A ↔ z ∈ B) → A = B
  | [], [], _, _, _ => rfl
  | [], b :: B, _, _, h => absurd ((h b).2 (List.mem_cons_self ..)) List.not_mem_nil
  | a :: A, [], _, _, h => absurd ((h a).1 (List.mem_cons_self ..)) List.not_mem_nil
  | a :: A, b :: B, ha, hb, h => by
    obtain ⟨a1, a2⟩ := List.pairwise_cons.1 ha
    obtain ⟨b1, b2⟩ := List.pairwise_cons.1 hb
    have e : a = b := by
      rcases List.mem_cons.1 ((h a).1 (List.mem_cons_self ..)) with e | e
      · exact e
      · rcases List.mem_cons.1 ((h b).2 (List.mem_cons_self ..)) with e2 | e2
        · exact e2.symm
        · have := b1 a e; have := a1 b e2; omega
    subst e
    rw [asc_ext a2 b2 (fun z => ?_)]
    have := h z
    constructor
    · intro hz
      rcases List.mem_cons.1 ((h z).1 (List.mem_cons_of_mem _ hz)) with e | e
      · subst e; have := a1 z hz; omega
      · exact e
    · intro hz
      rcases List.mem_cons.1 ((h z).2 (List.mem_cons_of_mem _ hz)) with e | e
      · subst e; have := b1 z hz; omega
      · exact e
/-- turned round, and each key once, the entries make the same list -/
theorem puts_once (l : List It) : puts [] (once l.reverse) = puts [] l :=
  asc_ext (puts_nil_asc _) (puts_nil_asc _) (fun z => by rw [mem_puts_once _ (once_keys _), mem_once, mem_puts])
end Go.Proofs.YtcjifjfcjimefaaDoor.xf
