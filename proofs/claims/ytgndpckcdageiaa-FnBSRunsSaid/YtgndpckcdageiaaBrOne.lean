/-
  impl.one; how long a step's bits are.
-/
import Derived.Test.YtgndpckcdageiaaBrInv
namespace Go.Proofs.Ytgndpckcdageiaa.bs
open Go.RowKit Go.Proofs.Ytgndpckcdageiaa.base Go.Proofs.Ytgndpckcdageiaa.heap Go.Proofs.Ytgndpckcdageiaa.bit
set_option linter.unusedVariables false
theorem one_q {w : World} {pa : Option Addr} {pc : Nat} {l : List O} {i : Nat} {o : O} (h : Own 45 1 w pa l.length pc (l.map O.ptr)) (hi : l[i]? = some o) (hn : l.length ≤ 1000) :
    Calls Try.prog 17 #[.slice pa l.length pc, .int .i64 (i : Int)] w (fun e w' => e = .returned o.ptr ∧ ∃ m, w' = w.drewN m) := by
  have hil := (List.getElem?_eq_some_iff.1 hi).1
  obtain ⟨b, hb, _, hc⟩ := h.at (by omega)
  have c0 := hc i o.ptr (by rw [List.getElem?_map, hi]; rfl)
  rw [Nat.zero_add] at c0
  obtain ⟨n, hnn⟩ : ∃ n, l.length = n := ⟨_, rfl⟩
  rw [hnn] at hil hn ⊢
  have e1 : Int.tmod (i : Int) (n : Int) = (i : Int) := by rw [Int.tmod_eq_emod_of_nonneg (by omega)]; exact Int.emod_eq_of_lt (by omega) (by omega)
  have e2 : (i : Int) % (n : Int) = (i : Int) := Int.emod_eq_of_lt (by omega) (by omega)
  have e3 : IntKind.i64.wrap ((i : Int) + (n : Int)) = (i : Int) + (n : Int) := IntWalk.i64_in _ (by omega)
  have e4 : Int.tmod ((i : Int) + (n : Int)) (n : Int) = (i : Int) := by rw [Int.tmod_eq_emod_of_nonneg (by omega), Int.add_emod_right]; exact e2
  have e5 : ((i : Int) + (n : Int)) % (n : Int) = (i : Int) := by rw [Int.add_emod_right]; exact e2
  have e6 : ((n : Int) == 0) = false := by rw [beq_eq_false_iff_ne]; omega
  have e7 : ¬ (n : Int) = 0 := by omega
  have e8 : (0 : Int) ≤ (i : Int) := by omega
  have e9 : (i : Int) < (n : Int) := by omega
  have e10 : ¬ n = 0 := by omega
  unfold O.ptr at *
  subst hb
  clear h hc hi hnn
  go_enter Try.func17, Try.ntmps17
  go_wp2_with fail
  go_ret
  exact ⟨rfl, 0, rfl⟩
theorem put_len (b : List Bool) (f t how : Nat) : (put b f t how).length ≤ max b.length t := by
  unfold put
  split
  · omega
  · rw [putL_len]
    split
    · omega
    · rw [grow_len]; omega
theorem next_len (o : Nat) (x y : List Bool) (A B n : Nat) (ho : OpK o) (hx : x.length ≤ n) (hy : y.length ≤ n) (hA : A < 600) (hB : B < 600) (h6 : 600 ≤ n) (hp : o = 8 ∨ o = 9 ∨ o = 10 → A < x.length) : (nextL o x y A B).length ≤ n + 1 := by
  unfold OpK at ho
  rcases ho with rfl | rfl | rfl | rfl | rfl | rfl | rfl | rfl | rfl | rfl | rfl | rfl | rfl | rfl | rfl
  · have := put_len x A (A + 1) 1; show (put x A (A + 1) 1).length ≤ _; omega
  · have := put_len x A (A + 1) 0; show (put x A (A + 1) 0).length ≤ _; omega
  · have := put_len x A (A + 1) 2; show (put x A (A + 1) 2).length ≤ _; omega
  · have := put_len x A B 1; show (put x A B 1).length ≤ _; omega
  · have := put_len x A B 2; show (put x A B 2).length ≤ _; omega
  · have := put_len x 0 x.length 0; show (put x 0 x.length 0).length ≤ _; omega
  · have := put_len x 0 x.length 1; show (put x 0 x.length 1).length ≤ _; omega
  · have := hp (.inl rfl); show (insertL x A).length ≤ _; rw [insertL_len _ _ (by omega)]; omega
  · have := hp (.inr (.inl rfl)); show (deleteL x A).length ≤ _; rw [deleteL_len _ _ this]; omega
  · show (x.take (A + 1)).length ≤ _; rw [List.length_take]; omega
  · show (twoL _ x y (max x.length y.length)).length ≤ _; rw [twoL_len]; omega
  · show (twoL (fun x y => x && !y) x y x.length).length ≤ _; rw [twoL_len]; omega
  · show (twoL _ x y (max x.length y.length)).length ≤ _; rw [twoL_len]; omega
  · show x.length ≤ _; omega
  · have := put_len x 0 x.length 2; show (put x 0 x.length 2).length ≤ _; omega
theorem after_short {n : Nat} {s : List (List Bool)} {t : BSt} (h : Short n s) (h6 : 600 ≤ n) (ht : OkS s t) : Short (n + 1) (after s t) := by
  have hl : (told s t).length ≤ n + 1 := next_len _ _ _ _ _ n ht.op (getD_short h _) (getD_short h _) ht.a ht.b h6 ht.place
  unfold after
  intro x hx
  split at hx
  · rcases List.mem_append.1 hx with hx | hx
    · have := h x hx; omega
    · rw [List.mem_singleton] at hx; subst hx; exact hl
  · rcases List.mem_or_eq_of_mem_set hx with hx | hx
    · have := h x hx; omega
    · subst hx; exact hl
theorem after_len (s : List (List Bool)) (t : BSt) : (after s t).length ≤ s.length + 1 ∧ s.length ≤ (after s t).length := by
  unfold after
  split
  · rw [List.length_append]; exact ⟨Nat.le_refl _, Nat.le_succ _⟩
  · rw [List.length_set]; omega
theorem afters_at {s : List (List Bool)} {T : List BSt} (h : OkTs s T) {n : Nat} (hs : Short n s) (h6 : 600 ≤ n) : ∀ j, j ≤ T.length → Short (n + j) (afters s (T.take j)) ∧ (afters s (T.take j)).length ≤ s.length + j
  | 0, _ => by simpa [afters] using hs
  | j + 1, hj => by
    obtain ⟨h1, h2⟩ := afters_at h hs h6 j (by omega)
    have ht : T[j]? = some (T[j]'(by omega)) := List.getElem?_eq_getElem _
    have e : T.take (j + 1) = T.take j ++ [T[j]'(by omega)] := by rw [List.take_add_one, ht]; rfl
    rw [e, afters_snoc]
    have h3 := after_short h1 (by omega) (h.at ht)
    have h4 := (after_len (afters s (T.take j)) (T[j]'(by omega))).1
    exact ⟨h3, by omega⟩
end Go.Proofs.Ytgndpckcdageiaa.bs
