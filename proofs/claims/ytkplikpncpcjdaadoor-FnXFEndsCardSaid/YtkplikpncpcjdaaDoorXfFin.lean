/-
  The steps of the law of the ends: what they read, what their answers say.
-/
import Derived.Test.YtkplikpncpcjdaaDoorXfOnes
import Derived.Test.YtkplikpncpcjdaaDoorXfLaw
namespace Go.Proofs.YtkplikpncpcjdaaDoor.xf
open Go.RowKit Go.Proofs.YtkplikpncpcjdaaDoor.base Go.Proofs.YtkplikpncpcjdaaDoor.heap Go.Proofs.YtkplikpncpcjdaaDoor.rows
set_option linter.unusedVariables false

/-- a step that asks -/
def askS (op : Int) (k : Nat) : Stp := ⟨op, none, 0, 0, [], some ⟨k, 0, none⟩, 1, 1, [0]⟩
theorem Ones.fin {w0 w5 w8 : World} {l : List It} {a5 a8 : Option Addr} {n c5 c8 m : Nat} {S : List Stp} {o : Obj} (h : Ones w0 w5 l a5 n c5 S) (hl : ∀ y ∈ l, y.1 < 2 ^ m)
    (hG : Grew 36 3 (((w5.alloc (.cells #[.int .u64 0] 25)).alloc (.cells #[.int .u64 0] 25)).alloc o) w8 a5 a8 2 (n + 2) c5 c8 (S.flatMap stc ++ (stc (askS 6 w5.heap.size) ++ stc (askS 7 (w5.heap.size + 1))))) :
    RS stc 3 w8 a8 (n + 2) c8 (S ++ [askS 6 w5.heap.size, askS 7 (w5.heap.size + 1)]) ∧ (∀ s ∈ S ++ [askS 6 w5.heap.size, askS 7 (w5.heap.size + 1)], Okay m s ∧ StIn w8 s) ∧ Same w0 w8 := by
  have hs1 : Same w5 (w5.alloc (.cells #[.int .u64 0] 25)) := (Only.refl _ _).alloc _
  have hs2 : Same (w5.alloc (.cells #[.int .u64 0] 25)) ((w5.alloc (.cells #[.int .u64 0] 25)).alloc (.cells #[.int .u64 0] 25)) := (Only.refl _ _).alloc _
  have hs3 : Same ((w5.alloc (.cells #[.int .u64 0] 25)).alloc (.cells #[.int .u64 0] 25)) (((w5.alloc (.cells #[.int .u64 0] 25)).alloc (.cells #[.int .u64 0] 25)).alloc o) := (Only.refl _ _).alloc _
  have z1 : (w5.alloc (.cells #[.int .u64 0] 25)).heap.size = w5.heap.size + 1 := by simp
  have hoa : ∀ k, At a5 k → k < w5.heap.size := h.row.row.1.lt
  have hln : S.length = n := h.row.row.2
  have hsame : Same w0 w8 := new_only (h.row.same.trans ((hs1.trans hs2).trans hs3)) hG.only h.row.new
  have hm : 0 < 2 ^ m := Nat.two_pow_pos m
  have hkey : ∀ (w : World), RL uv (w.alloc (.cells #[.int .u64 0] 25)) (some ⟨w.heap.size, 0, none⟩) 1 1 [0] := fun w => ⟨(Own.made 25 1 w #[.int .u64 0] 1 1 (Nat.le_refl _) (by unfold maxLen; omega) rfl (by simp [Value.oneCell'])).rd, rfl⟩
  refine ⟨⟨?_, by simp [hln]⟩, fun s hs => ?_, hsame⟩
  · have := hG.own.rd
    rw [List.flatMap_append]
    simpa using this
  · rcases List.mem_append.1 hs with hs | hs
    · obtain ⟨i, hi⟩ := List.getElem?_of_mem hs
      obtain ⟨g1, ⟨y, g2, g3⟩, g4, g5⟩ := h.stp i s hi
      obtain ⟨k1, k2⟩ := h.key i s hi
      refine ⟨⟨.inl g1, by rw [g3]; simp, fun z hz => ?_, by rw [g4]; exact hm⟩, g5.still hsame, ?_⟩
      · rw [g3, List.mem_singleton] at hz
        subst hz
        exact hl _ (List.mem_of_getElem? g2)
      · rw [g4]
        exact (((k1.still hs1).still hs2).still hs3).keep hG.only (fun k hk => (k2 k hk).2.2)
    · have hs' : s = askS 6 w5.heap.size ∨ s = askS 7 (w5.heap.size + 1) := by simpa using hs
      rcases hs' with rfl | rfl
      · refine ⟨⟨by simp [askS], by simp [askS], fun z hz => by simp [askS] at hz, by simp [askS, hm]⟩, RS.nil _ _ _, ?_⟩
        exact ((((hkey w5)).still hs2).still hs3).keep hG.only (fun k hk ha => by
          have e : w5.heap.size = k := hk
          have := hoa k ha; omega)
      · refine ⟨⟨by simp [askS], by simp [askS], fun z hz => by simp [askS] at hz, by simp [askS, hm]⟩, RS.nil _ _ _, ?_⟩
        have hk2 := hkey (w5.alloc (.cells #[.int .u64 0] 25))
        rw [z1] at hk2
        exact (hk2.still hs3).keep hG.only (fun k hk ha => by
          have e : w5.heap.size + 1 = k := hk
          have := hoa k ha; omega)
theorem runL_ones {l : List It} {S : List Stp} (hl : S.length = l.length) (h : ∀ (i : Nat) (s : Stp), S[i]? = some s → s.op = 1 ∧ ∃ y, l[i]? = some y ∧ s.I = [y]) : runL S = puts [] l := by
  have key : ∀ k, k ≤ l.length → runL (S.take k) = puts [] (l.take k) := by
    intro k
    induction k with
    | zero => intro _; rfl
    | succ k ih =>
      intro hk
      have hS : S[k]? = some S[k] := List.getElem?_eq_getElem (by omega)
      obtain ⟨h1, y, h2, h3⟩ := h k _ hS
      rw [take_snoc S k _ hS, take_snoc l k y h2, runL_snoc, puts_snoc, ih (by omega)]
      unfold nxt
      rw [if_pos h1, h3]
      rfl
  have := key l.length (Nat.le_refl _)
  rwa [List.take_of_length_le (by omega), List.take_of_length_le (Nat.le_refl _)] at this
/-- what the last two answers hold -/
theorem ends_said {l : List It} {S : List Stp} {As : List An} {x : It} {r : List It} {k6 k7 : Nat} (hl : S.length = l.length) (h : ∀ (i : Nat) (s : Stp), S[i]? = some s → s.op = 1 ∧ ∃ y, l[i]? = some y ∧ s.I = [y]) (hx : l = x :: r)
    (hR : Ran (S ++ [askS 6 k6, askS 7 k7]) As) : ∃ y z, As[l.length]? = some y ∧ As[l.length + 1]? = some z ∧ y.L = [least x r] ∧ z.L = [most x r] := by
  obtain ⟨h1, h2⟩ := hR
  have hlen : As.length = l.length + 2 := by rw [h1]; simp [hl]
  have e6 : (S ++ [askS 6 k6, askS 7 k7])[l.length]? = some (askS 6 k6) := by rw [List.getElem?_append_right (by omega), hl]; simp
  have e7 : (S ++ [askS 6 k6, askS 7 k7])[l.length + 1]? = some (askS 7 k7) := by rw [List.getElem?_append_right (by omega), hl]; simp
  have y6 : As[l.length]? = some (As[l.length]'(by omega)) := List.getElem?_eq_getElem _
  have y7 : As[l.length + 1]? = some (As[l.length + 1]'(by omega)) := List.getElem?_eq_getElem _
  obtain ⟨a6, ha6⟩ : ∃ a, As[l.length]? = some a := ⟨_, y6⟩
  obtain ⟨a7, ha7⟩ : ∃ a, As[l.length + 1]? = some a := ⟨_, y7⟩
  have s6 := (h2 _ _ _ e6 ha6).1
  have s7 := (h2 _ _ _ e7 ha7).1
  have t6 : (S ++ [askS 6 k6, askS 7 k7]).take l.length = S := by rw [List.take_append_of_le_length (by omega), List.take_of_length_le (by omega)]
  have t7 : runL ((S ++ [askS 6 k6, askS 7 k7]).take (l.length + 1)) = runL S := by
    rw [take_snoc _ _ _ e6, t6, runL_snoc]
    unfold nxt askS
    simp
  have hrun : runL S = puts [] (x :: r) := by rw [← hx]; exact runL_ones hl h
  rw [t6, hrun] at s6
  rw [t7, hrun] at s7
  obtain ⟨p1, p2⟩ := puts_ends x r
  refine ⟨a6, a7, ha6, ha7, ?_, ?_⟩
  · rw [s6]
    unfold sayL askS
    simp [p1]
  · rw [s7]
    unfold sayL askS
    simp [p2]
end Go.Proofs.YtkplikpncpcjdaaDoor.xf
