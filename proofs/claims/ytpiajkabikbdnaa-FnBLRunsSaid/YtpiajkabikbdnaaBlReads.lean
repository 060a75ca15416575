/-
  A parameter that is a list of steps.
-/
import Derived.Test.YtpiajkabikbdnaaBlRun
import Derived.Deep.SlicePairs
namespace Go.Proofs.Ytpiajkabikbdnaa.bs
open Go.ChangeShapes Go.WideShapes Go.ChangeAt Go.RowKit Go.Proofs.Ytpiajkabikbdnaa.base Go.Proofs.Ytpiajkabikbdnaa.heap Go.Proofs.Ytpiajkabikbdnaa.bit
set_option linter.unusedVariables false

theorem list_of (n : Nat) (p : Nat → St → Prop) (h : ∀ i, i < n → ∃ s, p i s) : ∃ l : List St, l.length = n ∧ ∀ i s, l[i]? = some s → p i s := by
  induction n with
  | zero => exact ⟨[], rfl, fun i s h => by simp at h⟩
  | succ n ih =>
    obtain ⟨l, hl, hp⟩ := ih (fun i hi => h i (by omega))
    obtain ⟨s, hs⟩ := h n (by omega)
    refine ⟨l ++ [s], by simp [hl], fun i t ht => ?_⟩
    by_cases hi : i < n
    · rw [List.getElem?_append_left (by omega)] at ht
      exact hp i t ht
    · rw [List.getElem?_append_right (by omega)] at ht
      by_cases e : i = n
      · subst e
        rw [hl, Nat.sub_self] at ht
        simp at ht
        subst ht
        exact hs
      · rw [List.getElem?_eq_none (by simp; omega)] at ht
        cases ht

set_option maxRecDepth 100000 in
theorem read_steps {W : World} {v : Value} (h : Reads Try.prog W 50 v) : ∃ (a : Option Addr) (n cap : Nat) (l : List St), v = .slice a n cap ∧ RS W a n cap l ∧ (∀ s ∈ l, s.n ≤ s.cap ∧ s.cap ≤ 9223372036854775807) ∧ ∀ s ∈ l, ∀ wx, Same W wx → RY wx s.a s.n s.cap s.d := by
  obtain ⟨base, H, enc, d, ps, hv, fuel, hf⟩ := h
  obtain ⟨a, n, cap, rfl⟩ := okWide_slice Try.underlying50 hv
  rcases Go.Deep.open_slice_pairs Try.underlying50 Try.underlying57 (by kernel_rfl) rfl rfl (by kernel_rfl) (by kernel_rfl) (by simpa [Value.cells] using hf) with ⟨hcs, _⟩ | ⟨x, len, c, m, k, V0, V1, D0, D1, P0, P1, hcs, _, hl, hm, hmm, _, hall⟩
  · simp at hcs
    obtain ⟨rfl, rfl, rfl⟩ := hcs
    exact ⟨none, 0, 0, [], rfl, ⟨Rd.nil W 2, rfl⟩, fun s hs => (nomatch hs), fun s hs => (nomatch hs)⟩
  · simp at hcs
    obtain ⟨rfl, rfl, rfl⟩ := hcs
    have hlm : n ≤ m := by rw [hmm]; split <;> omega
    obtain ⟨l, hll, hp⟩ := list_of n (fun i s => W.cell? (x.add (i * 2)) = some (.int .i64 s.op) ∧ W.cell? (x.add (i * 2 + 1)) = some (.slice s.a s.n s.cap) ∧ (s.n ≤ s.cap ∧ s.cap ≤ 9223372036854775807) ∧ RY W s.a s.n s.cap s.d) (fun i hi => by
      obtain ⟨h0, h1, t0, t1⟩ := hall i (by omega)
      obtain ⟨z, hz, _, _⟩ := DataW.trod_int Try.underlying3 t0
      simp at hz
      obtain ⟨a', n', c', zs, hv1, hrow⟩ : ∃ a' n' c' zs, V1 i = .slice a' n' c' ∧ IsRow .u8 W a' n' c' zs := by
        rcases open_ints Try.underlying40 Try.underlying5 (by kernel_rfl) t1 with ⟨hcs, _⟩ | ⟨y, l', c', zs, hcs, _, hl', hm', hz', _, hcell, hwz⟩
        · simp at hcs
          exact ⟨none, 0, 0, [], hcs, .inl ⟨rfl, rfl, rfl, rfl⟩⟩
        · simp at hcs
          exact ⟨some y, l', c', zs, hcs, .inr ⟨y, rfl, hl', hm', by simpa using hz', hcell, hwz⟩⟩
      obtain ⟨dd, hry, _⟩ := row_bytes hrow
      refine ⟨⟨z, a', n', c', dd⟩, by rw [h0, hz], by rw [h1, hv1], hry.1.bound, hry⟩)
    refine ⟨some x, n, cap, l, rfl, ⟨⟨by rw [stCells_len, hll], hl, hm, stCells_one l, fun h0 => ?_, fun h => by cases h⟩, hll⟩, fun s hs => ?_, fun s hs wx hx => ?_⟩
    · obtain ⟨b, off, spot⟩ := x
      obtain ⟨s0, hs0⟩ : ∃ s, l[0]? = some s := ⟨l[0]'(by omega), List.getElem?_eq_getElem _⟩
      have h1 := (hp 0 s0 hs0).1
      have hsp : spot = none := by simpa [Addr.add] using World.cell?_spot h1
      subst hsp
      have h2 : W.cell? ⟨b, off, none⟩ = some (.int .i64 s0.op) := by simpa [Addr.add] using h1
      refine ⟨b, off, rfl, World.block_lt_of_cell? W _ h2, fun j v hj => ?_⟩
      have hjl : j < (stCells l).length := (List.getElem?_eq_some_iff.1 hj).1
      rw [stCells_len] at hjl
      obtain ⟨s, hs⟩ : ∃ s, l[j / 2]? = some s := ⟨l[j / 2]'(by omega), List.getElem?_eq_getElem _⟩
      obtain ⟨q1, q2⟩ := stCells_get l (j / 2) s hs
      obtain ⟨p1, p2, _⟩ := hp (j / 2) s hs
      rw [Addr.add_lit] at p1 p2
      rcases (show j = j / 2 * 2 ∨ j = j / 2 * 2 + 1 by omega) with e | e
      · rw [e, q1] at hj
        cases hj
        rw [e, p1]
      · rw [e, q2] at hj
        cases hj
        rw [e, p2]
    · obtain ⟨i, hi⟩ := List.mem_iff_getElem?.1 hs
      exact (hp i s hi).2.2.1
    · obtain ⟨i, hi⟩ := List.mem_iff_getElem?.1 hs
      exact (hp i s hi).2.2.2.keep hx (fun _ _ => id)
end Go.Proofs.Ytpiajkabikbdnaa.bs
