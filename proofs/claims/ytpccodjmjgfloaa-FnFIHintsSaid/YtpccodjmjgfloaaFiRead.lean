/-
  The steps handed in are a list.
-/
import Derived.Test.YtpccodjmjgfloaaFiSpec
import Derived.Deep.SlicePairs
namespace Go.Proofs.Ytpccodjmjgfloaa.fi
open Go.ChangeShapes Go.WideShapes Go.ChangeAt Go.RowKit Go.Proofs.Ytpccodjmjgfloaa.base Go.Proofs.Ytpccodjmjgfloaa.heap Go.Proofs.Ytpccodjmjgfloaa.rows
set_option linter.unusedVariables false

theorem list_of (n : Nat) (p : Nat → Stp → Prop) (h : ∀ i, i < n → ∃ s, p i s) : ∃ l : List Stp, l.length = n ∧ ∀ i s, l[i]? = some s → p i s := by
  induction n with
  | zero => exact ⟨[], rfl, fun i s h => by simp at h⟩
  | succ n ih =>
    obtain ⟨l, hl, hp⟩ := ih (fun i hi => h i (by omega))
    obtain ⟨s, hs⟩ := h n (by omega)
    refine ⟨l ++ [s], by simp [hl], fun i t ht => ?_⟩
    by_cases hi : i < n
    · rw [List.getElem?_append_left (by omega)] at ht
      exact hp i t ht
    · rw [List.getElem?_append_right (by omega)] at ht
      by_cases e : i = n
      · subst e
        rw [hl, Nat.sub_self] at ht
        simp at ht
        subst ht
        exact hs
      · rw [List.getElem?_eq_none (by simp; omega)] at ht
        cases ht
theorem stc_len (l : List Stp) : (l.flatMap stc).length = l.length * 3 := by
  induction l with
  | nil => rfl
  | cons x l ih => rw [List.flatMap_cons, List.length_append, ih]; simp [stc]; omega
theorem stc_one (l : List Stp) : ∀ u ∈ l.flatMap stc, u.oneCell' = true := by
  intro u hu
  obtain ⟨s, _, hs⟩ := List.mem_flatMap.1 hu
  simp only [stc, List.mem_cons, List.not_mem_nil, or_false] at hs
  rcases hs with rfl | rfl | rfl <;> rfl

set_option maxRecDepth 100000 in
theorem read_steps {W : World} {v : Value} (h : Reads Try.prog W 37 v) : ∃ (a : Option Addr) (n cap : Nat) (l : List Stp), v = .slice a n cap ∧ RP W a n cap l ∧ ∀ s ∈ l, -9223372036854775808 ≤ s.op ∧ s.op ≤ 9223372036854775807 ∧ s.k < B64 ∧ s.v < B64 := by
  obtain ⟨base, H, enc, d, ps, hv, fuel, hf⟩ := h
  obtain ⟨a, n, cap, rfl⟩ := okWide_slice Try.underlying37 hv
  rcases Go.Deep.open_slice Try.underlying37 (by simpa [Value.cells] using hf) with ⟨hcs, _⟩ | ⟨x, len, c, m, k, D, Pl, hcs, hb, hl, hm, hmm, _, hx⟩
  · simp at hcs
    obtain ⟨rfl, rfl, rfl⟩ := hcs
    exact ⟨none, 0, 0, [], rfl, ⟨Rd.nil W 3, rfl⟩, fun s hs => (nomatch hs)⟩
  · simp at hcs
    obtain ⟨rfl, rfl, rfl⟩ := hcs
    have hlm : n ≤ m := by rw [hmm]; split <;> omega
    have ce : Try.prog.cellsOf 43 = 3 := by kernel_rfl
    obtain ⟨l, hll, hp⟩ := list_of n (fun i s => W.cell? (x.add (i * 3)) = some (.int .i64 s.op) ∧ W.cell? (x.add (i * 3 + 1)) = some (.int .u64 (s.k : Int)) ∧ W.cell? (x.add (i * 3 + 2)) = some (.int .u64 (s.v : Int)) ∧ -9223372036854775808 ≤ s.op ∧ s.op ≤ 9223372036854775807 ∧ s.k < B64 ∧ s.v < B64) (fun i hi => by
      obtain ⟨cs', h1, h2⟩ := hx i (by omega)
      rw [ce] at h1
      obtain ⟨_, hlen, hcell⟩ := World.cells?_some h1
      obtain ⟨xs, k', hk, hxy, _, hxl, hff⟩ := DataW.trod_struct Try.underlying43 h2
      match xs, hxl, cs', hlen with
      | [y0, y1, y2], _, [v0, v1, v2], _ =>
        have g0 := hff 0 _ rfl
        have g1 := hff 1 _ rfl
        have g2 := hff 2 _ rfl
        have c3 : Try.prog.cellsOf 3 = 1 := by kernel_rfl
        have c4 : Try.prog.cellsOf 41 = 1 := by kernel_rfl
        simp [c3, c4] at g0 g1 g2
        have e0 := hcell 0 (by omega)
        have e1 := hcell 1 (by omega)
        have e2 := hcell 2 (by omega)
        rw [Go.Deep.add_add] at e0 e1 e2
        obtain ⟨z0, hz0, _, hw0⟩ := DataW.trod_int Try.underlying3 g0
        obtain ⟨z1, hz1, _, hw1⟩ := DataW.trod_int Try.underlying41 g1
        obtain ⟨z2, hz2, _, hw2⟩ := DataW.trod_int Try.underlying41 g2
        simp at hz0 hz1 hz2
        subst hz0 hz1 hz2
        have b0 := wf_i64 hw0
        have b1 := wf_u64 hw1
        have b2 := wf_u64 hw2
        refine ⟨⟨z0, z1.toNat, z2.toNat⟩, by simpa using e0, ?_, ?_, b0.1, b0.2, by show z1.toNat < 18446744073709551616; omega, by show z2.toNat < 18446744073709551616; omega⟩
        · rw [Int.toNat_of_nonneg b1.1]; simpa using e1
        · rw [Int.toNat_of_nonneg b2.1]; simpa using e2)
    refine ⟨some x, n, cap, l, rfl, ⟨⟨by rw [stc_len, hll], hl, hm, stc_one l, fun h0 => ?_, fun h => by cases h⟩, hll⟩, fun s hs => ?_⟩
    · obtain ⟨b, off, spot⟩ := x
      obtain ⟨s0, hs0⟩ : ∃ s, l[0]? = some s := ⟨l[0]'(by omega), List.getElem?_eq_getElem _⟩
      have h1 := (hp 0 s0 hs0).1
      have hsp : spot = none := by simpa [Addr.add] using World.cell?_spot h1
      subst hsp
      have h2 : W.cell? ⟨b, off, none⟩ = some (.int .i64 s0.op) := by simpa [Addr.add] using h1
      refine ⟨b, off, rfl, World.block_lt_of_cell? W _ h2, fun j v hj => ?_⟩
      have hjl : j < (l.flatMap stc).length := (List.getElem?_eq_some_iff.1 hj).1
      rw [stc_len] at hjl
      obtain ⟨s, hs⟩ : ∃ s, l[j / 3]? = some s := ⟨l[j / 3]'(by omega), List.getElem?_eq_getElem _⟩
      obtain ⟨q1, q2, q3⟩ := stc_get l (j / 3) s hs
      obtain ⟨p1, p2, p3, _⟩ := hp (j / 3) s hs
      rw [Addr.add_lit] at p1 p2 p3
      rcases (show j = j / 3 * 3 ∨ j = j / 3 * 3 + 1 ∨ j = j / 3 * 3 + 2 by omega) with e | e | e
      · rw [e, q1] at hj
        cases hj
        rw [e, p1]
      · rw [e, q2] at hj
        cases hj
        rw [e, p2]
      · rw [e, q3] at hj
        cases hj
        rw [e, p3]
    · obtain ⟨i, hi⟩ := List.mem_iff_getElem?.1 hs
      exact (hp i s hi).2.2.2
end Go.Proofs.Ytpccodjmjgfloaa.fi
