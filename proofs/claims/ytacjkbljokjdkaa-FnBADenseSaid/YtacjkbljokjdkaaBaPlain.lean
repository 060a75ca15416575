/-
  The steps of a law, done one after the other, by lists of bits.
-/
import Derived.Test.YtacjkbljokjdkaaBaMade
import Derived.Test.YtacjkbljokjdkaaBaNandM
namespace Go.Proofs.Ytacjkbljokjdkaa.ba
open Go.RowKit Go.Proofs.Ytacjkbljokjdkaa.base Go.Proofs.Ytacjkbljokjdkaa.heap Go.Proofs.Ytacjkbljokjdkaa.rows Go.Proofs.Ytacjkbljokjdkaa.bit Go.Proofs.Ytacjkbljokjdkaa.bs
set_option linter.unusedVariables false
/-- steps that leave s' -/
def Goes : List BA → List Stp → List Ans → List BA → Prop
  | s, [], ys, s' => ys = [] ∧ s' = s
  | s, t :: ts, ys, s' => s.length ≤ 1000 ∧ ∃ s1 an ys', Does s t s1 an ∧ ys = an :: ys' ∧ Goes s1 ts ys' s'
theorem Goes.runs : ∀ {s : List BA} {ts : List Stp} {ys : List Ans} {s' : List BA}, Goes s ts ys s' → ∀ {ts2 : List Stp} {ys2 : List Ans}, Runs s' ts2 ys2 → Runs s (ts ++ ts2) (ys ++ ys2)
  | s, [], ys, s', ⟨h1, h2⟩, ts2, ys2, h => by subst h1; subst h2; exact h
  | s, t :: ts, ys, s', ⟨h0, s1, an, ys', h1, h2, h3⟩, ts2, ys2, h => by
    subst h2
    exact ⟨h0, s1, an, ys' ++ ys2, h1, rfl, h3.runs h⟩
theorem Goes.snoc : ∀ {s : List BA} {ts : List Stp} {ys : List Ans} {s' : List BA}, Goes s ts ys s' → s'.length ≤ 1000 → ∀ {t : Stp} {s2 : List BA} {an : Ans}, Does s' t s2 an → Goes s (ts ++ [t]) (ys ++ [an]) s2
  | s, [], ys, s', ⟨h1, h2⟩, hl, t, s2, an, h => by subst h1; subst h2; exact ⟨hl, s2, an, [], h, rfl, rfl, rfl⟩
  | s, t :: ts, ys, s', ⟨h0, s1, an, ys', h1, h2, h3⟩, hl, t', s2, an', h => by
    subst h2
    exact ⟨h0, s1, an, ys' ++ [an'], h1, rfl, h3.snoc hl h⟩
theorem Goes.len : ∀ {s : List BA} {ts : List Stp} {ys : List Ans} {s' : List BA}, Goes s ts ys s' → ys.length = ts.length
  | s, [], ys, s', ⟨h1, h2⟩ => by subst h1; rfl
  | s, t :: ts, ys, s', ⟨h0, s1, an, ys', h1, h2, h3⟩ => by subst h2; simp [h3.len]
theorem cutB_lt {q x : Nat} (hq : 1 ≤ q) : cutB true q x < 64 * q := by unfold cutB; rw [if_pos rfl]; exact Nat.mod_lt _ (by omega)
/-- making a dense array -/
theorem goes_madeD (s : List BA) (on m q : Nat) (L : List Nat) (hon : s.length = on) (hon2 : on < 999) (hm : m ≤ 1000) (hq : (m + 63) / 64 = q) (hq1 : 1 ≤ q) : ∃ ys, ys.length = L.length + 1 ∧ Goes s (madeT true m q on L) ys (s ++ [⟨true, q, madeS true q L⟩]) := by
  suffices h : ∀ k, k ≤ L.length → ∃ ys, Goes s (madeT true m q on (L.take k)) ys (s ++ [⟨true, q, madeS true q (L.take k)⟩]) by
    obtain ⟨ys, h⟩ := h L.length (Nat.le_refl _)
    rw [List.take_of_length_le (Nat.le_refl _)] at h
    exact ⟨ys, by rw [h.len]; simp [madeT], h⟩
  intro k
  induction k with
  | zero =>
    intro _
    refine ⟨[{}], by omega, s ++ [⟨true, q, []⟩], {}, [], ?_, rfl, rfl, rfl⟩
    have := does_dense s m (by omega)
    rw [hq] at this
    exact this
  | succ k ih =>
    intro hk
    obtain ⟨ys, h⟩ := ih (by omega)
    have hx : L[k]? = some L[k] := List.getElem?_eq_getElem (by omega)
    rw [madeT_snoc _ _ _ _ _ _ _ hx, madeS_snoc _ _ _ _ _ hx]
    refine ⟨ys ++ [{ yes := true }], h.snoc (by simp; omega) ?_⟩
    have hd : (s ++ [(⟨true, q, madeS true q (L.take k)⟩ : BA)])[on]? = some ⟨true, q, madeS true q (L.take k)⟩ := by rw [← hon]; simp
    have := does_setD hd rfl (cutB true q L[k]) (cutB_lt hq1)
    have e : (s ++ [(⟨true, q, madeS true q (L.take k)⟩ : BA)]).set on ⟨true, q, put (madeS true q (L.take k)) (cutB true q L[k])⟩ = s ++ [⟨true, q, put (madeS true q (L.take k)) (cutB true q L[k])⟩] := by
      rw [← hon, List.set_append_right _ _ (Nat.le_refl _)]; simp
    rw [← e]
    exact this
/-- the steps of a law on what two arrays make -/
def twoT (op : Nat) : List Stp := [{ op := op, on := 0, by_ := 1 }, { op := 14, on := 2 }, { op := 10, on := 2 }, { op := 15, on := 2 }, { op := 14, on := 0 }, { op := 14, on := 1 }]
/-- their answers -/
def twoY (A B C : List Nat) : List Ans := [{}, { nums := C }, { n := C.length }, { yes := C.isEmpty }, { nums := A }, { nums := B }]
theorem runs_two {x y z : BA} {op : Nat} (hx : x.dense = true) (hy : y.dense = true) (hz : z.dense = true) (h : Does [x, y] { op := op, on := 0, by_ := 1 } [x, y, z] {}) : Runs [x, y] (twoT op) (twoY x.set y.set z.set) := by
  have h2 : ([x, y, z] : List BA)[2]? = some z := rfl
  have h0 : ([x, y, z] : List BA)[0]? = some x := rfl
  have h1 : ([x, y, z] : List BA)[1]? = some y := rfl
  exact ⟨by simp, _, _, _, h, rfl, by simp, _, _, _, does_numsD h2 hz, rfl, by simp, _, _, _, does_countD h2 hz, rfl, by simp, _, _, _, does_emptyD h2 hz, rfl, by simp, _, _, _, does_numsD h0 hx, rfl, by simp, _, _, _, does_numsD h1 hy, rfl, rfl⟩
/-- the whole run of such a law -/
theorem runs_madeD {op m1 q1 m2 q2 : Nat} {L1 L2 : List Nat} {z : BA} (hm1 : m1 ≤ 1000) (hq1 : (m1 + 63) / 64 = q1) (h1 : 1 ≤ q1) (hm2 : m2 ≤ 1000) (hq2 : (m2 + 63) / 64 = q2) (h2 : 1 ≤ q2) (hz : z.dense = true)
    (h : Does [⟨true, q1, madeS true q1 L1⟩, ⟨true, q2, madeS true q2 L2⟩] { op := op, on := 0, by_ := 1 } [⟨true, q1, madeS true q1 L1⟩, ⟨true, q2, madeS true q2 L2⟩, z] {}) :
    ∃ Y, Y.length = L1.length + 1 + (L2.length + 1) ∧ Runs [] (madeT true m1 q1 0 L1 ++ madeT true m2 q2 1 L2 ++ twoT op) (Y ++ twoY (madeS true q1 L1) (madeS true q2 L2) z.set) := by
  obtain ⟨Y1, l1, g1⟩ := goes_madeD [] 0 m1 q1 L1 rfl (by omega) hm1 hq1 h1
  obtain ⟨Y2, l2, g2⟩ := goes_madeD [⟨true, q1, madeS true q1 L1⟩] 1 m2 q2 L2 rfl (by omega) hm2 hq2 h2
  refine ⟨Y1 ++ Y2, by rw [List.length_append, l1, l2], ?_⟩
  rw [List.append_assoc, List.append_assoc]
  exact g1.runs (g2.runs (runs_two rfl rfl hz h))
end Go.Proofs.Ytacjkbljokjdkaa.ba
