/-
  What is read of a parameter: numbers, bools, structs, slices of them.
-/
import Derived.Test.YtdamanckgmkbiaaBase
import Derived.Test.YtdamanckgmkbiaaSt
import Derived.Deep.SlicePairs
namespace Go.Proofs.Ytdamanckgmkbiaa.rows
open Go.ChangeShapes Go.WideShapes Go.ChangeAt Go.RowKit Go.Proofs.Ytdamanckgmkbiaa.base Go.Proofs.Ytdamanckgmkbiaa.heap
set_option linter.unusedVariables false

/-- cells that read as a value of a type -/
def T (P : Program) (W : World) (t : TypeId) (cs : List Value) : Prop :=
  ∃ (H : Type) (enc : TypeId × Value → H) (fuel : Nat) (x : DataW H × List MemPlace), DataW.trod enc P W 0 (fun _ => true) true fuel t cs = some x
section
variable {P : Program} {W : World} {t e : TypeId} {k : IntKind} {v : Value} {cs : List Value}
theorem T.int (h : T P W t [v]) (ht : P.underlying t = some (.int k)) : ∃ n, v = .int k n ∧ (Lit.int k n).wf = true := by
  obtain ⟨H, enc, fuel, x, hx⟩ := h
  obtain ⟨z, hz, _, hw⟩ := DataW.trod_int ht hx
  simp at hz
  exact ⟨z, hz, hw⟩
theorem T.bool (h : T P W t [v]) (ht : P.underlying t = some .bool) : ∃ b, v = .bool b := by
  obtain ⟨H, enc, fuel, x, hx⟩ := h
  obtain ⟨z, hz, _⟩ := DataW.trod_bool ht hx
  simp at hz
  exact ⟨z, hz⟩
/-- the fields of a struct -/
theorem T.field (h : T P W t cs) {fs : Array Field} (ht : P.underlying t = some (.struct fs)) (j : Nat) (f : Field) (hf : fs[j]? = some f) : T P W f.type ((cs.drop f.offset).take (P.cellsOf f.type)) := by
  obtain ⟨H, enc, fuel, x, hx⟩ := h
  obtain ⟨xs, k', hk, hxy, _, hxl, hff⟩ := DataW.trod_struct ht hx
  have hj : j < fs.size := (Array.getElem?_eq_some_iff.1 hf).1
  exact ⟨H, enc, k', _, (hff j f hf).trans (List.getElem?_eq_getElem (by omega))⟩
theorem list_of {α : Type} (n : Nat) (p : Nat → α → Prop) (h : ∀ i, i < n → ∃ s, p i s) : ∃ l : List α, l.length = n ∧ ∀ i s, l[i]? = some s → p i s := by
  induction n with
  | zero => exact ⟨[], rfl, fun i s h => by simp at h⟩
  | succ n ih =>
    obtain ⟨l, hl, hp⟩ := ih (fun i hi => h i (by omega))
    obtain ⟨s, hs⟩ := h n (by omega)
    refine ⟨l ++ [s], by simp [hl], fun i t ht => ?_⟩
    by_cases hi : i < n
    · rw [List.getElem?_append_left (by omega)] at ht
      exact hp i t ht
    · rw [List.getElem?_append_right (by omega)] at ht
      by_cases e : i = n
      · subst e
        rw [hl, Nat.sub_self] at ht
        simp at ht
        subst ht
        exact hs
      · rw [List.getElem?_eq_none (by simp; omega)] at ht
        cases ht
/-- a slice whose elements are written by c -/
theorem T.slice {α : Type} {c : α → List Value} {K : Nat} (p : α → Prop) (hc : ∀ x, (c x).length = K) (h1 : ∀ x, ∀ u ∈ c x, u.oneCell' = true) (hK : 0 < K) (ht : P.underlying t = some (.slice e)) (hce : P.cellsOf e = K)
    (hdec : ∀ cs : List Value, cs.length = K → T P W e cs → ∃ x : α, cs = c x ∧ p x) (h : T P W t [v]) :
    ∃ (a : Option Addr) (n cap : Nat) (l : List α), v = .slice a n cap ∧ RS c K W a n cap l ∧ ∀ x ∈ l, p x := by
  obtain ⟨H, enc, fuel, x, hf⟩ := h
  rcases Go.Deep.open_slice ht hf with ⟨hcs, _⟩ | ⟨x, n, cap, m, k, D, Pl, hcs, hb, hl, hm, hmm, _, hx⟩
  · simp at hcs
    exact ⟨none, 0, 0, [], hcs, RS.nil _ _ _, fun s hs => (nomatch hs)⟩
  · simp at hcs
    have hlm : n ≤ m := by rw [hmm]; split <;> omega
    obtain ⟨l, hll, hp⟩ := list_of (α := α) n (fun i s => (∀ j v, (c s)[j]? = some v → W.cell? (x.add (i * K + j)) = some v) ∧ p s) (fun i hi => by
      obtain ⟨cs', h1, h2⟩ := hx i (by omega)
      rw [hce] at h1
      obtain ⟨_, hlen, hcell⟩ := World.cells?_some h1
      obtain ⟨y, rfl, hy⟩ := hdec cs' hlen ⟨H, enc, _, _, h2⟩
      refine ⟨y, fun j v hj => ?_, hy⟩
      have hjl : j < (c y).length := (List.getElem?_eq_some_iff.1 hj).1
      have := hcell j (by rw [← hlen]; exact hjl)
      rw [Go.Deep.add_add] at this
      rw [this]
      exact hj)
    refine ⟨some x, n, cap, l, hcs, ⟨⟨by rw [flat_len hc, hll], hl, hm, flat_one h1 l, fun h0 => ?_, fun h => by cases h⟩, hll⟩, fun s hs => ?_⟩
    · obtain ⟨b, off, spot⟩ := x
      obtain ⟨s0, hs0⟩ : ∃ s, l[0]? = some s := ⟨l[0]'(by omega), List.getElem?_eq_getElem _⟩
      obtain ⟨v0, hv0⟩ : ∃ v, (c s0)[0]? = some v := ⟨(c s0)[0]'(by rw [hc]; exact hK), List.getElem?_eq_getElem _⟩
      have h1 := (hp 0 s0 hs0).1 0 v0 hv0
      have hsp : spot = none := by simpa [Addr.add] using World.cell?_spot h1
      subst hsp
      have h2 : W.cell? ⟨b, off, none⟩ = some v0 := by simpa [Addr.add] using h1
      refine ⟨b, off, rfl, World.block_lt_of_cell? W _ h2, fun j v hj => ?_⟩
      have hjl : j < (l.flatMap c).length := (List.getElem?_eq_some_iff.1 hj).1
      rw [flat_len hc] at hjl
      have hq : j / K < l.length := (Nat.div_lt_iff_lt_mul hK).2 hjl
      obtain ⟨s, hs⟩ : ∃ s, l[j / K]? = some s := ⟨l[j / K], List.getElem?_eq_getElem _⟩
      have hr : j % K < K := Nat.mod_lt _ hK
      obtain ⟨u, hu⟩ : ∃ u, (c s)[j % K]? = some u := ⟨(c s)[j % K]'(by rw [hc]; exact hr), List.getElem?_eq_getElem _⟩
      have e1 := flat_get hc l _ _ s u hs hu
      have e2 := (hp _ s hs).1 _ u hu
      have e3 : j / K * K + j % K = j := by rw [Nat.mul_comm]; exact Nat.div_add_mod j K
      rw [e3] at e1 e2
      rw [e1] at hj
      cases hj
      rw [Addr.add_lit] at e2
      exact e2
    · obtain ⟨i, hi⟩ := List.mem_iff_getElem?.1 hs
      exact (hp i s hi).2
theorem RS.rl {α : Type} {f : α → Value} {w : World} {a : Option Addr} {n cap : Nat} {l : List α} (h : RS (fun x => [f x]) 1 w a n cap l) : RL f w a n cap l := by
  have e : l.flatMap (fun x => [f x]) = l.map f := by
    clear h
    induction l with
    | nil => rfl
    | cons x l ih => rw [List.flatMap_cons, ih]; rfl
  exact ⟨by rw [← e]; exact h.1, h.2⟩
theorem reads_t (h : Reads P W t v) (ht : P.underlying t = some (.slice e)) : T P W t [v] := by
  obtain ⟨base, H, enc, d, ps, hv, fuel, hf⟩ := h
  obtain ⟨a, n, cap, rfl⟩ := okWide_slice ht hv
  exact ⟨H, enc, fuel, _, by simpa [Value.cells] using hf⟩
end
end Go.Proofs.Ytdamanckgmkbiaa.rows
