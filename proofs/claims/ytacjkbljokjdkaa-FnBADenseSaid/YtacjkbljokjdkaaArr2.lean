/-
  What is read of a parameter: an array of two numbers; a slice of numbers as a list.
-/
import Derived.Test.YtacjkbljokjdkaaBase
import Derived.Test.YtacjkbljokjdkaaRw
namespace Go.Proofs.Ytacjkbljokjdkaa.rows
open Go.ChangeShapes Go.WideShapes Go.ChangeAt Go.RowKit Go.Proofs.Ytacjkbljokjdkaa.base Go.Proofs.Ytacjkbljokjdkaa.heap
set_option linter.unusedVariables false
section
variable {P : Program} {W : World} {t e : TypeId} {k : IntKind} {v : Value}
theorem okWide_arr {r : Reach} {base n : Nat} (ht : P.underlying t = some (.array n e)) (h : Value.okWide P W r base t v) : ∃ cs, v = .agg cs ∧ cs.size = P.cellsOf t := by
  simp only [Value.okWide, ht] at h
  obtain ⟨cs, h1, h2, _⟩ := h
  exact ⟨cs, h1, h2⟩
theorem reads_pair (h : Reads P W t v) (ht : P.underlying t = some (.array 2 e)) (he : P.underlying e = some (.int k)) (hc : P.cellsOf e = 1) (hC : P.cellsOf t = 2) :
    ∃ n m, v = .agg #[.int k n, .int k m] ∧ (Lit.int k n).wf = true ∧ (Lit.int k m).wf = true := by
  obtain ⟨base, H, enc, d, ps, hv, fuel, hf⟩ := h
  obtain ⟨cs, rfl, hs⟩ := okWide_arr ht hv
  rw [hC] at hs
  obtain ⟨c0, c1, rfl⟩ : ∃ c0 c1, cs = #[c0, c1] := by
    rcases cs with ⟨l⟩
    match l, hs with
    | [c0, c1], _ => exact ⟨c0, c1, rfl⟩
  obtain ⟨xs, m, rfl, _, hl, hlen, hg⟩ := DataW.trod_array ht hf
  have g0 := hg 0 (by omega)
  have g1 := hg 1 (by omega)
  rw [hc, List.getElem?_eq_getElem (by omega)] at g0 g1
  obtain ⟨cl, hcl⟩ : ∃ cl, (Value.agg #[c0, c1]).cells.toList = cl := ⟨_, rfl⟩
  rw [hcl] at g0 g1 hl
  obtain ⟨z0, hz0, _, hw0⟩ := DataW.trod_int he g0
  obtain ⟨z1, hz1, _, hw1⟩ := DataW.trod_int he g1
  rw [hC] at hl
  match cl, hl with
  | [u0, u1], _ =>
    simp at hz0 hz1
    subst hz0
    subst hz1
    simp [Value.cells] at hcl
    obtain ⟨rfl, rfl⟩ := hcl
    exact ⟨z0, z1, rfl, hw0, hw1⟩
/-- the numbers of a row, as a list -/
theorem isRow_list {w : World} {a : Option Addr} {len cap : Nat} {zs : List Int} (h : IsRow k w a len cap zs) : RL (fun x : Int => Value.int k x) w a len cap (zs.take len) := by
  have hle := h.le
  refine ⟨⟨?_, hle.1, by unfold maxLen; omega, fun u hu => ?_, fun h0 => ?_, fun ha => ?_⟩, ?_⟩
  · simp; omega
  · obtain ⟨x, _, rfl⟩ := List.mem_map.1 hu; rfl
  · obtain ⟨b, off, ha, hl, hb, hc⟩ := h.cells h0
    refine ⟨b, off, ha, hb, fun j v hj => ?_⟩
    rw [List.getElem?_map] at hj
    cases hx : (zs.take len)[j]? with
    | none => rw [hx] at hj; cases hj
    | some x =>
      rw [hx] at hj
      have hjl := (List.getElem?_eq_some_iff.1 hx).1
      rw [List.length_take] at hjl
      rw [List.getElem?_take, if_pos (by omega)] at hx
      have := hc j (by omega)
      rw [List.getD_eq_getElem?_getD, hx] at this
      rw [this]; exact hj
  · rcases h with ⟨_, _, hc, _⟩ | ⟨x, hx, _⟩
    · exact hc
    · rw [hx] at ha; cases ha
  · simp; omega
theorem RL.nat {w : World} {a : Option Addr} {len cap : Nat} {zs : List Int} (h : RL (fun x : Int => Value.int k x) w a len cap zs) (h0 : ∀ x ∈ zs, 0 ≤ x) : RL (fun x : Nat => Value.int k (x : Int)) w a len cap (zs.map Int.toNat) := by
  refine ⟨?_, by rw [List.length_map]; exact h.2⟩
  have e : (zs.map Int.toNat).map (fun x : Nat => Value.int k (x : Int)) = zs.map (fun x : Int => Value.int k x) := by
    rw [List.map_map]
    refine List.map_congr_left fun x hx => ?_
    have := h0 x hx
    show Value.int k ((x.toNat : Nat) : Int) = Value.int k x
    rw [Int.toNat_of_nonneg this]
  rw [e]; exact h.1
/-- a slice of numbers without a sign -/
theorem reads_nums (h : Reads P W t v) (ht : P.underlying t = some (.slice e)) (he : P.underlying e = some (.int k)) (hc : P.cellsOf e = 1) (hk : ∀ n : Int, (Lit.int k n).wf = true → 0 ≤ n) :
    ∃ a len cap l, v = .slice a len cap ∧ RL (fun x : Nat => Value.int k (x : Int)) W a len cap l ∧ ∀ x ∈ l, (Lit.int k ((x : Nat) : Int)).wf = true := by
  obtain ⟨a, len, cap, zs, hv, hr⟩ := h.ints ht he hc
  have hw : ∀ x ∈ zs.take len, (Lit.int k x).wf = true := fun x hx => by
    have hx' := List.mem_of_mem_take hx
    rcases hr with ⟨_, _, _, rfl⟩ | ⟨_, _, _, _, _, _, hw⟩
    · cases hx'
    · exact hw x hx'
  refine ⟨a, len, cap, (zs.take len).map Int.toNat, hv, RL.nat (isRow_list hr) (fun x hx => hk x (hw x hx)), fun x hx => ?_⟩
  obtain ⟨y, hy, rfl⟩ := List.mem_map.1 hx
  rw [Int.toNat_of_nonneg (hk y (hw y hy))]
  exact hw y hy
end
end Go.Proofs.Ytacjkbljokjdkaa.rows
