/-
  Maps whose keys are uint64s, as functions: look-up, store under a new key. For any program.
-/
import Derived.WalkKit
namespace Go.Proofs.YtkplikpncpcjdaaDoor.mapn
open Go.RowKit Go.ChangeMaps

/-- a key -/
def uk (n : Nat) : Value := .int .u64 (n : Int)
theorem uk_inj {n m : Nat} (h : uk n = uk m) : n = m := by
  simp [uk] at h
  omega
/-- block b is a map that holds what f says -/
def MapN (w : World) (b : Nat) (f : Nat → Option Value) : Prop := ∃ es clock, w.heap[b]? = some (.map es clock) ∧ MapKept.Stamped es clock ∧ (∀ x ∈ es.toList, ∃ n, x.key = uk n) ∧ ∀ n v, f n = some v ↔ ∃ x ∈ es.toList, x.key = uk n ∧ x.val = v
section
variable {P : Program} {K : TypeId} {w w' : World} {b : Nat} {f : Nat → Option Value}
theorem MapN.made (w : World) : MapN (w.alloc (.map #[] 0)) w.heap.size (fun _ => none) := ⟨#[], 0, (MapKept.heap_alloc w _).1, MapKept.stamped_empty 0, by simp, by simp⟩
theorem MapN.lt (h : MapN w b f) : b < w.heap.size := by
  obtain ⟨es, clock, hb, _⟩ := h
  exact (Array.getElem?_eq_some_iff.1 hb).1
theorem MapN.of_heap (h : MapN w b f) (he : w'.heap[b]? = w.heap[b]?) : MapN w' b f := by
  obtain ⟨es, clock, hb, r⟩ := h
  exact ⟨es, clock, by rw [he]; exact hb, r⟩
theorem isKey (n : Nat) : MapKept.IsKey (.int .u64) (uk n) := rfl
theorem MapN.look {t e : TypeId} {z : Value} (h : MapN w b f) (hK : P.underlying K = some (.int .u64)) (ht : P.underlying t = some (.map K e)) (hz : (zeroValue e).run P w = .ok z w) (n : Nat) (c : Bool) :
    (Instr.lookup t (.map (some b)) (uk n) c).run P w = .ok (if c then .tuple #[(f n).getD z, .bool (f n).isSome] else (f n).getD z) w := by
  obtain ⟨es, clock, hb, hs, hk, hf⟩ := h
  have h1 : ∀ e, (Instr.checkKey e 10000 K (uk n)).run P w = .ok () w := fun e => MapKept.run_checkKey hK (isKey n) e 9999
  have hks : ∀ x ∈ es.toList, MapKept.IsKey (.int .u64) x.key := fun x hx => by
    obtain ⟨m, hm⟩ := hk x hx
    rw [hm]; exact isKey m
  rcases MapKept.findNow_spec (isKey n) es.toList 0 hks with ⟨h2, h3⟩ | ⟨j, e', h2, h3, h4⟩
  · have hfn : f n = none := by
      cases hv : f n with
      | none => rfl
      | some v =>
        obtain ⟨x, hx, hxk, _⟩ := (hf n v).1 hv
        exact absurd hxk (h3 x hx)
    rw [hfn]
    cases c <;> simp [Instr.lookup, run_underlying ht, MapKept.run_getObj_map hb, h1, MapKept.run_findKey hK h2, hz, Result.andThen]
  · have hfn : f n = some e'.val := (hf n _).2 ⟨e', List.mem_of_getElem? h3, h4, rfl⟩
    rw [hfn]
    cases c <;> simp [Instr.lookup, run_underlying ht, MapKept.run_getObj_map hb, h1, MapKept.run_findKey hK h2, Result.andThen]
/-- what a store under a new key does -/
theorem MapN.update {t e : TypeId} (h : MapN w b f) (hK : P.underlying K = some (.int .u64)) (ht : P.underlying t = some (.map K e)) (n : Nat) (v : Value) (hn : f n = none) :
    ∃ w', (Instr.mapUpdate t (.map (some b)) (uk n) v).run P w = .ok () w' ∧ MapN w' b (fun k => if k = n then some v else f k) ∧ w.grownBy w' (some b) ∧ w'.heap.size = w.heap.size := by
  obtain ⟨es, clock, hb, hs, hk, hf⟩ := h
  have h1 : ∀ e, (Instr.checkKey e 10000 K (uk n)).run P w = .ok () w := fun e => MapKept.run_checkKey hK (isKey n) e 9999
  have hks : ∀ x ∈ es.toList, MapKept.IsKey (.int .u64) x.key := fun x hx => by
    obtain ⟨m, hm⟩ := hk x hx
    rw [hm]; exact isKey m
  rcases MapKept.findNow_spec (isKey n) es.toList 0 hks with ⟨h2, h3⟩ | ⟨j, e', h2, h3, h4⟩
  · refine ⟨setBlock w b (.map (es.push { key := uk n, val := v, born := clock }) (clock + 1)), ?_, ⟨_, _, ChangeMaps.heap_setBlock_same hb _, MapKept.stamped_push hs h3, ?_, ?_⟩, ⟨rfl, rfl, rfl, by simp [setBlock], fun i _ hi => ChangeMaps.heap_setBlock_other hb _ (fun e => hi (by rw [e]))⟩, by simp [setBlock]⟩
    · simp [Instr.mapUpdate, run_underlying ht, MapKept.run_getObj_map hb, h1, MapKept.run_findKey hK h2, MapKept.run_setObj_map _ hb, Result.andThen, setBlock]
    · intro x hx
      simp only [Array.toList_push, List.mem_append, List.mem_singleton] at hx
      rcases hx with hx | rfl
      · exact hk x hx
      · exact ⟨n, rfl⟩
    · intro k u
      simp only [Array.toList_push, List.mem_append, List.mem_singleton]
      by_cases hkn : k = n
      · subst hkn
        rw [if_pos rfl]
        constructor
        · intro hu
          cases hu
          exact ⟨_, .inr rfl, rfl, rfl⟩
        · rintro ⟨x, hx | rfl, h5, h6⟩
          · exact absurd h5 (h3 x hx)
          · rw [← h6]
      · rw [if_neg hkn, hf k u]
        constructor
        · rintro ⟨x, hx, h5, h6⟩
          exact ⟨x, .inl hx, h5, h6⟩
        · rintro ⟨x, hx | rfl, h5, h6⟩
          · exact ⟨x, hx, h5, h6⟩
          · exact absurd (uk_inj h5).symm hkn
  · have hfn : f n = some e'.val := (hf n _).2 ⟨e', List.mem_of_getElem? h3, h4, rfl⟩
    rw [hn] at hfn
    cases hfn
end
end Go.Proofs.YtkplikpncpcjdaaDoor.mapn
