/-
  The priority queue's elements: order, Compare, swap.
-/
import Derived.Test.YtpddddjfjmipfaaDoorBase
import Derived.Test.YtpddddjfjmipfaaDoorRw
import Derived.Outline
import Derived.Test.YtpddddjfjmipfaaDoorPqHeap
import Derived.RegionTactic
import Derived.BigRegion
import Derived.ChangeAlike
import Derived.Deep.RegionHeld3
import Derived.WalkLawsBesides
namespace Go.Proofs.YtpddddjfjmipfaaDoor.pq
open Go.RowKit Go.Proofs.YtpddddjfjmipfaaDoor.base Go.Proofs.YtpddddjfjmipfaaDoor.heap Go.Proofs.YtpddddjfjmipfaaDoor.rows
set_option linter.unusedVariables false

/-- an element behind the interface type -/
abbrev iw (k t : Int) : Value := .iface 69 (.agg #[.int .i64 k, .int .i64 t])
def itv (x : It) : Value := iw x.key x.tag
def ordZ (a b : Int) : Int := if a < b then -1 else if b < a then 1 else 0

set_option maxRecDepth 100000 in
theorem order_any (a b : Int) (w : World) : Calls Tryd.prog 80 #[.int .i64 a, .int .i64 b] w fun e w' => e = .returned (.int .i64 (ordZ a b)) ∧ w' = w := by
  unfold ordZ
  by_cases h1 : a < b
  · rw [if_pos h1]
    go_enter Tryd.func80, Tryd.ntmps80
    go_wp2
    go_ret
    exact ⟨rfl, rfl⟩
  · by_cases h2 : b < a
    · rw [if_neg h1, if_pos h2]
      go_enter Tryd.func80, Tryd.ntmps80
      go_wp2
      go_ret
      exact ⟨rfl, rfl⟩
    · rw [if_neg h1, if_neg h2]
      go_enter Tryd.func80, Tryd.ntmps80
      go_wp2
      go_ret
      exact ⟨rfl, rfl⟩

abbrev itb (k t : Int) : Value := .agg #[.int .i64 k, .int .i64 t]
set_option maxRecDepth 100000 in
theorem asserted (k t : Int) (w : World) : (Instr.typeAssert (iw k t) 77 69 false).run Tryd.prog w = .ok (itb k t) w := by
  simp [Instr.typeAssert, run_underlying Tryd.underlying69, Result.andThen]
set_option maxRecDepth 100000 in
theorem run_f1 (k t : Int) (w : World) : (Instr.field 69 (itb k t) 0).run Tryd.prog w = .ok (.agg #[.int .i64 k, .int .i64 t]) w := rfl
set_option maxRecDepth 100000 in
theorem run_f2 (k t : Int) (w : World) : (Instr.field 28 (.agg #[.int .i64 k, .int .i64 t]) 0).run Tryd.prog w = .ok (.int .i64 k) w := rfl

set_option maxRecDepth 100000 in
theorem compare_any (k t k' t' : Int) (w : World) : Calls Tryd.prog 79 #[itb k t, iw k' t'] w fun e w' => e = .returned (.int .i64 (ordZ k k')) ∧ Same w w' := by
  have HO : ∀ wx, Calls Tryd.prog 80 #[.int .i64 k, .int .i64 k'] wx fun e w' => e = .returned (.int .i64 (ordZ k k')) ∧ w' = wx := fun wx => order_any k k' wx
  have HO := Lib.hid HO
  have ha := asserted k' t'
  have h1 := run_f1 k' t'
  have h2 := run_f2 k' t'
  go_enter Tryd.func79, Tryd.ntmps79
  go_wp2
  go_quiet ((go_at_call 80; exact Calls.quiet_of_same (HO.out _)))
  go_wp2
  go_ret
  exact ⟨rfl, ((Only.refl _ _).alloc _).drewN _⟩

/-- an empty map -/
def ME (w : World) (mb : Nat) : Prop := ∃ c, w.heap[mb]? = some (.map #[] c)
theorem ME.keep {w w' : World} {mb : Nat} {S : Nat → Prop} (h : ME w mb) (ho : Only S w w') (hn : ¬ S mb) : ME w' mb := by
  obtain ⟨c, hc⟩ := h
  exact ⟨c, ho.obj hc hn⟩
/-- the queue in memory: its object, its elements (a slice of its own), its map (empty) -/
structure Q (w : World) (ob mb : Nat) (a : Option Addr) (cap : Nat) (L : List It) : Prop where
  obj : w.heap[ob]? = some (.cells #[.slice a L.length cap, .map (some mb), .bool false, .bool true] 67 (0, 0))
  own : OL 77 itv w a L.length cap L
  map : ME w mb
  ne : ob ≠ mb
  nob : ¬ At a ob
  nmb : ¬ At a mb
def Fp (ob mb : Nat) (a : Option Addr) (k : Nat) : Prop := k = ob ∨ k = mb ∨ At a k
theorem Q.keep {w w' : World} {ob mb : Nat} {a : Option Addr} {cap : Nat} {L : List It} {S : Nat → Prop} (h : Q w ob mb a cap L) (ho : Only S w w') (hn : ∀ k, Fp ob mb a k → ¬ S k) : Q w' ob mb a cap L :=
  ⟨ho.obj h.obj (hn _ (.inl rfl)), h.own.keep ho (fun k hk => hn k (.inr (.inr hk))), h.map.keep ho (hn _ (.inr (.inl rfl))), h.ne, h.nob, h.nmb⟩
theorem Q.still {w w' : World} {ob mb : Nat} {a : Option Addr} {cap : Nat} {L : List It} (h : Q w ob mb a cap L) (ho : Same w w') : Q w' ob mb a cap L := h.keep ho (fun _ _ => id)
theorem Q.lt {w : World} {ob mb : Nat} {a : Option Addr} {cap : Nat} {L : List It} (h : Q w ob mb a cap L) : ∀ k, Fp ob mb a k → k < w.heap.size := by
  rintro k (rfl | rfl | hk)
  · exact lt_of_heap h.obj
  · obtain ⟨c, hc⟩ := h.map; exact lt_of_heap hc
  · exact h.own.1.lt k hk
theorem Q.at {w : World} {ob mb : Nat} {a : Option Addr} {cap : Nat} {L : List It} (h : Q w ob mb a cap L) (h0 : 0 < L.length) :
    ∃ g, a = some ⟨g, 0, none⟩ ∧ g < w.heap.size ∧ g ≠ ob ∧ (∀ i x, L[i]? = some x → w.cell? ⟨g, i, none⟩ = some (itv x)) ∧ ∀ i, w.frozen? ⟨g, i, none⟩ = false := by
  obtain ⟨g, ha, hb, hc⟩ := h.own.1.at h0
  refine ⟨g, ha, hb, fun e => h.nob (by rw [ha]; exact e), fun i x hx => ?_, fun i => h.own.1.frozen ha i⟩
  have := hc i (itv x) (by rw [List.getElem?_map, hx]; rfl)
  simpa using this

set_option maxRecDepth 100000 in
set_option maxHeartbeats 800000 in
theorem swapQ {w : World} {ob mb : Nat} {a : Option Addr} {cap : Nat} {L : List It} (h : Q w ob mb a cap L) (i j : Nat) (hi : i < L.length) (hj : j < L.length) :
    Calls Tryd.prog 41 #[.pointer (some ⟨ob, 0, none⟩), .int .i64 (i : Int), .int .i64 (j : Int)] w fun e w' => e = .returned (.tuple #[]) ∧ Q w' ob mb a cap (swapL L i j) ∧ Only (At a) w w' := by
  have hbd := h.own.bound
  obtain ⟨g, rfl, hb, hg, hc, hf⟩ := h.at (by omega)
  have q0 : w.cell? ⟨ob, 0, none⟩ = some (.slice (some ⟨g, 0, none⟩) L.length cap) := block_cell h.obj rfl
  have ci := hc i L[i] (List.getElem?_eq_getElem hi)
  have cj := hc j L[j] (List.getElem?_eq_getElem hj)
  have fi := hf i
  have fj := hf j
  have HS : Hid (∀ (w' : World), w' = ((w.setCell ⟨g, i, none⟩ (itv L[j])).setCell ⟨g, j, none⟩ (itv L[i])).drew → Q w' ob mb (some ⟨g, 0, none⟩) cap (swapL L i j) ∧ Only (At (some ⟨g, 0, none⟩)) w w') := Lib.hid (by
    rintro w' rfl
    have hO : Only (At (some ⟨g, 0, none⟩)) w (((w.setCell ⟨g, i, none⟩ (itv L[j])).setCell ⟨g, j, none⟩ (itv L[i])).drew) := ((((Only.refl (At (some ⟨g, 0, none⟩)) w).setCell ⟨g, i, none⟩ _ (fun _ => rfl)).setCell ⟨g, j, none⟩ _ (fun _ => rfl))).drew
    refine ⟨⟨?_, ?_, h.map.keep hO h.nmb, h.ne, h.nob, h.nmb⟩, hO⟩
    · rw [swapL_len]; exact hO.obj h.obj h.nob
    · rw [swapL_len]
      have h2 := ((h.own.1.set rfl i (itv L[j]) rfl (by omega)).set rfl j (itv L[i]) rfl (by omega)).drew
      refine ⟨?_, by rw [swapL_len]⟩
      have e : (swapL L i j).map itv = ((L.map itv).set i (itv L[j])).set j (itv L[i]) := by
        unfold swapL
        rw [List.map_set, List.map_set]
        simp [List.getD_eq_getElem?_getD, hi, hj]
      rw [e]
      exact h2)
  have hi' : (i : Int) < (L.length : Int) := by omega
  have hj' : (j : Int) < (L.length : Int) := by omega
  have hgo : ob ≠ g := fun e => hg e.symm
  clear h hc hf
  generalize L[i] = X at *
  generalize L[j] = Y at *
  obtain ⟨k1, t1⟩ := X
  obtain ⟨k2, t2⟩ := Y
  replace ci : w.cell? ⟨g, i, none⟩ = some (iw k1 t1) := ci
  replace cj : w.cell? ⟨g, j, none⟩ = some (iw k2 t2) := cj
  generalize L.length = n at *
  obtain ⟨v', hy⟩ := cell?_setCell_some (w := w) (p := ⟨g, i, none⟩) (x := iw k2 t2) (q := ⟨g, j, none⟩) (v := iw k2 t2) cj
  go_enter Tryd.func41, Tryd.ntmps41
  go_wp2_with fail
  go_region
  all_goals go_wp2
  all_goals go_end0
  all_goals exact ⟨rfl, HS.out _ rfl⟩
end Go.Proofs.YtpddddjfjmipfaaDoor.pq
