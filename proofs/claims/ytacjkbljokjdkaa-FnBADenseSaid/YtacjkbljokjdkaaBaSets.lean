/-
  The specification's BANew; lists of bits of two.
-/
import Derived.Test.YtacjkbljokjdkaaBaPut
namespace Go.Proofs.Ytacjkbljokjdkaa.ba
open Go.RowKit Go.Proofs.Ytacjkbljokjdkaa.base Go.Proofs.Ytacjkbljokjdkaa.heap Go.Proofs.Ytacjkbljokjdkaa.rows Go.Proofs.Ytacjkbljokjdkaa.bit Go.Proofs.Ytacjkbljokjdkaa.bs
set_option linter.unusedVariables false
theorem new_old' (w : World) (A B : Obj) : ((w.alloc A).alloc B).heap[w.heap.size]? = some A := by
  show ((w.heap.push A).push B)[w.heap.size]? = _
  rw [Array.getElem?_push, if_neg (by simp), Array.getElem?_push, if_pos rfl]
theorem ret_arr {Q : Ending → World → Prop} {tmps : Array Value} {w3 : World} {r : Nat} {y n s : Value} (h4 : tmps[4]? = some (.pointer (some ⟨r, 0, none⟩)))
    (hob : w3.heap[r]? = some (.cells #[y, n, s] 29 (0, 0))) (hQ : Q (.returned (.agg #[y, n, s])) w3) :
    bodyPost Try.prog Try.f8 Q Exit.ret { tmps := tmps, defers := [] } w3 := by
  have c0 : w3.cell? ⟨r, 0, none⟩ = some y := block_cell hob rfl
  have c1 : w3.cell? ⟨r, 1, none⟩ = some n := block_cell hob rfl
  have c2 : w3.cell? ⟨r, 2, none⟩ = some s := block_cell hob rfl
  clear hob
  simp [bodyPost, results, Try.results8, go_sem, h4, c0, c1, c2]
  exact hQ
set_option maxRecDepth 100000 in
set_option maxHeartbeats 1600000 in
theorem baNew0 (k : Nat) (hk : k ≤ 1000000) (w : World) : Calls Try.prog 8 #[uv k, .bool false] w (FV w (.agg #[.bool true, uv ((k + 63) / 64), .slice none 0 0])) := by
  have e1 : IntKind.u64.wrap ((k : Int) + 63) = (k : Int) + 63 := by rw [IntKind.wrap_u64]; omega
  obtain ⟨q, hq⟩ : ∃ q : Nat, (k + 63) / 64 = q := ⟨_, rfl⟩
  have hqq : ((k : Int) + 63) / 64 = (q : Int) := by omega
  have hqw : IntKind.u64.wrap (q : Int) = (q : Int) := by rw [IntKind.wrap_u64]; omega
  unfold uv
  rw [hq]
  clear hq
  have HS : Hid (∀ A B w', w' = ((w.alloc A).alloc B) → Same w w') := Lib.hid (fun A B w' h => by rw [h]; exact ((Only.refl _ _).alloc _).alloc _)
  go_enter Try.func8, Try.ntmps8
  go_wp2_with fail
  obtain ⟨s, hs⟩ : ∃ s, w.heap.size = s := ⟨_, rfl⟩
  obtain ⟨p, hp⟩ : ∃ p, s + 1 = p := ⟨_, rfl⟩
  have HSP : Hid (w.heap.size ≤ s ∧ w.heap.size ≤ p ∧ s ≠ p) := Lib.hid (by omega)
  rw [hs, hp]
  go_loopw [6] (fun i wr => i = .int .u64 0 ∧ Hid (Same w wr ∧ wr.heap[s]? = some (.cells #[.bool false, .int .u64 0, .slice none 0 0] 29 (0, 0)) ∧ wr.heap[p]? = some (.cells #[.bool true, .int .u64 (q : Int), .slice none 0 0] 29 (0, 0)))) (fun i _ => 0)
  case atStart =>
    exact ⟨rfl, Lib.hid ⟨HS.out _ _ _ rfl, by rw [← hs]; exact new_old' w _ _, by rw [← hp, ← hs]; exact heap_alloc_new' _ _ _ (by rw [World.size_alloc])⟩⟩
  case round =>
    obtain ⟨rfl, HI⟩ := hrel
    have c1 : wr.cell? ⟨p, 1, none⟩ = some (.int .u64 (q : Int)) := block_cell HI.out.2.2 rfl
    have c0 : wr.cell? ⟨p, 0, none⟩ = some (.bool true) := block_cell HI.out.2.2 rfl
    have c2 : wr.cell? ⟨p, 2, none⟩ = some (.slice none 0 0) := block_cell HI.out.2.2 rfl
    have d0 : wr.cell? ⟨s, 0, none⟩ = some (.bool false) := block_cell HI.out.2.1 rfl
    have d1 : wr.cell? ⟨s, 1, none⟩ = some (.int .u64 0) := block_cell HI.out.2.1 rfl
    have d2 : wr.cell? ⟨s, 2, none⟩ = some (.slice none 0 0) := block_cell HI.out.2.1 rfl
    have f1 : ∀ j, wr.frozen? ⟨s, j, none⟩ = false := fun j => block_free HI.out.2.1
    go_wp2_with fail
    refine ret_arr rfl (setCell_heap (setCell_heap (setCell_heap HI.out.2.1 0 _) 1 _) 2 _) ⟨rfl, ?_⟩
    exact ((HI.out.1.setCell _ _ (fun h => absurd HSP.out.1 (by simp at h; omega))).setCell _ _ (fun h => absurd HSP.out.1 (by simp at h; omega))).setCell _ _ (fun h => absurd HSP.out.1 (by simp at h; omega))
/-- a list that is read, its elements one by one -/
theorem filter_snoc (p : Nat → Bool) (l : List Nat) (k x : Nat) (h : l[k]? = some x) : (l.take (k + 1)).filter p = (l.take k).filter p ++ if p x then [x] else [] := by
  rw [take_snoc l k x h, List.filter_append]
  simp only [List.filter_cons, List.filter_nil]
section
variable {w : World} {a b : Option Addr} {n cap m cb : Nat} {l l2 : List Nat}
end
end Go.Proofs.Ytacjkbljokjdkaa.ba
