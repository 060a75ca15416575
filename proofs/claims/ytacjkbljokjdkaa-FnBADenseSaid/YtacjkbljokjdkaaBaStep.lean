/-
  arrays.step: its deferred recover; asks of one array.
-/
import Derived.Test.YtacjkbljokjdkaaBaAt
import Derived.Defers
import Derived.Recover
namespace Go.Proofs.Ytacjkbljokjdkaa.ba
open Go.RowKit Go.Proofs.Ytacjkbljokjdkaa.base Go.Proofs.Ytacjkbljokjdkaa.heap Go.Proofs.Ytacjkbljokjdkaa.rows Go.Proofs.Ytacjkbljokjdkaa.bit Go.Proofs.Ytacjkbljokjdkaa.bs
set_option linter.unusedVariables false

/-- a step -/
structure Stp where
  op : Nat
  on : Nat := 0
  by_ : Nat := 0
  k : Nat := 0
  most : Nat := 0
  all : Bool := false
def stv (t : Stp) : Value := .agg #[.int .i64 (t.op : Int), .int .i64 (t.on : Int), .int .i64 (t.by_ : Int), .int .u64 (t.k : Int), .int .i64 (t.most : Int), .bool t.all]

theorem step_idle (p : Addr) (w : World) :
    CallsD Try.prog 25 #[.pointer (some p)] .returning w fun e u' w' => e = .returned (.tuple #[]) ∧ u' = .returning ∧ w' = w := by
  refine callsD_of_wpS Try.func25 rfl fun c₀ cs hu => ?_
  apply wpS_seq
  apply wpS_region
  simp [wpOpsS, go_sem, recoverD, hu, Try.ntmps25, Exit.thenS]
  refine wpS_cond (t := false) (by simp [Act.eval, Array.replicate]) ?_
  simp only [Bool.false_eq_true, if_false]
  refine wpS_of_wp (wp_skip ?_)
  cases c₀
  simp_all [bodyPostS, results, Try.results25]
/-- an answer -/
structure Ans where
  yes : Bool := false
  n : Nat := 0
  nums : List Nat := []
/-- the two blocks that a step begins with -/
theorem step_made {w : World} (A B : Obj) : Same w ((w.alloc A).alloc B) ∧ ((w.alloc A).alloc B).heap[w.heap.size]? = some A ∧ ((w.alloc A).alloc B).heap[w.heap.size + 1]? = some B :=
  ⟨((Only.refl _ _).alloc _).alloc _, new_old w A B, heap_alloc_new' _ _ _ (by simp)⟩
set_option maxRecDepth 100000 in
theorem step_end {Q : Ending → World → Prop} {tmps : Array Value} {w3 : World} {r : Nat} {y n s p : Value} (h4 : tmps[4]? = some (.pointer (some ⟨r, 0, none⟩)))
    (hob : w3.heap[r]? = some (.cells #[y, n, s, p] 46 (0, 0))) (hQ : Q (.returned (.agg #[y, n, s, p])) w3) :
    bodyPostD Try.prog Try.f24 Q Exit.ret { tmps := tmps, defers := [{ target := Target.fn (Fn.func 25) #[.pointer (some ⟨r, 0, none⟩)], args := #[] }] } w3 := by
  have c0 : w3.cell? ⟨r, 0, none⟩ = some y := block_cell hob rfl
  have c1 : w3.cell? ⟨r, 1, none⟩ = some n := block_cell hob rfl
  have c2 : w3.cell? ⟨r, 2, none⟩ = some s := block_cell hob rfl
  have c3 : w3.cell? ⟨r, 3, none⟩ = some p := block_cell hob rfl
  clear hob
  refine leaves_cons (f := 25) (args := #[.pointer (some ⟨r, 0, none⟩)]) (by simp) (by simp [go_sem]) ?_
  refine (step_idle ⟨r, 0, none⟩ _).mono ?_
  rintro e u' w'' ⟨rfl, rfl, rfl⟩
  simp [Leaves, settle, results, Try.results24, go_sem, h4, c0, c1, c2, c3]
  exact hQ
/-- the answer block as it stands behind the last store -/
theorem stored4 {w : World} {r : Nat} {o1 o2 o3 o4 : Value} {t : TypeId} (ho : w.heap[r]? = some (.cells #[o1, o2, o3, o4] t (0, 0))) (y n s p : Value) :
    ((((w.setCell ⟨r, 0, none⟩ y).setCell ⟨r, 1, none⟩ n).setCell ⟨r, 2, none⟩ s).setCell ⟨r, 3, none⟩ p).heap[r]? = some (.cells #[y, n, s, p] t (0, 0)) :=
  setCell_heap (setCell_heap (setCell_heap (setCell_heap ho 0 y) 1 n) 2 s) 3 p
theorem same4 {w w' : World} {r : Nat} (h : Same w w') (hr : w.heap.size ≤ r) (y n s p : Value) :
    Same w ((((w'.setCell ⟨r, 0, none⟩ y).setCell ⟨r, 1, none⟩ n).setCell ⟨r, 2, none⟩ s).setCell ⟨r, 3, none⟩ p) :=
  (((h.setCell _ _ (fun h => by simp at h; omega)).setCell _ _ (fun h => by simp at h; omega)).setCell _ _ (fun h => by simp at h; omega)).setCell _ _ (fun h => by simp at h; omega)
end Go.Proofs.Ytacjkbljokjdkaa.ba
