/-
  Elements are compared by both of their parts.
-/
import Derived.Test.YtggnhadmfkhflaaDoorPqAllW
namespace Go.Proofs.YtggnhadmfkhflaaDoor.pq
open Go.RowKit Go.Proofs.YtggnhadmfkhflaaDoor.base Go.Proofs.YtggnhadmfkhflaaDoor.heap Go.Proofs.YtggnhadmfkhflaaDoor.rows
set_option linter.unusedVariables false

theorem eqI (d : Nat) (n m : Int) (w : World) : (Op.equalIn (d + 1) 3 (.int .i64 n) (.int .i64 m)).run Tryd.prog w = .ok (n == m) w := by
  simp [Op.equalIn, run_underlying Tryd.underlying3]
theorem eqS (d : Nat) (k t k' t' : Int) (w : World) : (Op.equalIn (d + 1 + 1) 34 (.agg #[.int .i64 k, .int .i64 t]) (.agg #[.int .i64 k', .int .i64 t'])).run Tryd.prog w = .ok (k == k' && t == t') w := by
  have hst : Tryd.prog.stoodInHeld 34 = false := by kernel_rfl
  have p0 : ∀ (k t : Int) (w : World), (part 3 #[.int .i64 k, .int .i64 t] 0).run Tryd.prog w = .ok (.int .i64 k) w := fun _ _ _ => by kernel_rfl
  have p1 : ∀ (k t : Int) (w : World), (part 3 #[.int .i64 k, .int .i64 t] 1).run Tryd.prog w = .ok (.int .i64 t) w := fun _ _ _ => by kernel_rfl
  have hp : ∀ w, (Sem.run Tryd.prog program w) = .ok Tryd.prog w := fun _ => rfl
  rw [Op.equalIn.eq_def]
  simp only [Sem.run_bind, run_underlying Tryd.underlying34, Result.andThen_ok, hp, hst]
  simp [← Array.forIn_toList, List.forIn_cons, p0, p1, eqI, Result.andThen]
  by_cases h1 : k = k'
  · by_cases h2 : t = t'
    · simp [h1, h2, p1, eqI, Result.andThen]
    · simp [h1, h2, p1, eqI, Result.andThen]
  · simp [h1, Result.andThen]
theorem neqS (k t k' t' : Int) (w : World) : (binOp .neq 34 (.agg #[.int .i64 k, .int .i64 t]) (.agg #[.int .i64 k', .int .i64 t'])).run Tryd.prog w = .ok (.bool (!(k == k' && t == t'))) w := by
  have h := eqS 9998 k t k' t' w
  have h' : (Op.equal 34 (.agg #[.int .i64 k, .int .i64 t]) (.agg #[.int .i64 k', .int .i64 t'])).run Tryd.prog w = .ok (k == k' && t == t') w := h
  simp [binOp, h', Result.andThen]
theorem eq_it (k t : Int) (w : World) : (binOp .neq 34 (.agg #[.int .i64 k, .int .i64 t]) (.agg #[.int .i64 k, .int .i64 t])).run Tryd.prog w = .ok (.bool false) w := by
  rw [neqS]; simp
end Go.Proofs.YtggnhadmfkhflaaDoor.pq
