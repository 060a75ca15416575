/-
  The ways out of nested blocks, one at a time: a switch of many cases would else cost the kernel twice as much a case.
-/
import Derived.WalkKit
namespace Go.Proofs.Ytpiajkabikbdnaa.heap
open Go.RowKit
section
variable {K : Act → World → Prop} {Q : Exit → Act → World → Prop} {a : Act} {w : World} {n m : Nat}
theorem then_normal (h : K a w) : Exit.then K Q .normal a w := h
theorem then_exit (h : Q (.exit m) a w) : Exit.then K Q (.exit m) a w := h
theorem in_normal (h : Q .normal a w) : Exit.inBlock n Q .normal a w := h
theorem in_hit (h : Q .normal a w) : Exit.inBlock n Q (.exit n) a w := by
  show (if n = n then Q .normal a w else Q (.exit n) a w)
  rw [if_pos rfl]; exact h
theorem in_pass (hne : m ≠ n) (h : Q (.exit m) a w) : Exit.inBlock n Q (.exit m) a w := by
  show (if m = n then Q .normal a w else Q (.exit m) a w)
  rw [if_neg hne]; exact h
end
end Go.Proofs.Ytpiajkabikbdnaa.heap
