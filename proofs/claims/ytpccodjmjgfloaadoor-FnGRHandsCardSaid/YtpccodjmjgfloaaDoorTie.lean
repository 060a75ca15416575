/-
  DERIVED. GIVEN WITH THE SEED: THE PROGRAM's TIES (one call each: nine closed facts by the kernel) AND EACH ROW's TIE, after the 31st guide's Derived/Test/Toyas{Tie, Card}.lean. No idea stands in it: it is a product of the set-up. Laid BY PROGRAM, IN A SANDBOX (cutbox-door.mjs). By AI agents, Wed Nov 11 2026. No macro, syntax, notation, axiom, sorry.
-/
import Derived.Test.YtpccodjmjgfloaaDoorRows
import Derived.LaidByTextLater
import Derived.SevenTiedAt
import Derived.LaidSub
import Derived.LaidOnce
namespace Go.Proofs.YtpccodjmjgfloaaDoor
open Go
set_option maxRecDepth 100000
theorem seatTie1 : Tryd.prog.laidByTextLater [("given.example/pub-lumberyard/pub/godatastructures/graph.ErrVertexNotFound", Rows.laid_given_example_pub_lumberyard_pub_godatastructures_graph_ErrVertexNotFound), ("given.example/pub-lumberyard/pub/godatastructures/graph.ErrSelfLoop", Rows.laid_given_example_pub_lumberyard_pub_godatastructures_graph_ErrSelfLoop), ("given.example/pub-lumberyard/pub/godatastructures/graph.ErrParallelEdge", Rows.laid_given_example_pub_lumberyard_pub_godatastructures_graph_ErrParallelEdge)] [.sentinel, .sentinel, .sentinel] true :=
  Program.laidByTextLater_by_one 66 8 2 (by kernel_rfl) (by kernel_rfl) (by kernel_rfl) (by kernel_rfl) (by kernel_rfl) (by kernel_rfl) (fun _ _ => by kernel_rfl)
theorem noOwnUnsafe : Tryd.pinned.checked.prog.headLifts.contains "ownunsafe" = false := by kernel_rfl
theorem tie : Tryd.prog.laidByTextLater [("given.example/pub-lumberyard/pub/godatastructures/graph.ErrVertexNotFound", Rows.laid_given_example_pub_lumberyard_pub_godatastructures_graph_ErrVertexNotFound), ("given.example/pub-lumberyard/pub/godatastructures/graph.ErrSelfLoop", Rows.laid_given_example_pub_lumberyard_pub_godatastructures_graph_ErrSelfLoop), ("given.example/pub-lumberyard/pub/godatastructures/graph.ErrParallelEdge", Rows.laid_given_example_pub_lumberyard_pub_godatastructures_graph_ErrParallelEdge)] [.sentinel, .sentinel, .sentinel] true :=
  Program.laidByTextLater.sub seatTie1 ["given.example/pub-lumberyard/pub/godatastructures/graph.ErrVertexNotFound", "given.example/pub-lumberyard/pub/godatastructures/graph.ErrSelfLoop", "given.example/pub-lumberyard/pub/godatastructures/graph.ErrParallelEdge"] (by kernel_rfl) (by kernel_rfl)
theorem fnGRRuns_row_tie : Rows.fnGRRunsRow.laidByTextAt .later Tryd.pinned [.sentinel, .sentinel, .sentinel] true :=
  OpenClaim.laidByTextAt_later rfl rfl tie noOwnUnsafe
theorem fnGRHands_row_tie : Rows.fnGRHandsRow.laidByTextAt .later Tryd.pinned [.sentinel, .sentinel, .sentinel] true :=
  OpenClaim.laidByTextAt_later rfl rfl tie noOwnUnsafe
theorem fnGRRunsUpto_row_tie : Rows.fnGRRunsUptoRow.laidByTextAt .later Tryd.pinned [.sentinel, .sentinel, .sentinel] true :=
  OpenClaim.laidByTextAt_later rfl rfl tie noOwnUnsafe
theorem fnGRHandsUpto_row_tie : Rows.fnGRHandsUptoRow.laidByTextAt .later Tryd.pinned [.sentinel, .sentinel, .sentinel] true :=
  OpenClaim.laidByTextAt_later rfl rfl tie noOwnUnsafe
end Go.Proofs.YtpccodjmjgfloaaDoor
