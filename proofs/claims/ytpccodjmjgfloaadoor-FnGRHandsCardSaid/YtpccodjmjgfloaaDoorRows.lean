/-
  NARROWER THAN 'FOR EVERY INPUT', by the rows' own cells (each row's printed sentence says how): FnGRRuns: ifaces, laid · FnGRHands: ifaces, laid.
  DERIVED. THE GIVEN ROWS OF THIS SEAT. 2 by the template 'for every input the law returns true; each argument reads behind the call as it read before'; 0 by the template 'total and deterministic' (their statements: YtpccodjmjgfloaaDoorTotals.lean).
  GIVEN WITH THE SEED: the statements are not yours to turn. If you find one false, say at which input.
  Laid BY PROGRAM, IN A SANDBOX (cutbox-rows.mjs): the forced cells as the released guide's own fill.sh prints them over the translation 6461882f06c387ac… (all of the seat's roots in one cut). By AI agents, Wed Nov 11 2026. No macro, syntax, notation, axiom, sorry.
-/
import Derived.Test.YtpccodjmjgfloaaDoorChecked
import GoSem.Claim
import GoSem.ClaimJoined
import GoSem.ClaimMapViews
import Derived.JoinedTies
import Derived.KernelRfl
namespace Go.Proofs.YtpccodjmjgfloaaDoor
/- THE CELL 'sum', in the pinned program and in every row, IS THE sha256 OF THE DUMP (.gsa) THAT YtpccodjmjgfloaaDoorProg.lean LOADS. Nothing in Lean hashes anything: it is a label: what it is worth is what the hold of that sum in a sandbox is worth. -/
noncomputable def Tryd.pinned : Pinned := { name := "ytpccodjmjgfloaadoor", sum := "6461882f06c387ac4abbf69231aa54ff3e9fc5264f073a0994ab77940d1abd68", checked := Tryd.checked }
namespace Rows
def none {H : Type} : Left H := { results := [], args := [] }

/- WHAT THE LISTED PACKAGE-LEVEL VARIABLES READ AS WHEN THE CALL BEGINS. Each datum BY PROGRAM (the guide's laid-datum.mjs) off the statement by which the dump's own 'gosem.cut.vars' lays the variable. In a bare row this is a premise. The card (YtpccodjmjgfloaaDoorCards.lean) ties it to the program's text. -/
def laid_given_example_pub_lumberyard_pub_godatastructures_graph_ErrVertexNotFound {H : Type} : DataW H := .iface "*errors.errorString" (.ptr (.agg [.lit (.string [118, 101, 114, 116, 101, 120, 32, 110, 111, 116, 32, 102, 111, 117, 110, 100])]))
def laid_given_example_pub_lumberyard_pub_godatastructures_graph_ErrSelfLoop {H : Type} : DataW H := .iface "*errors.errorString" (.ptr (.agg [.lit (.string [115, 101, 108, 102, 32, 108, 111, 111, 112, 115, 32, 110, 111, 116, 32, 112, 101, 114, 109, 105, 116, 116, 101, 100])]))
def laid_given_example_pub_lumberyard_pub_godatastructures_graph_ErrParallelEdge {H : Type} : DataW H := .iface "*errors.errorString" (.ptr (.agg [.lit (.string [112, 97, 114, 97, 108, 108, 101, 108, 32, 101, 100, 103, 101, 115, 32, 97, 114, 101, 32, 110, 111, 116, 32, 112, 101, 114, 109, 105, 116, 116, 101, 100])]))

/-- 'laws.FnGRRuns': WHATEVER THE INPUT: true; the input reads as it did. -/
def fnGRRunsSpec : ChangeSpec := { name := "fnGRRuns", vars := ["given.example/pub-lumberyard/pub/godatastructures/graph.ErrSelfLoop", "given.example/pub-lumberyard/pub/godatastructures/graph.ErrParallelEdge", "given.example/pub-lumberyard/pub/godatastructures/graph.ErrVertexNotFound"], fn := fun _ => fun
  | [d, g1, g2, g3] => { results := [.lit (.bool true)], args := [d], vars := [g1, g2, g3] }
  | _ => none }
def fnGRRunsRow : OpenClaim := { program := "ytpccodjmjgfloaadoor", sum := "6461882f06c387ac4abbf69231aa54ff3e9fc5264f073a0994ab77940d1abd68", func := "given.example/pub-lumberyard/laws.FnGRRuns", spec := "fnGRRuns", named := ["given.example/pub-lumberyard/pub/godatastructures/graph.ErrSelfLoop", "given.example/pub-lumberyard/pub/godatastructures/graph.ErrParallelEdge", "given.example/pub-lumberyard/pub/godatastructures/graph.ErrVertexNotFound"], ifaces := true, apart := false, laid := [("given.example/pub-lumberyard/pub/godatastructures/graph.ErrVertexNotFound", laid_given_example_pub_lumberyard_pub_godatastructures_graph_ErrVertexNotFound), ("given.example/pub-lumberyard/pub/godatastructures/graph.ErrSelfLoop", laid_given_example_pub_lumberyard_pub_godatastructures_graph_ErrSelfLoop), ("given.example/pub-lumberyard/pub/godatastructures/graph.ErrParallelEdge", laid_given_example_pub_lumberyard_pub_godatastructures_graph_ErrParallelEdge)] }
def FnGRRunsSaid : Prop := fnGRRunsRow.holds Tryd.pinned (OpenSpec.ofChange fnGRRunsSpec)

/-- ITS FALSE NEIGHBOUR: 'it returns false'. Refute it at one input. -/
def fnGRRunsWrong : ChangeSpec := { name := "fnGRRuns", vars := ["given.example/pub-lumberyard/pub/godatastructures/graph.ErrSelfLoop", "given.example/pub-lumberyard/pub/godatastructures/graph.ErrParallelEdge", "given.example/pub-lumberyard/pub/godatastructures/graph.ErrVertexNotFound"], fn := fun _ => fun
  | [d, g1, g2, g3] => { results := [.lit (.bool false)], args := [d], vars := [g1, g2, g3] }
  | _ => none }
def FnGRRunsWrongFalsely : Prop := fnGRRunsRow.holds Tryd.pinned (OpenSpec.ofChange fnGRRunsWrong)

/-- 'laws.FnGRHands': WHATEVER THE INPUT: true; the input reads as it did. -/
def fnGRHandsSpec : ChangeSpec := { name := "fnGRHands", vars := ["given.example/pub-lumberyard/pub/godatastructures/graph.ErrSelfLoop", "given.example/pub-lumberyard/pub/godatastructures/graph.ErrParallelEdge", "given.example/pub-lumberyard/pub/godatastructures/graph.ErrVertexNotFound"], fn := fun _ => fun
  | [d, g1, g2, g3] => { results := [.lit (.bool true)], args := [d], vars := [g1, g2, g3] }
  | _ => none }
def fnGRHandsRow : OpenClaim := { program := "ytpccodjmjgfloaadoor", sum := "6461882f06c387ac4abbf69231aa54ff3e9fc5264f073a0994ab77940d1abd68", func := "given.example/pub-lumberyard/laws.FnGRHands", spec := "fnGRHands", named := ["given.example/pub-lumberyard/pub/godatastructures/graph.ErrSelfLoop", "given.example/pub-lumberyard/pub/godatastructures/graph.ErrParallelEdge", "given.example/pub-lumberyard/pub/godatastructures/graph.ErrVertexNotFound"], ifaces := true, apart := false, laid := [("given.example/pub-lumberyard/pub/godatastructures/graph.ErrVertexNotFound", laid_given_example_pub_lumberyard_pub_godatastructures_graph_ErrVertexNotFound), ("given.example/pub-lumberyard/pub/godatastructures/graph.ErrSelfLoop", laid_given_example_pub_lumberyard_pub_godatastructures_graph_ErrSelfLoop), ("given.example/pub-lumberyard/pub/godatastructures/graph.ErrParallelEdge", laid_given_example_pub_lumberyard_pub_godatastructures_graph_ErrParallelEdge)] }
def FnGRHandsSaid : Prop := fnGRHandsRow.holds Tryd.pinned (OpenSpec.ofChange fnGRHandsSpec)

/-- ITS FALSE NEIGHBOUR: 'it returns false'. Refute it at one input. -/
def fnGRHandsWrong : ChangeSpec := { name := "fnGRHands", vars := ["given.example/pub-lumberyard/pub/godatastructures/graph.ErrSelfLoop", "given.example/pub-lumberyard/pub/godatastructures/graph.ErrParallelEdge", "given.example/pub-lumberyard/pub/godatastructures/graph.ErrVertexNotFound"], fn := fun _ => fun
  | [d, g1, g2, g3] => { results := [.lit (.bool false)], args := [d], vars := [g1, g2, g3] }
  | _ => none }
def FnGRHandsWrongFalsely : Prop := fnGRHandsRow.holds Tryd.pinned (OpenSpec.ofChange fnGRHandsWrong)

/- THE SECOND FORM. 'bulk': how many values and letters a reading holds, each counted each time it is reached (what is shared counts as often as it is met; a slice's spare places count too). A statement '..UptoSaid' is the law's where the arguments, and the package variables that the reading takes, are together of bulk at most 1048576: NARROWER than '..Said'. Prove '..Said' where nothing that the law and all that it calls make is longer than what came in: it says more and counts as full. Else prove '..UptoSaid'. A law counts once. -/
mutual
def uptoBulk {H : Type} : DataW H → Nat
  | .lit (.string bytes) => bytes.length + 1
  | .lit _ => 1
  | .nil => 1
  | .ptr d => uptoBulk d + 1
  | .slice elems spare => uptoBulkAll elems + uptoBulkAll spare + 1
  | .agg parts => uptoBulkAll parts + 1
  | .iface _ d => uptoBulk d + 1
  | .map entries => uptoBulkEntries entries + 1
  | .held _ => 1
def uptoBulkAll {H : Type} : List (DataW H) → Nat
  | [] => 0
  | d :: r => uptoBulk d + uptoBulkAll r
def uptoBulkEntries {H : Type} : List (Lit × DataW H) → Nat
  | [] => 0
  | x :: r => uptoBulkEntry x + uptoBulkEntries r
def uptoBulkEntry {H : Type} : Lit × DataW H → Nat
  | (.string bytes, d) => bytes.length + uptoBulk d + 1
  | (_, d) => uptoBulk d + 1
 end
def uptoSmall : (H : Type) → List (DataW H) → Bool := fun _ ds => decide (uptoBulkAll ds ≤ 1048576)
def OpenSpec.upto (s : _root_.Go.ChangeSpec) : _root_.Go.OpenSpec := { _root_.Go.OpenSpec.ofChange s with cond := some uptoSmall }

/-- 'laws.FnGRRuns', WHERE WHAT IT READS IS OF BULK AT MOST 1048576: true; the input reads as it did. -/
def fnGRRunsUptoRow : OpenClaim := { program := "ytpccodjmjgfloaadoor", sum := "6461882f06c387ac4abbf69231aa54ff3e9fc5264f073a0994ab77940d1abd68", func := "given.example/pub-lumberyard/laws.FnGRRuns", spec := "fnGRRuns", named := ["given.example/pub-lumberyard/pub/godatastructures/graph.ErrSelfLoop", "given.example/pub-lumberyard/pub/godatastructures/graph.ErrParallelEdge", "given.example/pub-lumberyard/pub/godatastructures/graph.ErrVertexNotFound"], ifaces := true, apart := false, laid := [("given.example/pub-lumberyard/pub/godatastructures/graph.ErrVertexNotFound", laid_given_example_pub_lumberyard_pub_godatastructures_graph_ErrVertexNotFound), ("given.example/pub-lumberyard/pub/godatastructures/graph.ErrSelfLoop", laid_given_example_pub_lumberyard_pub_godatastructures_graph_ErrSelfLoop), ("given.example/pub-lumberyard/pub/godatastructures/graph.ErrParallelEdge", laid_given_example_pub_lumberyard_pub_godatastructures_graph_ErrParallelEdge)], narrowed := true }
def FnGRRunsUptoSaid : Prop := fnGRRunsUptoRow.holds Tryd.pinned (OpenSpec.upto fnGRRunsSpec)

/-- 'laws.FnGRHands', WHERE WHAT IT READS IS OF BULK AT MOST 1048576: true; the input reads as it did. -/
def fnGRHandsUptoRow : OpenClaim := { program := "ytpccodjmjgfloaadoor", sum := "6461882f06c387ac4abbf69231aa54ff3e9fc5264f073a0994ab77940d1abd68", func := "given.example/pub-lumberyard/laws.FnGRHands", spec := "fnGRHands", named := ["given.example/pub-lumberyard/pub/godatastructures/graph.ErrSelfLoop", "given.example/pub-lumberyard/pub/godatastructures/graph.ErrParallelEdge", "given.example/pub-lumberyard/pub/godatastructures/graph.ErrVertexNotFound"], ifaces := true, apart := false, laid := [("given.example/pub-lumberyard/pub/godatastructures/graph.ErrVertexNotFound", laid_given_example_pub_lumberyard_pub_godatastructures_graph_ErrVertexNotFound), ("given.example/pub-lumberyard/pub/godatastructures/graph.ErrSelfLoop", laid_given_example_pub_lumberyard_pub_godatastructures_graph_ErrSelfLoop), ("given.example/pub-lumberyard/pub/godatastructures/graph.ErrParallelEdge", laid_given_example_pub_lumberyard_pub_godatastructures_graph_ErrParallelEdge)], narrowed := true }
def FnGRHandsUptoSaid : Prop := fnGRHandsUptoRow.holds Tryd.pinned (OpenSpec.upto fnGRHandsSpec)

end Rows
end Go.Proofs.YtpccodjmjgfloaaDoor
