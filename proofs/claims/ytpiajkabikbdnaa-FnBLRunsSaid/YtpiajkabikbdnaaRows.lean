/-
  No cell of these rows narrows 'for every input' (looked for: loops, veiled, ifaces, maps, wideKeys, modest, calm, conditions, laid).
  DERIVED. THE GIVEN ROWS OF THIS SEAT. 6 by the template 'for every input the law returns true; each argument reads behind the call as it read before'; 0 by the template 'total and deterministic' (their statements: YtpiajkabikbdnaaTotals.lean).
  GIVEN WITH THE SEED: the statements are not yours to turn. If you find one false, say at which input.
  Laid BY PROGRAM, IN A SANDBOX (cutbox-rows.mjs): the forced cells as the released guide's own fill.sh prints them over the translation a284e007d02245df… (all of the seat's roots in one cut). By AI agents, Wed Nov 11 2026. No macro, syntax, notation, axiom, sorry.
-/
import Derived.Test.YtpiajkabikbdnaaChecked
import GoSem.Claim
import GoSem.ClaimJoined
import GoSem.ClaimMapViews
import Derived.JoinedTies
import Derived.KernelRfl
namespace Go.Proofs.Ytpiajkabikbdnaa
/- THE CELL 'sum', in the pinned program and in every row, IS THE sha256 OF THE DUMP (.gsa) THAT YtpiajkabikbdnaaProg.lean LOADS. Nothing in Lean hashes anything: it is a label: what it is worth is what the hold of that sum in a sandbox is worth. -/
noncomputable def Try.pinned : Pinned := { name := "ytpiajkabikbdnaa", sum := "a284e007d02245df97fd5050f50f8d0fe18bc945f8b00085cddd54870e0c3106", checked := Try.checked }
namespace Rows
def none {H : Type} : Left H := { results := [], args := [] }

/-- 'laws.FnBLPlaces': WHATEVER THE INPUT: true; the input reads as it did. -/
def fnBLPlacesSpec : ChangeSpec := { name := "fnBLPlaces", fn := fun _ => fun
  | [d1, d2, d3, d4] => { results := [.lit (.bool true)], args := [d1, d2, d3, d4] }
  | _ => none }
def fnBLPlacesRow : OpenClaim := { program := "ytpiajkabikbdnaa", sum := "a284e007d02245df97fd5050f50f8d0fe18bc945f8b00085cddd54870e0c3106", func := "given.example/pub-lumberyard/laws.FnBLPlaces", spec := "fnBLPlaces", apart := false }
def FnBLPlacesSaid : Prop := fnBLPlacesRow.holds Try.pinned (OpenSpec.ofChange fnBLPlacesSpec)

/-- ITS FALSE NEIGHBOUR: 'it returns false'. Refute it at one input. -/
def fnBLPlacesWrong : ChangeSpec := { name := "fnBLPlaces", fn := fun _ => fun
  | [d1, d2, d3, d4] => { results := [.lit (.bool false)], args := [d1, d2, d3, d4] }
  | _ => none }
def FnBLPlacesWrongFalsely : Prop := fnBLPlacesRow.holds Try.pinned (OpenSpec.ofChange fnBLPlacesWrong)

/-- 'laws.FnBLFrom': WHATEVER THE INPUT: true; the input reads as it did. -/
def fnBLFromSpec : ChangeSpec := { name := "fnBLFrom", fn := fun _ => fun
  | [d1, d2, d3] => { results := [.lit (.bool true)], args := [d1, d2, d3] }
  | _ => none }
def fnBLFromRow : OpenClaim := { program := "ytpiajkabikbdnaa", sum := "a284e007d02245df97fd5050f50f8d0fe18bc945f8b00085cddd54870e0c3106", func := "given.example/pub-lumberyard/laws.FnBLFrom", spec := "fnBLFrom", apart := false }
def FnBLFromSaid : Prop := fnBLFromRow.holds Try.pinned (OpenSpec.ofChange fnBLFromSpec)

/-- ITS FALSE NEIGHBOUR: 'it returns false'. Refute it at one input. -/
def fnBLFromWrong : ChangeSpec := { name := "fnBLFrom", fn := fun _ => fun
  | [d1, d2, d3] => { results := [.lit (.bool false)], args := [d1, d2, d3] }
  | _ => none }
def FnBLFromWrongFalsely : Prop := fnBLFromRow.holds Try.pinned (OpenSpec.ofChange fnBLFromWrong)

/-- 'laws.FnBLEqual': WHATEVER THE INPUT: true; the input reads as it did. -/
def fnBLEqualSpec : ChangeSpec := { name := "fnBLEqual", fn := fun _ => fun
  | [d1, d2, d3, d4, d5, d6, d7] => { results := [.lit (.bool true)], args := [d1, d2, d3, d4, d5, d6, d7] }
  | _ => none }
def fnBLEqualRow : OpenClaim := { program := "ytpiajkabikbdnaa", sum := "a284e007d02245df97fd5050f50f8d0fe18bc945f8b00085cddd54870e0c3106", func := "given.example/pub-lumberyard/laws.FnBLEqual", spec := "fnBLEqual", apart := false }
def FnBLEqualSaid : Prop := fnBLEqualRow.holds Try.pinned (OpenSpec.ofChange fnBLEqualSpec)

/-- ITS FALSE NEIGHBOUR: 'it returns false'. Refute it at one input. -/
def fnBLEqualWrong : ChangeSpec := { name := "fnBLEqual", fn := fun _ => fun
  | [d1, d2, d3, d4, d5, d6, d7] => { results := [.lit (.bool false)], args := [d1, d2, d3, d4, d5, d6, d7] }
  | _ => none }
def FnBLEqualWrongFalsely : Prop := fnBLEqualRow.holds Try.pinned (OpenSpec.ofChange fnBLEqualWrong)

/-- 'laws.FnBLAdd': WHATEVER THE INPUT: true; the input reads as it did. -/
def fnBLAddSpec : ChangeSpec := { name := "fnBLAdd", fn := fun _ => fun
  | [d1, d2, d3, d4] => { results := [.lit (.bool true)], args := [d1, d2, d3, d4] }
  | _ => none }
def fnBLAddRow : OpenClaim := { program := "ytpiajkabikbdnaa", sum := "a284e007d02245df97fd5050f50f8d0fe18bc945f8b00085cddd54870e0c3106", func := "given.example/pub-lumberyard/laws.FnBLAdd", spec := "fnBLAdd", named := ["encoding/binary.LittleEndian"], apart := false }
def FnBLAddSaid : Prop := fnBLAddRow.holds Try.pinned (OpenSpec.ofChange fnBLAddSpec)

/-- ITS FALSE NEIGHBOUR: 'it returns false'. Refute it at one input. -/
def fnBLAddWrong : ChangeSpec := { name := "fnBLAdd", fn := fun _ => fun
  | [d1, d2, d3, d4] => { results := [.lit (.bool false)], args := [d1, d2, d3, d4] }
  | _ => none }
def FnBLAddWrongFalsely : Prop := fnBLAddRow.holds Try.pinned (OpenSpec.ofChange fnBLAddWrong)

/-- 'laws.FnBLTestAndAdd': WHATEVER THE INPUT: true; the input reads as it did. -/
def fnBLTestAndAddSpec : ChangeSpec := { name := "fnBLTestAndAdd", fn := fun _ => fun
  | [d1, d2, d3, d4] => { results := [.lit (.bool true)], args := [d1, d2, d3, d4] }
  | _ => none }
def fnBLTestAndAddRow : OpenClaim := { program := "ytpiajkabikbdnaa", sum := "a284e007d02245df97fd5050f50f8d0fe18bc945f8b00085cddd54870e0c3106", func := "given.example/pub-lumberyard/laws.FnBLTestAndAdd", spec := "fnBLTestAndAdd", named := ["encoding/binary.LittleEndian"], apart := false }
def FnBLTestAndAddSaid : Prop := fnBLTestAndAddRow.holds Try.pinned (OpenSpec.ofChange fnBLTestAndAddSpec)

/-- ITS FALSE NEIGHBOUR: 'it returns false'. Refute it at one input. -/
def fnBLTestAndAddWrong : ChangeSpec := { name := "fnBLTestAndAdd", fn := fun _ => fun
  | [d1, d2, d3, d4] => { results := [.lit (.bool false)], args := [d1, d2, d3, d4] }
  | _ => none }
def FnBLTestAndAddWrongFalsely : Prop := fnBLTestAndAddRow.holds Try.pinned (OpenSpec.ofChange fnBLTestAndAddWrong)

/-- 'laws.FnBLRuns': WHATEVER THE INPUT: true; the input reads as it did. -/
def fnBLRunsSpec : ChangeSpec := { name := "fnBLRuns", fn := fun _ => fun
  | [d1, d2, d3] => { results := [.lit (.bool true)], args := [d1, d2, d3] }
  | _ => none }
def fnBLRunsRow : OpenClaim := { program := "ytpiajkabikbdnaa", sum := "a284e007d02245df97fd5050f50f8d0fe18bc945f8b00085cddd54870e0c3106", func := "given.example/pub-lumberyard/laws.FnBLRuns", spec := "fnBLRuns", unfollowed := true, recurses := true, named := ["encoding/binary.LittleEndian"], apart := false }
def FnBLRunsSaid : Prop := fnBLRunsRow.holds Try.pinned (OpenSpec.ofChange fnBLRunsSpec)

/-- ITS FALSE NEIGHBOUR: 'it returns false'. Refute it at one input. -/
def fnBLRunsWrong : ChangeSpec := { name := "fnBLRuns", fn := fun _ => fun
  | [d1, d2, d3] => { results := [.lit (.bool false)], args := [d1, d2, d3] }
  | _ => none }
def FnBLRunsWrongFalsely : Prop := fnBLRunsRow.holds Try.pinned (OpenSpec.ofChange fnBLRunsWrong)

/- THE SECOND FORM. 'bulk': how many values and letters a reading holds, each counted each time it is reached (what is shared counts as often as it is met; a slice's spare places count too). A statement '..UptoSaid' is the law's where the arguments, and the package variables that the reading takes, are together of bulk at most 1048576: NARROWER than '..Said'. Prove '..Said' where nothing that the law and all that it calls make is longer than what came in: it says more and counts as full. Else prove '..UptoSaid'. A law counts once. -/
mutual
def uptoBulk {H : Type} : DataW H → Nat
  | .lit (.string bytes) => bytes.length + 1
  | .lit _ => 1
  | .nil => 1
  | .ptr d => uptoBulk d + 1
  | .slice elems spare => uptoBulkAll elems + uptoBulkAll spare + 1
  | .agg parts => uptoBulkAll parts + 1
  | .iface _ d => uptoBulk d + 1
  | .map entries => uptoBulkEntries entries + 1
  | .held _ => 1
def uptoBulkAll {H : Type} : List (DataW H) → Nat
  | [] => 0
  | d :: r => uptoBulk d + uptoBulkAll r
def uptoBulkEntries {H : Type} : List (Lit × DataW H) → Nat
  | [] => 0
  | x :: r => uptoBulkEntry x + uptoBulkEntries r
def uptoBulkEntry {H : Type} : Lit × DataW H → Nat
  | (.string bytes, d) => bytes.length + uptoBulk d + 1
  | (_, d) => uptoBulk d + 1
 end
def uptoSmall : (H : Type) → List (DataW H) → Bool := fun _ ds => decide (uptoBulkAll ds ≤ 1048576)
def OpenSpec.upto (s : _root_.Go.ChangeSpec) : _root_.Go.OpenSpec := { _root_.Go.OpenSpec.ofChange s with cond := some uptoSmall }

/-- 'laws.FnBLPlaces', WHERE WHAT IT READS IS OF BULK AT MOST 1048576: true; the input reads as it did. -/
def fnBLPlacesUptoRow : OpenClaim := { program := "ytpiajkabikbdnaa", sum := "a284e007d02245df97fd5050f50f8d0fe18bc945f8b00085cddd54870e0c3106", func := "given.example/pub-lumberyard/laws.FnBLPlaces", spec := "fnBLPlaces", apart := false, narrowed := true }
def FnBLPlacesUptoSaid : Prop := fnBLPlacesUptoRow.holds Try.pinned (OpenSpec.upto fnBLPlacesSpec)

/-- 'laws.FnBLFrom', WHERE WHAT IT READS IS OF BULK AT MOST 1048576: true; the input reads as it did. -/
def fnBLFromUptoRow : OpenClaim := { program := "ytpiajkabikbdnaa", sum := "a284e007d02245df97fd5050f50f8d0fe18bc945f8b00085cddd54870e0c3106", func := "given.example/pub-lumberyard/laws.FnBLFrom", spec := "fnBLFrom", apart := false, narrowed := true }
def FnBLFromUptoSaid : Prop := fnBLFromUptoRow.holds Try.pinned (OpenSpec.upto fnBLFromSpec)

/-- 'laws.FnBLEqual', WHERE WHAT IT READS IS OF BULK AT MOST 1048576: true; the input reads as it did. -/
def fnBLEqualUptoRow : OpenClaim := { program := "ytpiajkabikbdnaa", sum := "a284e007d02245df97fd5050f50f8d0fe18bc945f8b00085cddd54870e0c3106", func := "given.example/pub-lumberyard/laws.FnBLEqual", spec := "fnBLEqual", apart := false, narrowed := true }
def FnBLEqualUptoSaid : Prop := fnBLEqualUptoRow.holds Try.pinned (OpenSpec.upto fnBLEqualSpec)

/-- 'laws.FnBLAdd', WHERE WHAT IT READS IS OF BULK AT MOST 1048576: true; the input reads as it did. -/
def fnBLAddUptoRow : OpenClaim := { program := "ytpiajkabikbdnaa", sum := "a284e007d02245df97fd5050f50f8d0fe18bc945f8b00085cddd54870e0c3106", func := "given.example/pub-lumberyard/laws.FnBLAdd", spec := "fnBLAdd", named := ["encoding/binary.LittleEndian"], apart := false, narrowed := true }
def FnBLAddUptoSaid : Prop := fnBLAddUptoRow.holds Try.pinned (OpenSpec.upto fnBLAddSpec)

/-- 'laws.FnBLTestAndAdd', WHERE WHAT IT READS IS OF BULK AT MOST 1048576: true; the input reads as it did. -/
def fnBLTestAndAddUptoRow : OpenClaim := { program := "ytpiajkabikbdnaa", sum := "a284e007d02245df97fd5050f50f8d0fe18bc945f8b00085cddd54870e0c3106", func := "given.example/pub-lumberyard/laws.FnBLTestAndAdd", spec := "fnBLTestAndAdd", named := ["encoding/binary.LittleEndian"], apart := false, narrowed := true }
def FnBLTestAndAddUptoSaid : Prop := fnBLTestAndAddUptoRow.holds Try.pinned (OpenSpec.upto fnBLTestAndAddSpec)

/-- 'laws.FnBLRuns', WHERE WHAT IT READS IS OF BULK AT MOST 1048576: true; the input reads as it did. -/
def fnBLRunsUptoRow : OpenClaim := { program := "ytpiajkabikbdnaa", sum := "a284e007d02245df97fd5050f50f8d0fe18bc945f8b00085cddd54870e0c3106", func := "given.example/pub-lumberyard/laws.FnBLRuns", spec := "fnBLRuns", unfollowed := true, recurses := true, named := ["encoding/binary.LittleEndian"], apart := false, narrowed := true }
def FnBLRunsUptoSaid : Prop := fnBLRunsUptoRow.holds Try.pinned (OpenSpec.upto fnBLRunsSpec)

end Rows
end Go.Proofs.Ytpiajkabikbdnaa
