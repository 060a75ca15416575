/-
  No cell of these rows narrows 'for every input' (looked for: loops, veiled, ifaces, maps, wideKeys, modest, calm, conditions, laid).
  DERIVED. THE GIVEN ROWS OF THIS SEAT. 8 by the template 'for every input the law returns true; each argument reads behind the call as it read before'; 0 by the template 'total and deterministic' (their statements: YthnfoiaemeklnaaTotals.lean).
  GIVEN WITH THE SEED: the statements are not yours to turn. If you find one false, say at which input.
  Laid BY PROGRAM, IN A SANDBOX (cutbox-rows.mjs): the forced cells as the released guide's own fill.sh prints them over the translation 86ee38b29857ccfa… (all of the seat's roots in one cut). By AI agents, Wed Nov 11 2026. No macro, syntax, notation, axiom, sorry.
-/
import Derived.Test.YthnfoiaemeklnaaChecked
import GoSem.Claim
import GoSem.ClaimJoined
import GoSem.ClaimMapViews
import Derived.JoinedTies
import Derived.KernelRfl
namespace Go.Proofs.Ythnfoiaemeklnaa
/- THE CELL 'sum', in the pinned program and in every row, IS THE sha256 OF THE DUMP (.gsa) THAT YthnfoiaemeklnaaProg.lean LOADS. Nothing in Lean hashes anything: it is a label: what it is worth is what the hold of that sum in a sandbox is worth. -/
noncomputable def Try.pinned : Pinned := { name := "ythnfoiaemeklnaa", sum := "86ee38b29857ccfaaa86ee6ecf84145f831683a791392cb68a0597c96fe4f821", checked := Try.checked }
namespace Rows
def none {H : Type} : Left H := { results := [], args := [] }

/-- 'laws.FnBSEqual': WHATEVER THE INPUT: true; the input reads as it did. -/
def fnBSEqualSpec : ChangeSpec := { name := "fnBSEqual", fn := fun _ => fun
  | [d1, d2, d3, d4] => { results := [.lit (.bool true)], args := [d1, d2, d3, d4] }
  | _ => none }
def fnBSEqualRow : OpenClaim := { program := "ythnfoiaemeklnaa", sum := "86ee38b29857ccfaaa86ee6ecf84145f831683a791392cb68a0597c96fe4f821", func := "given.example/pub-lumberyard/laws.FnBSEqual", spec := "fnBSEqual", unfollowed := true, recurses := true, apart := false }
def FnBSEqualSaid : Prop := fnBSEqualRow.holds Try.pinned (OpenSpec.ofChange fnBSEqualSpec)

/-- ITS FALSE NEIGHBOUR: 'it returns false'. Refute it at one input. -/
def fnBSEqualWrong : ChangeSpec := { name := "fnBSEqual", fn := fun _ => fun
  | [d1, d2, d3, d4] => { results := [.lit (.bool false)], args := [d1, d2, d3, d4] }
  | _ => none }
def FnBSEqualWrongFalsely : Prop := fnBSEqualRow.holds Try.pinned (OpenSpec.ofChange fnBSEqualWrong)

/-- 'laws.FnBSAsks': WHATEVER THE INPUT: true; the input reads as it did. -/
def fnBSAsksSpec : ChangeSpec := { name := "fnBSAsks", fn := fun _ => fun
  | [d1, d2] => { results := [.lit (.bool true)], args := [d1, d2] }
  | _ => none }
def fnBSAsksRow : OpenClaim := { program := "ythnfoiaemeklnaa", sum := "86ee38b29857ccfaaa86ee6ecf84145f831683a791392cb68a0597c96fe4f821", func := "given.example/pub-lumberyard/laws.FnBSAsks", spec := "fnBSAsks", unfollowed := true, recurses := true, apart := false }
def FnBSAsksSaid : Prop := fnBSAsksRow.holds Try.pinned (OpenSpec.ofChange fnBSAsksSpec)

/-- ITS FALSE NEIGHBOUR: 'it returns false'. Refute it at one input. -/
def fnBSAsksWrong : ChangeSpec := { name := "fnBSAsks", fn := fun _ => fun
  | [d1, d2] => { results := [.lit (.bool false)], args := [d1, d2] }
  | _ => none }
def FnBSAsksWrongFalsely : Prop := fnBSAsksRow.holds Try.pinned (OpenSpec.ofChange fnBSAsksWrong)

/-- 'laws.FnBSShiftLeft': WHATEVER THE INPUT: true; the input reads as it did. -/
def fnBSShiftLeftSpec : ChangeSpec := { name := "fnBSShiftLeft", fn := fun _ => fun
  | [d1, d2] => { results := [.lit (.bool true)], args := [d1, d2] }
  | _ => none }
def fnBSShiftLeftRow : OpenClaim := { program := "ythnfoiaemeklnaa", sum := "86ee38b29857ccfaaa86ee6ecf84145f831683a791392cb68a0597c96fe4f821", func := "given.example/pub-lumberyard/laws.FnBSShiftLeft", spec := "fnBSShiftLeft", unfollowed := true, recurses := true, apart := false }
def FnBSShiftLeftSaid : Prop := fnBSShiftLeftRow.holds Try.pinned (OpenSpec.ofChange fnBSShiftLeftSpec)

/-- ITS FALSE NEIGHBOUR: 'it returns false'. Refute it at one input. -/
def fnBSShiftLeftWrong : ChangeSpec := { name := "fnBSShiftLeft", fn := fun _ => fun
  | [d1, d2] => { results := [.lit (.bool false)], args := [d1, d2] }
  | _ => none }
def FnBSShiftLeftWrongFalsely : Prop := fnBSShiftLeftRow.holds Try.pinned (OpenSpec.ofChange fnBSShiftLeftWrong)

/-- 'laws.FnBSInsert': WHATEVER THE INPUT: true; the input reads as it did. -/
def fnBSInsertSpec : ChangeSpec := { name := "fnBSInsert", fn := fun _ => fun
  | [d1, d2] => { results := [.lit (.bool true)], args := [d1, d2] }
  | _ => none }
def fnBSInsertRow : OpenClaim := { program := "ythnfoiaemeklnaa", sum := "86ee38b29857ccfaaa86ee6ecf84145f831683a791392cb68a0597c96fe4f821", func := "given.example/pub-lumberyard/laws.FnBSInsert", spec := "fnBSInsert", unfollowed := true, recurses := true, apart := false }
def FnBSInsertSaid : Prop := fnBSInsertRow.holds Try.pinned (OpenSpec.ofChange fnBSInsertSpec)

/-- ITS FALSE NEIGHBOUR: 'it returns false'. Refute it at one input. -/
def fnBSInsertWrong : ChangeSpec := { name := "fnBSInsert", fn := fun _ => fun
  | [d1, d2] => { results := [.lit (.bool false)], args := [d1, d2] }
  | _ => none }
def FnBSInsertWrongFalsely : Prop := fnBSInsertRow.holds Try.pinned (OpenSpec.ofChange fnBSInsertWrong)

/-- 'laws.FnBSRanges': WHATEVER THE INPUT: true; the input reads as it did. -/
def fnBSRangesSpec : ChangeSpec := { name := "fnBSRanges", fn := fun _ => fun
  | [d1, d2, d3] => { results := [.lit (.bool true)], args := [d1, d2, d3] }
  | _ => none }
def fnBSRangesRow : OpenClaim := { program := "ythnfoiaemeklnaa", sum := "86ee38b29857ccfaaa86ee6ecf84145f831683a791392cb68a0597c96fe4f821", func := "given.example/pub-lumberyard/laws.FnBSRanges", spec := "fnBSRanges", unfollowed := true, recurses := true, apart := false }
def FnBSRangesSaid : Prop := fnBSRangesRow.holds Try.pinned (OpenSpec.ofChange fnBSRangesSpec)

/-- ITS FALSE NEIGHBOUR: 'it returns false'. Refute it at one input. -/
def fnBSRangesWrong : ChangeSpec := { name := "fnBSRanges", fn := fun _ => fun
  | [d1, d2, d3] => { results := [.lit (.bool false)], args := [d1, d2, d3] }
  | _ => none }
def FnBSRangesWrongFalsely : Prop := fnBSRangesRow.holds Try.pinned (OpenSpec.ofChange fnBSRangesWrong)

/-- 'laws.FnBSMorgan': WHATEVER THE INPUT: true; the input reads as it did. -/
def fnBSMorganSpec : ChangeSpec := { name := "fnBSMorgan", fn := fun _ => fun
  | [d1, d2] => { results := [.lit (.bool true)], args := [d1, d2] }
  | _ => none }
def fnBSMorganRow : OpenClaim := { program := "ythnfoiaemeklnaa", sum := "86ee38b29857ccfaaa86ee6ecf84145f831683a791392cb68a0597c96fe4f821", func := "given.example/pub-lumberyard/laws.FnBSMorgan", spec := "fnBSMorgan", unfollowed := true, recurses := true, apart := false }
def FnBSMorganSaid : Prop := fnBSMorganRow.holds Try.pinned (OpenSpec.ofChange fnBSMorganSpec)

/-- ITS FALSE NEIGHBOUR: 'it returns false'. Refute it at one input. -/
def fnBSMorganWrong : ChangeSpec := { name := "fnBSMorgan", fn := fun _ => fun
  | [d1, d2] => { results := [.lit (.bool false)], args := [d1, d2] }
  | _ => none }
def FnBSMorganWrongFalsely : Prop := fnBSMorganRow.holds Try.pinned (OpenSpec.ofChange fnBSMorganWrong)

/-- 'laws.FnBSDifference': WHATEVER THE INPUT: true; the input reads as it did. -/
def fnBSDifferenceSpec : ChangeSpec := { name := "fnBSDifference", fn := fun _ => fun
  | [d1, d2] => { results := [.lit (.bool true)], args := [d1, d2] }
  | _ => none }
def fnBSDifferenceRow : OpenClaim := { program := "ythnfoiaemeklnaa", sum := "86ee38b29857ccfaaa86ee6ecf84145f831683a791392cb68a0597c96fe4f821", func := "given.example/pub-lumberyard/laws.FnBSDifference", spec := "fnBSDifference", unfollowed := true, recurses := true, apart := false }
def FnBSDifferenceSaid : Prop := fnBSDifferenceRow.holds Try.pinned (OpenSpec.ofChange fnBSDifferenceSpec)

/-- ITS FALSE NEIGHBOUR: 'it returns false'. Refute it at one input. -/
def fnBSDifferenceWrong : ChangeSpec := { name := "fnBSDifference", fn := fun _ => fun
  | [d1, d2] => { results := [.lit (.bool false)], args := [d1, d2] }
  | _ => none }
def FnBSDifferenceWrongFalsely : Prop := fnBSDifferenceRow.holds Try.pinned (OpenSpec.ofChange fnBSDifferenceWrong)

/-- 'laws.FnBSUnion': WHATEVER THE INPUT: true; the input reads as it did. -/
def fnBSUnionSpec : ChangeSpec := { name := "fnBSUnion", fn := fun _ => fun
  | [d1, d2] => { results := [.lit (.bool true)], args := [d1, d2] }
  | _ => none }
def fnBSUnionRow : OpenClaim := { program := "ythnfoiaemeklnaa", sum := "86ee38b29857ccfaaa86ee6ecf84145f831683a791392cb68a0597c96fe4f821", func := "given.example/pub-lumberyard/laws.FnBSUnion", spec := "fnBSUnion", unfollowed := true, recurses := true, apart := false }
def FnBSUnionSaid : Prop := fnBSUnionRow.holds Try.pinned (OpenSpec.ofChange fnBSUnionSpec)

/-- ITS FALSE NEIGHBOUR: 'it returns false'. Refute it at one input. -/
def fnBSUnionWrong : ChangeSpec := { name := "fnBSUnion", fn := fun _ => fun
  | [d1, d2] => { results := [.lit (.bool false)], args := [d1, d2] }
  | _ => none }
def FnBSUnionWrongFalsely : Prop := fnBSUnionRow.holds Try.pinned (OpenSpec.ofChange fnBSUnionWrong)

/- THE SECOND FORM. 'bulk': how many values and letters a reading holds, each counted each time it is reached (what is shared counts as often as it is met; a slice's spare places count too). A statement '..UptoSaid' is the law's where the arguments, and the package variables that the reading takes, are together of bulk at most 1048576: NARROWER than '..Said'. Prove '..Said' where nothing that the law and all that it calls make is longer than what came in: it says more and counts as full. Else prove '..UptoSaid'. A law counts once. -/
mutual
def uptoBulk {H : Type} : DataW H → Nat
  | .lit (.string bytes) => bytes.length + 1
  | .lit _ => 1
  | .nil => 1
  | .ptr d => uptoBulk d + 1
  | .slice elems spare => uptoBulkAll elems + uptoBulkAll spare + 1
  | .agg parts => uptoBulkAll parts + 1
  | .iface _ d => uptoBulk d + 1
  | .map entries => uptoBulkEntries entries + 1
  | .held _ => 1
def uptoBulkAll {H : Type} : List (DataW H) → Nat
  | [] => 0
  | d :: r => uptoBulk d + uptoBulkAll r
def uptoBulkEntries {H : Type} : List (Lit × DataW H) → Nat
  | [] => 0
  | x :: r => uptoBulkEntry x + uptoBulkEntries r
def uptoBulkEntry {H : Type} : Lit × DataW H → Nat
  | (.string bytes, d) => bytes.length + uptoBulk d + 1
  | (_, d) => uptoBulk d + 1
 end
def uptoSmall : (H : Type) → List (DataW H) → Bool := fun _ ds => decide (uptoBulkAll ds ≤ 1048576)
def OpenSpec.upto (s : _root_.Go.ChangeSpec) : _root_.Go.OpenSpec := { _root_.Go.OpenSpec.ofChange s with cond := some uptoSmall }

/-- 'laws.FnBSEqual', WHERE WHAT IT READS IS OF BULK AT MOST 1048576: true; the input reads as it did. -/
def fnBSEqualUptoRow : OpenClaim := { program := "ythnfoiaemeklnaa", sum := "86ee38b29857ccfaaa86ee6ecf84145f831683a791392cb68a0597c96fe4f821", func := "given.example/pub-lumberyard/laws.FnBSEqual", spec := "fnBSEqual", unfollowed := true, recurses := true, apart := false, narrowed := true }
def FnBSEqualUptoSaid : Prop := fnBSEqualUptoRow.holds Try.pinned (OpenSpec.upto fnBSEqualSpec)

/-- 'laws.FnBSAsks', WHERE WHAT IT READS IS OF BULK AT MOST 1048576: true; the input reads as it did. -/
def fnBSAsksUptoRow : OpenClaim := { program := "ythnfoiaemeklnaa", sum := "86ee38b29857ccfaaa86ee6ecf84145f831683a791392cb68a0597c96fe4f821", func := "given.example/pub-lumberyard/laws.FnBSAsks", spec := "fnBSAsks", unfollowed := true, recurses := true, apart := false, narrowed := true }
def FnBSAsksUptoSaid : Prop := fnBSAsksUptoRow.holds Try.pinned (OpenSpec.upto fnBSAsksSpec)

/-- 'laws.FnBSShiftLeft', WHERE WHAT IT READS IS OF BULK AT MOST 1048576: true; the input reads as it did. -/
def fnBSShiftLeftUptoRow : OpenClaim := { program := "ythnfoiaemeklnaa", sum := "86ee38b29857ccfaaa86ee6ecf84145f831683a791392cb68a0597c96fe4f821", func := "given.example/pub-lumberyard/laws.FnBSShiftLeft", spec := "fnBSShiftLeft", unfollowed := true, recurses := true, apart := false, narrowed := true }
def FnBSShiftLeftUptoSaid : Prop := fnBSShiftLeftUptoRow.holds Try.pinned (OpenSpec.upto fnBSShiftLeftSpec)

/-- 'laws.FnBSInsert', WHERE WHAT IT READS IS OF BULK AT MOST 1048576: true; the input reads as it did. -/
def fnBSInsertUptoRow : OpenClaim := { program := "ythnfoiaemeklnaa", sum := "86ee38b29857ccfaaa86ee6ecf84145f831683a791392cb68a0597c96fe4f821", func := "given.example/pub-lumberyard/laws.FnBSInsert", spec := "fnBSInsert", unfollowed := true, recurses := true, apart := false, narrowed := true }
def FnBSInsertUptoSaid : Prop := fnBSInsertUptoRow.holds Try.pinned (OpenSpec.upto fnBSInsertSpec)

/-- 'laws.FnBSRanges', WHERE WHAT IT READS IS OF BULK AT MOST 1048576: true; the input reads as it did. -/
def fnBSRangesUptoRow : OpenClaim := { program := "ythnfoiaemeklnaa", sum := "86ee38b29857ccfaaa86ee6ecf84145f831683a791392cb68a0597c96fe4f821", func := "given.example/pub-lumberyard/laws.FnBSRanges", spec := "fnBSRanges", unfollowed := true, recurses := true, apart := false, narrowed := true }
def FnBSRangesUptoSaid : Prop := fnBSRangesUptoRow.holds Try.pinned (OpenSpec.upto fnBSRangesSpec)

/-- 'laws.FnBSMorgan', WHERE WHAT IT READS IS OF BULK AT MOST 1048576: true; the input reads as it did. -/
def fnBSMorganUptoRow : OpenClaim := { program := "ythnfoiaemeklnaa", sum := "86ee38b29857ccfaaa86ee6ecf84145f831683a791392cb68a0597c96fe4f821", func := "given.example/pub-lumberyard/laws.FnBSMorgan", spec := "fnBSMorgan", unfollowed := true, recurses := true, apart := false, narrowed := true }
def FnBSMorganUptoSaid : Prop := fnBSMorganUptoRow.holds Try.pinned (OpenSpec.upto fnBSMorganSpec)

/-- 'laws.FnBSDifference', WHERE WHAT IT READS IS OF BULK AT MOST 1048576: true; the input reads as it did. -/
def fnBSDifferenceUptoRow : OpenClaim := { program := "ythnfoiaemeklnaa", sum := "86ee38b29857ccfaaa86ee6ecf84145f831683a791392cb68a0597c96fe4f821", func := "given.example/pub-lumberyard/laws.FnBSDifference", spec := "fnBSDifference", unfollowed := true, recurses := true, apart := false, narrowed := true }
def FnBSDifferenceUptoSaid : Prop := fnBSDifferenceUptoRow.holds Try.pinned (OpenSpec.upto fnBSDifferenceSpec)

/-- 'laws.FnBSUnion', WHERE WHAT IT READS IS OF BULK AT MOST 1048576: true; the input reads as it did. -/
def fnBSUnionUptoRow : OpenClaim := { program := "ythnfoiaemeklnaa", sum := "86ee38b29857ccfaaa86ee6ecf84145f831683a791392cb68a0597c96fe4f821", func := "given.example/pub-lumberyard/laws.FnBSUnion", spec := "fnBSUnion", unfollowed := true, recurses := true, apart := false, narrowed := true }
def FnBSUnionUptoSaid : Prop := fnBSUnionUptoRow.holds Try.pinned (OpenSpec.upto fnBSUnionSpec)

end Rows
end Go.Proofs.Ythnfoiaemeklnaa
