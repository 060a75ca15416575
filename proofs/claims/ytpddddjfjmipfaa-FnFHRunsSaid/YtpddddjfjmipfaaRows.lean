/-
  No cell of these rows narrows 'for every input' (looked for: loops, veiled, ifaces, maps, wideKeys, modest, calm, conditions, laid).
  DERIVED. THE GIVEN ROWS OF THIS SEAT. 3 by the template 'for every input the law returns true; each argument reads behind the call as it read before'; 0 by the template 'total and deterministic' (their statements: YtpddddjfjmipfaaTotals.lean).
  GIVEN WITH THE SEED: the statements are not yours to turn. If you find one false, say at which input.
  Laid BY PROGRAM, IN A SANDBOX (cutbox-rows.mjs): the forced cells as the released guide's own fill.sh prints them over the translation f7e5009da05dee24… (all of the seat's roots in one cut). By AI agents, Wed Nov 11 2026. No macro, syntax, notation, axiom, sorry.
-/
import Derived.Test.YtpddddjfjmipfaaChecked
import GoSem.Claim
import GoSem.ClaimJoined
import GoSem.ClaimMapViews
import Derived.JoinedTies
import Derived.KernelRfl
namespace Go.Proofs.Ytpddddjfjmipfaa
/- THE CELL 'sum', in the pinned program and in every row, IS THE sha256 OF THE DUMP (.gsa) THAT YtpddddjfjmipfaaProg.lean LOADS. Nothing in Lean hashes anything: it is a label: what it is worth is what the hold of that sum in a sandbox is worth. -/
noncomputable def Try.pinned : Pinned := { name := "ytpddddjfjmipfaa", sum := "f7e5009da05dee24093507d494190b1486806051be7011949611ee8a162a584f", checked := Try.checked }
namespace Rows
def none {H : Type} : Left H := { results := [], args := [] }

/-- 'laws.FnFHRuns': WHATEVER THE INPUT: true; the input reads as it did. -/
def fnFHRunsSpec : ChangeSpec := { name := "fnFHRuns", fn := fun _ => fun
  | [d] => { results := [.lit (.bool true)], args := [d] }
  | _ => none }
def fnFHRunsRow : OpenClaim := { program := "ytpddddjfjmipfaa", sum := "f7e5009da05dee24093507d494190b1486806051be7011949611ee8a162a584f", func := "given.example/pub-lumberyard/laws.FnFHRuns", spec := "fnFHRuns", recurses := true, apart := false }
def FnFHRunsSaid : Prop := fnFHRunsRow.holds Try.pinned (OpenSpec.ofChange fnFHRunsSpec)

/-- ITS FALSE NEIGHBOUR: 'it returns false'. Refute it at one input. -/
def fnFHRunsWrong : ChangeSpec := { name := "fnFHRuns", fn := fun _ => fun
  | [d] => { results := [.lit (.bool false)], args := [d] }
  | _ => none }
def FnFHRunsWrongFalsely : Prop := fnFHRunsRow.holds Try.pinned (OpenSpec.ofChange fnFHRunsWrong)

/-- 'laws.FnFHGone': WHATEVER THE INPUT: true; the input reads as it did. -/
def fnFHGoneSpec : ChangeSpec := { name := "fnFHGone", fn := fun _ => fun
  | [d1, d2, d3] => { results := [.lit (.bool true)], args := [d1, d2, d3] }
  | _ => none }
def fnFHGoneRow : OpenClaim := { program := "ytpddddjfjmipfaa", sum := "f7e5009da05dee24093507d494190b1486806051be7011949611ee8a162a584f", func := "given.example/pub-lumberyard/laws.FnFHGone", spec := "fnFHGone", recurses := true, apart := false }
def FnFHGoneSaid : Prop := fnFHGoneRow.holds Try.pinned (OpenSpec.ofChange fnFHGoneSpec)

/-- ITS FALSE NEIGHBOUR: 'it returns false'. Refute it at one input. -/
def fnFHGoneWrong : ChangeSpec := { name := "fnFHGone", fn := fun _ => fun
  | [d1, d2, d3] => { results := [.lit (.bool false)], args := [d1, d2, d3] }
  | _ => none }
def FnFHGoneWrongFalsely : Prop := fnFHGoneRow.holds Try.pinned (OpenSpec.ofChange fnFHGoneWrong)

/-- 'laws.FnFHMerged': WHATEVER THE INPUT: true; the input reads as it did. -/
def fnFHMergedSpec : ChangeSpec := { name := "fnFHMerged", fn := fun _ => fun
  | [d] => { results := [.lit (.bool true)], args := [d] }
  | _ => none }
def fnFHMergedRow : OpenClaim := { program := "ytpddddjfjmipfaa", sum := "f7e5009da05dee24093507d494190b1486806051be7011949611ee8a162a584f", func := "given.example/pub-lumberyard/laws.FnFHMerged", spec := "fnFHMerged", recurses := true, apart := false }
def FnFHMergedSaid : Prop := fnFHMergedRow.holds Try.pinned (OpenSpec.ofChange fnFHMergedSpec)

/-- ITS FALSE NEIGHBOUR: 'it returns false'. Refute it at one input. -/
def fnFHMergedWrong : ChangeSpec := { name := "fnFHMerged", fn := fun _ => fun
  | [d] => { results := [.lit (.bool false)], args := [d] }
  | _ => none }
def FnFHMergedWrongFalsely : Prop := fnFHMergedRow.holds Try.pinned (OpenSpec.ofChange fnFHMergedWrong)

/- THE SECOND FORM. 'bulk': how many values and letters a reading holds, each counted each time it is reached (what is shared counts as often as it is met; a slice's spare places count too). A statement '..UptoSaid' is the law's where the arguments, and the package variables that the reading takes, are together of bulk at most 1048576: NARROWER than '..Said'. Prove '..Said' where nothing that the law and all that it calls make is longer than what came in: it says more and counts as full. Else prove '..UptoSaid'. A law counts once. -/
mutual
def uptoBulk {H : Type} : DataW H → Nat
  | .lit (.string bytes) => bytes.length + 1
  | .lit _ => 1
  | .nil => 1
  | .ptr d => uptoBulk d + 1
  | .slice elems spare => uptoBulkAll elems + uptoBulkAll spare + 1
  | .agg parts => uptoBulkAll parts + 1
  | .iface _ d => uptoBulk d + 1
  | .map entries => uptoBulkEntries entries + 1
  | .held _ => 1
def uptoBulkAll {H : Type} : List (DataW H) → Nat
  | [] => 0
  | d :: r => uptoBulk d + uptoBulkAll r
def uptoBulkEntries {H : Type} : List (Lit × DataW H) → Nat
  | [] => 0
  | x :: r => uptoBulkEntry x + uptoBulkEntries r
def uptoBulkEntry {H : Type} : Lit × DataW H → Nat
  | (.string bytes, d) => bytes.length + uptoBulk d + 1
  | (_, d) => uptoBulk d + 1
 end
def uptoSmall : (H : Type) → List (DataW H) → Bool := fun _ ds => decide (uptoBulkAll ds ≤ 1048576)
def OpenSpec.upto (s : _root_.Go.ChangeSpec) : _root_.Go.OpenSpec := { _root_.Go.OpenSpec.ofChange s with cond := some uptoSmall }

/-- 'laws.FnFHRuns', WHERE WHAT IT READS IS OF BULK AT MOST 1048576: true; the input reads as it did. -/
def fnFHRunsUptoRow : OpenClaim := { program := "ytpddddjfjmipfaa", sum := "f7e5009da05dee24093507d494190b1486806051be7011949611ee8a162a584f", func := "given.example/pub-lumberyard/laws.FnFHRuns", spec := "fnFHRuns", recurses := true, apart := false, narrowed := true }
def FnFHRunsUptoSaid : Prop := fnFHRunsUptoRow.holds Try.pinned (OpenSpec.upto fnFHRunsSpec)

/-- 'laws.FnFHGone', WHERE WHAT IT READS IS OF BULK AT MOST 1048576: true; the input reads as it did. -/
def fnFHGoneUptoRow : OpenClaim := { program := "ytpddddjfjmipfaa", sum := "f7e5009da05dee24093507d494190b1486806051be7011949611ee8a162a584f", func := "given.example/pub-lumberyard/laws.FnFHGone", spec := "fnFHGone", recurses := true, apart := false, narrowed := true }
def FnFHGoneUptoSaid : Prop := fnFHGoneUptoRow.holds Try.pinned (OpenSpec.upto fnFHGoneSpec)

/-- 'laws.FnFHMerged', WHERE WHAT IT READS IS OF BULK AT MOST 1048576: true; the input reads as it did. -/
def fnFHMergedUptoRow : OpenClaim := { program := "ytpddddjfjmipfaa", sum := "f7e5009da05dee24093507d494190b1486806051be7011949611ee8a162a584f", func := "given.example/pub-lumberyard/laws.FnFHMerged", spec := "fnFHMerged", recurses := true, apart := false, narrowed := true }
def FnFHMergedUptoSaid : Prop := fnFHMergedUptoRow.holds Try.pinned (OpenSpec.upto fnFHMergedSpec)

end Rows
end Go.Proofs.Ytpddddjfjmipfaa
