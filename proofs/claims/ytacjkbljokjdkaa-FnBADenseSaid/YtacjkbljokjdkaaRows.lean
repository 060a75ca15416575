/-
  No cell of these rows narrows 'for every input' (looked for: loops, veiled, ifaces, maps, wideKeys, modest, calm, conditions, laid).
  DERIVED. THE GIVEN ROWS OF THIS SEAT. 4 by the template 'for every input the law returns true; each argument reads behind the call as it read before'; 0 by the template 'total and deterministic' (their statements: YtacjkbljokjdkaaTotals.lean).
  GIVEN WITH THE SEED: the statements are not yours to turn. If you find one false, say at which input.
  Laid BY PROGRAM, IN A SANDBOX (cutbox-rows.mjs): the forced cells as the released guide's own fill.sh prints them over the translation b6e3f854d90c2e60… (all of the seat's roots in one cut). By AI agents, Wed Nov 11 2026. No macro, syntax, notation, axiom, sorry.
-/
import Derived.Test.YtacjkbljokjdkaaChecked
import GoSem.Claim
import GoSem.ClaimJoined
import GoSem.ClaimMapViews
import Derived.JoinedTies
import Derived.KernelRfl
namespace Go.Proofs.Ytacjkbljokjdkaa
/- THE CELL 'sum', in the pinned program and in every row, IS THE sha256 OF THE DUMP (.gsa) THAT YtacjkbljokjdkaaProg.lean LOADS. Nothing in Lean hashes anything: it is a label: what it is worth is what the hold of that sum in a sandbox is worth. -/
noncomputable def Try.pinned : Pinned := { name := "ytacjkbljokjdkaa", sum := "b6e3f854d90c2e60a944f7b2b16e2d93fa426a63d3f74bfc8be18a30fb7445a8", checked := Try.checked }
namespace Rows
def none {H : Type} : Left H := { results := [], args := [] }

/-- 'laws.FnBADense': WHATEVER THE INPUT: true; the input reads as it did. -/
def fnBADenseSpec : ChangeSpec := { name := "fnBADense", fn := fun _ => fun
  | [d1, d2, d3] => { results := [.lit (.bool true)], args := [d1, d2, d3] }
  | _ => none }
def fnBADenseRow : OpenClaim := { program := "ytacjkbljokjdkaa", sum := "b6e3f854d90c2e60a944f7b2b16e2d93fa426a63d3f74bfc8be18a30fb7445a8", func := "given.example/pub-lumberyard/laws.FnBADense", spec := "fnBADense", unfollowed := true, recurses := true, apart := false }
def FnBADenseSaid : Prop := fnBADenseRow.holds Try.pinned (OpenSpec.ofChange fnBADenseSpec)

/-- ITS FALSE NEIGHBOUR: 'it returns false'. Refute it at one input. -/
def fnBADenseWrong : ChangeSpec := { name := "fnBADense", fn := fun _ => fun
  | [d1, d2, d3] => { results := [.lit (.bool false)], args := [d1, d2, d3] }
  | _ => none }
def FnBADenseWrongFalsely : Prop := fnBADenseRow.holds Try.pinned (OpenSpec.ofChange fnBADenseWrong)

/-- 'laws.FnBADenseBlocks': WHATEVER THE INPUT: true; the input reads as it did. -/
def fnBADenseBlocksSpec : ChangeSpec := { name := "fnBADenseBlocks", fn := fun _ => fun
  | [d1, d2] => { results := [.lit (.bool true)], args := [d1, d2] }
  | _ => none }
def fnBADenseBlocksRow : OpenClaim := { program := "ytacjkbljokjdkaa", sum := "b6e3f854d90c2e60a944f7b2b16e2d93fa426a63d3f74bfc8be18a30fb7445a8", func := "given.example/pub-lumberyard/laws.FnBADenseBlocks", spec := "fnBADenseBlocks", unfollowed := true, recurses := true, apart := false }
def FnBADenseBlocksSaid : Prop := fnBADenseBlocksRow.holds Try.pinned (OpenSpec.ofChange fnBADenseBlocksSpec)

/-- ITS FALSE NEIGHBOUR: 'it returns false'. Refute it at one input. -/
def fnBADenseBlocksWrong : ChangeSpec := { name := "fnBADenseBlocks", fn := fun _ => fun
  | [d1, d2] => { results := [.lit (.bool false)], args := [d1, d2] }
  | _ => none }
def FnBADenseBlocksWrongFalsely : Prop := fnBADenseBlocksRow.holds Try.pinned (OpenSpec.ofChange fnBADenseBlocksWrong)

/-- 'laws.FnBADenseFrom': WHATEVER THE INPUT: true; the input reads as it did. -/
def fnBADenseFromSpec : ChangeSpec := { name := "fnBADenseFrom", fn := fun _ => fun
  | [d1, d2, d3, d4] => { results := [.lit (.bool true)], args := [d1, d2, d3, d4] }
  | _ => none }
def fnBADenseFromRow : OpenClaim := { program := "ytacjkbljokjdkaa", sum := "b6e3f854d90c2e60a944f7b2b16e2d93fa426a63d3f74bfc8be18a30fb7445a8", func := "given.example/pub-lumberyard/laws.FnBADenseFrom", spec := "fnBADenseFrom", unfollowed := true, recurses := true, apart := false }
def FnBADenseFromSaid : Prop := fnBADenseFromRow.holds Try.pinned (OpenSpec.ofChange fnBADenseFromSpec)

/-- ITS FALSE NEIGHBOUR: 'it returns false'. Refute it at one input. -/
def fnBADenseFromWrong : ChangeSpec := { name := "fnBADenseFrom", fn := fun _ => fun
  | [d1, d2, d3, d4] => { results := [.lit (.bool false)], args := [d1, d2, d3, d4] }
  | _ => none }
def FnBADenseFromWrongFalsely : Prop := fnBADenseFromRow.holds Try.pinned (OpenSpec.ofChange fnBADenseFromWrong)

/-- 'laws.FnBAEqualMixed': WHATEVER THE INPUT: true; the input reads as it did. -/
def fnBAEqualMixedSpec : ChangeSpec := { name := "fnBAEqualMixed", fn := fun _ => fun
  | [d1, d2, d3] => { results := [.lit (.bool true)], args := [d1, d2, d3] }
  | _ => none }
def fnBAEqualMixedRow : OpenClaim := { program := "ytacjkbljokjdkaa", sum := "b6e3f854d90c2e60a944f7b2b16e2d93fa426a63d3f74bfc8be18a30fb7445a8", func := "given.example/pub-lumberyard/laws.FnBAEqualMixed", spec := "fnBAEqualMixed", unfollowed := true, recurses := true, apart := false }
def FnBAEqualMixedSaid : Prop := fnBAEqualMixedRow.holds Try.pinned (OpenSpec.ofChange fnBAEqualMixedSpec)

/-- ITS FALSE NEIGHBOUR: 'it returns false'. Refute it at one input. -/
def fnBAEqualMixedWrong : ChangeSpec := { name := "fnBAEqualMixed", fn := fun _ => fun
  | [d1, d2, d3] => { results := [.lit (.bool false)], args := [d1, d2, d3] }
  | _ => none }
def FnBAEqualMixedWrongFalsely : Prop := fnBAEqualMixedRow.holds Try.pinned (OpenSpec.ofChange fnBAEqualMixedWrong)

/- THE SECOND FORM. 'bulk': how many values and letters a reading holds, each counted each time it is reached (what is shared counts as often as it is met; a slice's spare places count too). A statement '..UptoSaid' is the law's where the arguments, and the package variables that the reading takes, are together of bulk at most 1048576: NARROWER than '..Said'. Prove '..Said' where nothing that the law and all that it calls make is longer than what came in: it says more and counts as full. Else prove '..UptoSaid'. A law counts once. -/
mutual
def uptoBulk {H : Type} : DataW H → Nat
  | .lit (.string bytes) => bytes.length + 1
  | .lit _ => 1
  | .nil => 1
  | .ptr d => uptoBulk d + 1
  | .slice elems spare => uptoBulkAll elems + uptoBulkAll spare + 1
  | .agg parts => uptoBulkAll parts + 1
  | .iface _ d => uptoBulk d + 1
  | .map entries => uptoBulkEntries entries + 1
  | .held _ => 1
def uptoBulkAll {H : Type} : List (DataW H) → Nat
  | [] => 0
  | d :: r => uptoBulk d + uptoBulkAll r
def uptoBulkEntries {H : Type} : List (Lit × DataW H) → Nat
  | [] => 0
  | x :: r => uptoBulkEntry x + uptoBulkEntries r
def uptoBulkEntry {H : Type} : Lit × DataW H → Nat
  | (.string bytes, d) => bytes.length + uptoBulk d + 1
  | (_, d) => uptoBulk d + 1
 end
def uptoSmall : (H : Type) → List (DataW H) → Bool := fun _ ds => decide (uptoBulkAll ds ≤ 1048576)
def OpenSpec.upto (s : _root_.Go.ChangeSpec) : _root_.Go.OpenSpec := { _root_.Go.OpenSpec.ofChange s with cond := some uptoSmall }

/-- 'laws.FnBADense', WHERE WHAT IT READS IS OF BULK AT MOST 1048576: true; the input reads as it did. -/
def fnBADenseUptoRow : OpenClaim := { program := "ytacjkbljokjdkaa", sum := "b6e3f854d90c2e60a944f7b2b16e2d93fa426a63d3f74bfc8be18a30fb7445a8", func := "given.example/pub-lumberyard/laws.FnBADense", spec := "fnBADense", unfollowed := true, recurses := true, apart := false, narrowed := true }
def FnBADenseUptoSaid : Prop := fnBADenseUptoRow.holds Try.pinned (OpenSpec.upto fnBADenseSpec)

/-- 'laws.FnBADenseBlocks', WHERE WHAT IT READS IS OF BULK AT MOST 1048576: true; the input reads as it did. -/
def fnBADenseBlocksUptoRow : OpenClaim := { program := "ytacjkbljokjdkaa", sum := "b6e3f854d90c2e60a944f7b2b16e2d93fa426a63d3f74bfc8be18a30fb7445a8", func := "given.example/pub-lumberyard/laws.FnBADenseBlocks", spec := "fnBADenseBlocks", unfollowed := true, recurses := true, apart := false, narrowed := true }
def FnBADenseBlocksUptoSaid : Prop := fnBADenseBlocksUptoRow.holds Try.pinned (OpenSpec.upto fnBADenseBlocksSpec)

/-- 'laws.FnBADenseFrom', WHERE WHAT IT READS IS OF BULK AT MOST 1048576: true; the input reads as it did. -/
def fnBADenseFromUptoRow : OpenClaim := { program := "ytacjkbljokjdkaa", sum := "b6e3f854d90c2e60a944f7b2b16e2d93fa426a63d3f74bfc8be18a30fb7445a8", func := "given.example/pub-lumberyard/laws.FnBADenseFrom", spec := "fnBADenseFrom", unfollowed := true, recurses := true, apart := false, narrowed := true }
def FnBADenseFromUptoSaid : Prop := fnBADenseFromUptoRow.holds Try.pinned (OpenSpec.upto fnBADenseFromSpec)

/-- 'laws.FnBAEqualMixed', WHERE WHAT IT READS IS OF BULK AT MOST 1048576: true; the input reads as it did. -/
def fnBAEqualMixedUptoRow : OpenClaim := { program := "ytacjkbljokjdkaa", sum := "b6e3f854d90c2e60a944f7b2b16e2d93fa426a63d3f74bfc8be18a30fb7445a8", func := "given.example/pub-lumberyard/laws.FnBAEqualMixed", spec := "fnBAEqualMixed", unfollowed := true, recurses := true, apart := false, narrowed := true }
def FnBAEqualMixedUptoSaid : Prop := fnBAEqualMixedUptoRow.holds Try.pinned (OpenSpec.upto fnBAEqualMixedSpec)

end Rows
end Go.Proofs.Ytacjkbljokjdkaa
