/-
  No cell of these rows narrows 'for every input' (looked for: loops, veiled, ifaces, maps, wideKeys, modest, calm, conditions, laid).
  DERIVED. THE GIVEN ROWS OF THIS SEAT. 6 by the template 'for every input the law returns true; each argument reads behind the call as it read before'; 0 by the template 'total and deterministic' (their statements: YtacjkbljokjdkaaGreatTotals.lean).
  GIVEN WITH THE SEED: the statements are not yours to turn. If you find one false, say at which input.
  Laid BY PROGRAM, IN A SANDBOX (cutbox-rows.mjs): the forced cells as the released guide's own fill.sh prints them over the translation 8363338b83a1ef26… (all of the seat's roots in one cut). By AI agents, Wed Nov 11 2026. No macro, syntax, notation, axiom, sorry.
-/
import Derived.Test.YtacjkbljokjdkaaGreatChecked
import GoSem.Claim
import GoSem.ClaimJoined
import GoSem.ClaimMapViews
import Derived.JoinedTies
import Derived.KernelRfl
namespace Go.Proofs.YtacjkbljokjdkaaGreat
/- THE CELL 'sum', in the pinned program and in every row, IS THE sha256 OF THE DUMP (.gsa) THAT YtacjkbljokjdkaaGreatProg.lean LOADS. Nothing in Lean hashes anything: it is a label: what it is worth is what the hold of that sum in a sandbox is worth. -/
noncomputable def Tryz.pinned : Pinned := { name := "ytacjkbljokjdkaagreat", sum := "8363338b83a1ef26f5cbf13a69a67cb2cd1cdba95b311c041825d340abde54a1", checked := Tryz.checked }
namespace Rows
def none {H : Type} : Left H := { results := [], args := [] }

/-- 'laws.FnBAAndMixed': WHATEVER THE INPUT: true; the input reads as it did. -/
def fnBAAndMixedSpec : ChangeSpec := { name := "fnBAAndMixed", fn := fun _ => fun
  | [d1, d2, d3, d4] => { results := [.lit (.bool true)], args := [d1, d2, d3, d4] }
  | _ => none }
def fnBAAndMixedRow : OpenClaim := { program := "ytacjkbljokjdkaagreat", sum := "8363338b83a1ef26f5cbf13a69a67cb2cd1cdba95b311c041825d340abde54a1", func := "given.example/pub-lumberyard/laws.FnBAAndMixed", spec := "fnBAAndMixed", unfollowed := true, recurses := true, apart := false }
def FnBAAndMixedSaid : Prop := fnBAAndMixedRow.holds Tryz.pinned (OpenSpec.ofChange fnBAAndMixedSpec)

/-- ITS FALSE NEIGHBOUR: 'it returns false'. Refute it at one input. -/
def fnBAAndMixedWrong : ChangeSpec := { name := "fnBAAndMixed", fn := fun _ => fun
  | [d1, d2, d3, d4] => { results := [.lit (.bool false)], args := [d1, d2, d3, d4] }
  | _ => none }
def FnBAAndMixedWrongFalsely : Prop := fnBAAndMixedRow.holds Tryz.pinned (OpenSpec.ofChange fnBAAndMixedWrong)

/-- 'laws.FnBAMeetMixed': WHATEVER THE INPUT: true; the input reads as it did. -/
def fnBAMeetMixedSpec : ChangeSpec := { name := "fnBAMeetMixed", fn := fun _ => fun
  | [d1, d2, d3] => { results := [.lit (.bool true)], args := [d1, d2, d3] }
  | _ => none }
def fnBAMeetMixedRow : OpenClaim := { program := "ytacjkbljokjdkaagreat", sum := "8363338b83a1ef26f5cbf13a69a67cb2cd1cdba95b311c041825d340abde54a1", func := "given.example/pub-lumberyard/laws.FnBAMeetMixed", spec := "fnBAMeetMixed", unfollowed := true, recurses := true, apart := false }
def FnBAMeetMixedSaid : Prop := fnBAMeetMixedRow.holds Tryz.pinned (OpenSpec.ofChange fnBAMeetMixedSpec)

/-- ITS FALSE NEIGHBOUR: 'it returns false'. Refute it at one input. -/
def fnBAMeetMixedWrong : ChangeSpec := { name := "fnBAMeetMixed", fn := fun _ => fun
  | [d1, d2, d3] => { results := [.lit (.bool false)], args := [d1, d2, d3] }
  | _ => none }
def FnBAMeetMixedWrongFalsely : Prop := fnBAMeetMixedRow.holds Tryz.pinned (OpenSpec.ofChange fnBAMeetMixedWrong)

/-- 'laws.FnBANand': WHATEVER THE INPUT: true; the input reads as it did. -/
def fnBANandSpec : ChangeSpec := { name := "fnBANand", fn := fun _ => fun
  | [d1, d2, d3] => { results := [.lit (.bool true)], args := [d1, d2, d3] }
  | _ => none }
def fnBANandRow : OpenClaim := { program := "ytacjkbljokjdkaagreat", sum := "8363338b83a1ef26f5cbf13a69a67cb2cd1cdba95b311c041825d340abde54a1", func := "given.example/pub-lumberyard/laws.FnBANand", spec := "fnBANand", unfollowed := true, recurses := true, apart := false }
def FnBANandSaid : Prop := fnBANandRow.holds Tryz.pinned (OpenSpec.ofChange fnBANandSpec)

/-- ITS FALSE NEIGHBOUR: 'it returns false'. Refute it at one input. -/
def fnBANandWrong : ChangeSpec := { name := "fnBANand", fn := fun _ => fun
  | [d1, d2, d3] => { results := [.lit (.bool false)], args := [d1, d2, d3] }
  | _ => none }
def FnBANandWrongFalsely : Prop := fnBANandRow.holds Tryz.pinned (OpenSpec.ofChange fnBANandWrong)

/-- 'laws.FnBANandSparse': WHATEVER THE INPUT: true; the input reads as it did. -/
def fnBANandSparseSpec : ChangeSpec := { name := "fnBANandSparse", fn := fun _ => fun
  | [d1, d2] => { results := [.lit (.bool true)], args := [d1, d2] }
  | _ => none }
def fnBANandSparseRow : OpenClaim := { program := "ytacjkbljokjdkaagreat", sum := "8363338b83a1ef26f5cbf13a69a67cb2cd1cdba95b311c041825d340abde54a1", func := "given.example/pub-lumberyard/laws.FnBANandSparse", spec := "fnBANandSparse", unfollowed := true, recurses := true, apart := false }
def FnBANandSparseSaid : Prop := fnBANandSparseRow.holds Tryz.pinned (OpenSpec.ofChange fnBANandSparseSpec)

/-- ITS FALSE NEIGHBOUR: 'it returns false'. Refute it at one input. -/
def fnBANandSparseWrong : ChangeSpec := { name := "fnBANandSparse", fn := fun _ => fun
  | [d1, d2] => { results := [.lit (.bool false)], args := [d1, d2] }
  | _ => none }
def FnBANandSparseWrongFalsely : Prop := fnBANandSparseRow.holds Tryz.pinned (OpenSpec.ofChange fnBANandSparseWrong)

/-- 'laws.FnBAOr': WHATEVER THE INPUT: true; the input reads as it did. -/
def fnBAOrSpec : ChangeSpec := { name := "fnBAOr", fn := fun _ => fun
  | [d1, d2, d3] => { results := [.lit (.bool true)], args := [d1, d2, d3] }
  | _ => none }
def fnBAOrRow : OpenClaim := { program := "ytacjkbljokjdkaagreat", sum := "8363338b83a1ef26f5cbf13a69a67cb2cd1cdba95b311c041825d340abde54a1", func := "given.example/pub-lumberyard/laws.FnBAOr", spec := "fnBAOr", unfollowed := true, recurses := true, apart := false }
def FnBAOrSaid : Prop := fnBAOrRow.holds Tryz.pinned (OpenSpec.ofChange fnBAOrSpec)

/-- ITS FALSE NEIGHBOUR: 'it returns false'. Refute it at one input. -/
def fnBAOrWrong : ChangeSpec := { name := "fnBAOr", fn := fun _ => fun
  | [d1, d2, d3] => { results := [.lit (.bool false)], args := [d1, d2, d3] }
  | _ => none }
def FnBAOrWrongFalsely : Prop := fnBAOrRow.holds Tryz.pinned (OpenSpec.ofChange fnBAOrWrong)

/-- 'laws.FnBAOrSparse': WHATEVER THE INPUT: true; the input reads as it did. -/
def fnBAOrSparseSpec : ChangeSpec := { name := "fnBAOrSparse", fn := fun _ => fun
  | [d1, d2] => { results := [.lit (.bool true)], args := [d1, d2] }
  | _ => none }
def fnBAOrSparseRow : OpenClaim := { program := "ytacjkbljokjdkaagreat", sum := "8363338b83a1ef26f5cbf13a69a67cb2cd1cdba95b311c041825d340abde54a1", func := "given.example/pub-lumberyard/laws.FnBAOrSparse", spec := "fnBAOrSparse", unfollowed := true, recurses := true, apart := false }
def FnBAOrSparseSaid : Prop := fnBAOrSparseRow.holds Tryz.pinned (OpenSpec.ofChange fnBAOrSparseSpec)

/-- ITS FALSE NEIGHBOUR: 'it returns false'. Refute it at one input. -/
def fnBAOrSparseWrong : ChangeSpec := { name := "fnBAOrSparse", fn := fun _ => fun
  | [d1, d2] => { results := [.lit (.bool false)], args := [d1, d2] }
  | _ => none }
def FnBAOrSparseWrongFalsely : Prop := fnBAOrSparseRow.holds Tryz.pinned (OpenSpec.ofChange fnBAOrSparseWrong)

/- THE SECOND FORM. 'bulk': how many values and letters a reading holds, each counted each time it is reached (what is shared counts as often as it is met; a slice's spare places count too). A statement '..UptoSaid' is the law's where the arguments, and the package variables that the reading takes, are together of bulk at most 1048576: NARROWER than '..Said'. Prove '..Said' where nothing that the law and all that it calls make is longer than what came in: it says more and counts as full. Else prove '..UptoSaid'. A law counts once. -/
mutual
def uptoBulk {H : Type} : DataW H → Nat
  | .lit (.string bytes) => bytes.length + 1
  | .lit _ => 1
  | .nil => 1
  | .ptr d => uptoBulk d + 1
  | .slice elems spare => uptoBulkAll elems + uptoBulkAll spare + 1
  | .agg parts => uptoBulkAll parts + 1
  | .iface _ d => uptoBulk d + 1
  | .map entries => uptoBulkEntries entries + 1
  | .held _ => 1
def uptoBulkAll {H : Type} : List (DataW H) → Nat
  | [] => 0
  | d :: r => uptoBulk d + uptoBulkAll r
def uptoBulkEntries {H : Type} : List (Lit × DataW H) → Nat
  | [] => 0
  | x :: r => uptoBulkEntry x + uptoBulkEntries r
def uptoBulkEntry {H : Type} : Lit × DataW H → Nat
  | (.string bytes, d) => bytes.length + uptoBulk d + 1
  | (_, d) => uptoBulk d + 1
 end
def uptoSmall : (H : Type) → List (DataW H) → Bool := fun _ ds => decide (uptoBulkAll ds ≤ 1048576)
def OpenSpec.upto (s : _root_.Go.ChangeSpec) : _root_.Go.OpenSpec := { _root_.Go.OpenSpec.ofChange s with cond := some uptoSmall }

/-- 'laws.FnBAAndMixed', WHERE WHAT IT READS IS OF BULK AT MOST 1048576: true; the input reads as it did. -/
def fnBAAndMixedUptoRow : OpenClaim := { program := "ytacjkbljokjdkaagreat", sum := "8363338b83a1ef26f5cbf13a69a67cb2cd1cdba95b311c041825d340abde54a1", func := "given.example/pub-lumberyard/laws.FnBAAndMixed", spec := "fnBAAndMixed", unfollowed := true, recurses := true, apart := false, narrowed := true }
def FnBAAndMixedUptoSaid : Prop := fnBAAndMixedUptoRow.holds Tryz.pinned (OpenSpec.upto fnBAAndMixedSpec)

/-- 'laws.FnBAMeetMixed', WHERE WHAT IT READS IS OF BULK AT MOST 1048576: true; the input reads as it did. -/
def fnBAMeetMixedUptoRow : OpenClaim := { program := "ytacjkbljokjdkaagreat", sum := "8363338b83a1ef26f5cbf13a69a67cb2cd1cdba95b311c041825d340abde54a1", func := "given.example/pub-lumberyard/laws.FnBAMeetMixed", spec := "fnBAMeetMixed", unfollowed := true, recurses := true, apart := false, narrowed := true }
def FnBAMeetMixedUptoSaid : Prop := fnBAMeetMixedUptoRow.holds Tryz.pinned (OpenSpec.upto fnBAMeetMixedSpec)

/-- 'laws.FnBANand', WHERE WHAT IT READS IS OF BULK AT MOST 1048576: true; the input reads as it did. -/
def fnBANandUptoRow : OpenClaim := { program := "ytacjkbljokjdkaagreat", sum := "8363338b83a1ef26f5cbf13a69a67cb2cd1cdba95b311c041825d340abde54a1", func := "given.example/pub-lumberyard/laws.FnBANand", spec := "fnBANand", unfollowed := true, recurses := true, apart := false, narrowed := true }
def FnBANandUptoSaid : Prop := fnBANandUptoRow.holds Tryz.pinned (OpenSpec.upto fnBANandSpec)

/-- 'laws.FnBANandSparse', WHERE WHAT IT READS IS OF BULK AT MOST 1048576: true; the input reads as it did. -/
def fnBANandSparseUptoRow : OpenClaim := { program := "ytacjkbljokjdkaagreat", sum := "8363338b83a1ef26f5cbf13a69a67cb2cd1cdba95b311c041825d340abde54a1", func := "given.example/pub-lumberyard/laws.FnBANandSparse", spec := "fnBANandSparse", unfollowed := true, recurses := true, apart := false, narrowed := true }
def FnBANandSparseUptoSaid : Prop := fnBANandSparseUptoRow.holds Tryz.pinned (OpenSpec.upto fnBANandSparseSpec)

/-- 'laws.FnBAOr', WHERE WHAT IT READS IS OF BULK AT MOST 1048576: true; the input reads as it did. -/
def fnBAOrUptoRow : OpenClaim := { program := "ytacjkbljokjdkaagreat", sum := "8363338b83a1ef26f5cbf13a69a67cb2cd1cdba95b311c041825d340abde54a1", func := "given.example/pub-lumberyard/laws.FnBAOr", spec := "fnBAOr", unfollowed := true, recurses := true, apart := false, narrowed := true }
def FnBAOrUptoSaid : Prop := fnBAOrUptoRow.holds Tryz.pinned (OpenSpec.upto fnBAOrSpec)

/-- 'laws.FnBAOrSparse', WHERE WHAT IT READS IS OF BULK AT MOST 1048576: true; the input reads as it did. -/
def fnBAOrSparseUptoRow : OpenClaim := { program := "ytacjkbljokjdkaagreat", sum := "8363338b83a1ef26f5cbf13a69a67cb2cd1cdba95b311c041825d340abde54a1", func := "given.example/pub-lumberyard/laws.FnBAOrSparse", spec := "fnBAOrSparse", unfollowed := true, recurses := true, apart := false, narrowed := true }
def FnBAOrSparseUptoSaid : Prop := fnBAOrSparseUptoRow.holds Tryz.pinned (OpenSpec.upto fnBAOrSparseSpec)

end Rows
end Go.Proofs.YtacjkbljokjdkaaGreat
