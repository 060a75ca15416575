/-
  No cell of these rows narrows 'for every input' (looked for: loops, veiled, ifaces, maps, wideKeys, modest, calm, conditions, laid).
  DERIVED. THE GIVEN ROWS OF THIS SEAT. 3 by the template 'for every input the law returns true; each argument reads behind the call as it read before'; 0 by the template 'total and deterministic' (their statements: YtncpcigbcafghaaTotals.lean).
  GIVEN WITH THE SEED: the statements are not yours to turn. If you find one false, say at which input.
  Laid BY PROGRAM, IN A SANDBOX (cutbox-rows.mjs): the forced cells as the released guide's own fill.sh prints them over the translation 74fcd773e07f6979… (all of the seat's roots in one cut). By AI agents, Wed Nov 11 2026. No macro, syntax, notation, axiom, sorry.
-/
import Derived.Test.YtncpcigbcafghaaChecked
import GoSem.Claim
import GoSem.ClaimJoined
import GoSem.ClaimMapViews
import Derived.JoinedTies
import Derived.KernelRfl
namespace Go.Proofs.Ytncpcigbcafghaa
/- THE CELL 'sum', in the pinned program and in every row, IS THE sha256 OF THE DUMP (.gsa) THAT YtncpcigbcafghaaProg.lean LOADS. Nothing in Lean hashes anything: it is a label: what it is worth is what the hold of that sum in a sandbox is worth. -/
noncomputable def Try.pinned : Pinned := { name := "ytncpcigbcafghaa", sum := "74fcd773e07f69793bc0b6e410a91905bab1365ea66b19befde5fe4cb23579bd", checked := Try.checked }
namespace Rows
def none {H : Type} : Left H := { results := [], args := [] }

/-- 'laws.FnBAUint': WHATEVER THE INPUT: true; the input reads as it did. -/
def fnBAUintSpec : ChangeSpec := { name := "fnBAUint", fn := fun _ => fun
  | [d] => { results := [.lit (.bool true)], args := [d] }
  | _ => none }
def fnBAUintRow : OpenClaim := { program := "ytncpcigbcafghaa", sum := "74fcd773e07f69793bc0b6e410a91905bab1365ea66b19befde5fe4cb23579bd", func := "given.example/pub-lumberyard/laws.FnBAUint", spec := "fnBAUint", apart := false }
def FnBAUintSaid : Prop := fnBAUintRow.holds Try.pinned (OpenSpec.ofChange fnBAUintSpec)

/-- ITS FALSE NEIGHBOUR: 'it returns false'. Refute it at one input. -/
def fnBAUintWrong : ChangeSpec := { name := "fnBAUint", fn := fun _ => fun
  | [d] => { results := [.lit (.bool false)], args := [d] }
  | _ => none }
def FnBAUintWrongFalsely : Prop := fnBAUintRow.holds Try.pinned (OpenSpec.ofChange fnBAUintWrong)

/-- 'laws.FnISParts': WHATEVER THE INPUT: true; the input reads as it did. -/
def fnISPartsSpec : ChangeSpec := { name := "fnISParts", fn := fun _ => fun
  | [d1, d2, d3] => { results := [.lit (.bool true)], args := [d1, d2, d3] }
  | _ => none }
def fnISPartsRow : OpenClaim := { program := "ytncpcigbcafghaa", sum := "74fcd773e07f69793bc0b6e410a91905bab1365ea66b19befde5fe4cb23579bd", func := "given.example/pub-lumberyard/laws.FnISParts", spec := "fnISParts", apart := false }
def FnISPartsSaid : Prop := fnISPartsRow.holds Try.pinned (OpenSpec.ofChange fnISPartsSpec)

/-- ITS FALSE NEIGHBOUR: 'it returns false'. Refute it at one input. -/
def fnISPartsWrong : ChangeSpec := { name := "fnISParts", fn := fun _ => fun
  | [d1, d2, d3] => { results := [.lit (.bool false)], args := [d1, d2, d3] }
  | _ => none }
def FnISPartsWrongFalsely : Prop := fnISPartsRow.holds Try.pinned (OpenSpec.ofChange fnISPartsWrong)

/-- 'laws.FnBM32': WHATEVER THE INPUT: true; the input reads as it did. -/
def fnBM32Spec : ChangeSpec := { name := "fnBM32", fn := fun _ => fun
  | [d1, d2] => { results := [.lit (.bool true)], args := [d1, d2] }
  | _ => none }
def fnBM32Row : OpenClaim := { program := "ytncpcigbcafghaa", sum := "74fcd773e07f69793bc0b6e410a91905bab1365ea66b19befde5fe4cb23579bd", func := "given.example/pub-lumberyard/laws.FnBM32", spec := "fnBM32", apart := false }
def FnBM32Said : Prop := fnBM32Row.holds Try.pinned (OpenSpec.ofChange fnBM32Spec)

/-- ITS FALSE NEIGHBOUR: 'it returns false'. Refute it at one input. -/
def fnBM32Wrong : ChangeSpec := { name := "fnBM32", fn := fun _ => fun
  | [d1, d2] => { results := [.lit (.bool false)], args := [d1, d2] }
  | _ => none }
def FnBM32WrongFalsely : Prop := fnBM32Row.holds Try.pinned (OpenSpec.ofChange fnBM32Wrong)

/- THE SECOND FORM. 'bulk': how many values and letters a reading holds, each counted each time it is reached (what is shared counts as often as it is met; a slice's spare places count too). A statement '..UptoSaid' is the law's where the arguments, and the package variables that the reading takes, are together of bulk at most 1048576: NARROWER than '..Said'. Prove '..Said' where nothing that the law and all that it calls make is longer than what came in: it says more and counts as full. Else prove '..UptoSaid'. A law counts once. -/
mutual
def uptoBulk {H : Type} : DataW H → Nat
  | .lit (.string bytes) => bytes.length + 1
  | .lit _ => 1
  | .nil => 1
  | .ptr d => uptoBulk d + 1
  | .slice elems spare => uptoBulkAll elems + uptoBulkAll spare + 1
  | .agg parts => uptoBulkAll parts + 1
  | .iface _ d => uptoBulk d + 1
  | .map entries => uptoBulkEntries entries + 1
  | .held _ => 1
def uptoBulkAll {H : Type} : List (DataW H) → Nat
  | [] => 0
  | d :: r => uptoBulk d + uptoBulkAll r
def uptoBulkEntries {H : Type} : List (Lit × DataW H) → Nat
  | [] => 0
  | x :: r => uptoBulkEntry x + uptoBulkEntries r
def uptoBulkEntry {H : Type} : Lit × DataW H → Nat
  | (.string bytes, d) => bytes.length + uptoBulk d + 1
  | (_, d) => uptoBulk d + 1
 end
def uptoSmall : (H : Type) → List (DataW H) → Bool := fun _ ds => decide (uptoBulkAll ds ≤ 1048576)
def OpenSpec.upto (s : _root_.Go.ChangeSpec) : _root_.Go.OpenSpec := { _root_.Go.OpenSpec.ofChange s with cond := some uptoSmall }

/-- 'laws.FnBAUint', WHERE WHAT IT READS IS OF BULK AT MOST 1048576: true; the input reads as it did. -/
def fnBAUintUptoRow : OpenClaim := { program := "ytncpcigbcafghaa", sum := "74fcd773e07f69793bc0b6e410a91905bab1365ea66b19befde5fe4cb23579bd", func := "given.example/pub-lumberyard/laws.FnBAUint", spec := "fnBAUint", apart := false, narrowed := true }
def FnBAUintUptoSaid : Prop := fnBAUintUptoRow.holds Try.pinned (OpenSpec.upto fnBAUintSpec)

/-- 'laws.FnISParts', WHERE WHAT IT READS IS OF BULK AT MOST 1048576: true; the input reads as it did. -/
def fnISPartsUptoRow : OpenClaim := { program := "ytncpcigbcafghaa", sum := "74fcd773e07f69793bc0b6e410a91905bab1365ea66b19befde5fe4cb23579bd", func := "given.example/pub-lumberyard/laws.FnISParts", spec := "fnISParts", apart := false, narrowed := true }
def FnISPartsUptoSaid : Prop := fnISPartsUptoRow.holds Try.pinned (OpenSpec.upto fnISPartsSpec)

/-- 'laws.FnBM32', WHERE WHAT IT READS IS OF BULK AT MOST 1048576: true; the input reads as it did. -/
def fnBM32UptoRow : OpenClaim := { program := "ytncpcigbcafghaa", sum := "74fcd773e07f69793bc0b6e410a91905bab1365ea66b19befde5fe4cb23579bd", func := "given.example/pub-lumberyard/laws.FnBM32", spec := "fnBM32", apart := false, narrowed := true }
def FnBM32UptoSaid : Prop := fnBM32UptoRow.holds Try.pinned (OpenSpec.upto fnBM32Spec)

end Rows
end Go.Proofs.Ytncpcigbcafghaa
