/-
  No cell of these rows narrows 'for every input' (looked for: loops, veiled, ifaces, maps, wideKeys, modest, calm, conditions, laid).
  DERIVED. THE GIVEN ROWS OF THIS SEAT. 6 by the template 'for every input the law returns true; each argument reads behind the call as it read before'; 0 by the template 'total and deterministic' (their statements: YtjmgidedaodlpaaTotals.lean).
  GIVEN WITH THE SEED: the statements are not yours to turn. If you find one false, say at which input.
  Laid BY PROGRAM, IN A SANDBOX (cutbox-rows.mjs): the forced cells as the released guide's own fill.sh prints them over the translation 5c96469bc7d11718… (all of the seat's roots in one cut). By AI agents, Wed Nov 11 2026. No macro, syntax, notation, axiom, sorry.
-/
import Derived.Test.YtjmgidedaodlpaaChecked
import GoSem.Claim
import GoSem.ClaimJoined
import GoSem.ClaimMapViews
import Derived.JoinedTies
import Derived.KernelRfl
namespace Go.Proofs.Ytjmgidedaodlpaa
/- THE CELL 'sum', in the pinned program and in every row, IS THE sha256 OF THE DUMP (.gsa) THAT YtjmgidedaodlpaaProg.lean LOADS. Nothing in Lean hashes anything: it is a label: what it is worth is what the hold of that sum in a sandbox is worth. -/
noncomputable def Try.pinned : Pinned := { name := "ytjmgidedaodlpaa", sum := "5c96469bc7d11718112b2a62433219cc8ca12d66ff8091f7be38fda442a332bf", checked := Try.checked }
namespace Rows
def none {H : Type} : Left H := { results := [], args := [] }

/-- 'laws.FnBSMakes': WHATEVER THE INPUT: true; the input reads as it did. -/
def fnBSMakesSpec : ChangeSpec := { name := "fnBSMakes", fn := fun _ => fun
  | [d1, d2] => { results := [.lit (.bool true)], args := [d1, d2] }
  | _ => none }
def fnBSMakesRow : OpenClaim := { program := "ytjmgidedaodlpaa", sum := "5c96469bc7d11718112b2a62433219cc8ca12d66ff8091f7be38fda442a332bf", func := "given.example/pub-lumberyard/laws.FnBSMakes", spec := "fnBSMakes", unfollowed := true, recurses := true, apart := false }
def FnBSMakesSaid : Prop := fnBSMakesRow.holds Try.pinned (OpenSpec.ofChange fnBSMakesSpec)

/-- ITS FALSE NEIGHBOUR: 'it returns false'. Refute it at one input. -/
def fnBSMakesWrong : ChangeSpec := { name := "fnBSMakes", fn := fun _ => fun
  | [d1, d2] => { results := [.lit (.bool false)], args := [d1, d2] }
  | _ => none }
def FnBSMakesWrongFalsely : Prop := fnBSMakesRow.holds Try.pinned (OpenSpec.ofChange fnBSMakesWrong)

/-- 'laws.FnBSWord': WHATEVER THE INPUT: true; the input reads as it did. -/
def fnBSWordSpec : ChangeSpec := { name := "fnBSWord", fn := fun _ => fun
  | [d1, d2] => { results := [.lit (.bool true)], args := [d1, d2] }
  | _ => none }
def fnBSWordRow : OpenClaim := { program := "ytjmgidedaodlpaa", sum := "5c96469bc7d11718112b2a62433219cc8ca12d66ff8091f7be38fda442a332bf", func := "given.example/pub-lumberyard/laws.FnBSWord", spec := "fnBSWord", unfollowed := true, recurses := true, apart := false }
def FnBSWordSaid : Prop := fnBSWordRow.holds Try.pinned (OpenSpec.ofChange fnBSWordSpec)

/-- ITS FALSE NEIGHBOUR: 'it returns false'. Refute it at one input. -/
def fnBSWordWrong : ChangeSpec := { name := "fnBSWord", fn := fun _ => fun
  | [d1, d2] => { results := [.lit (.bool false)], args := [d1, d2] }
  | _ => none }
def FnBSWordWrongFalsely : Prop := fnBSWordRow.holds Try.pinned (OpenSpec.ofChange fnBSWordWrong)

/-- 'laws.FnBSEqual': WHATEVER THE INPUT: true; the input reads as it did. -/
def fnBSEqualSpec : ChangeSpec := { name := "fnBSEqual", fn := fun _ => fun
  | [d1, d2, d3, d4] => { results := [.lit (.bool true)], args := [d1, d2, d3, d4] }
  | _ => none }
def fnBSEqualRow : OpenClaim := { program := "ytjmgidedaodlpaa", sum := "5c96469bc7d11718112b2a62433219cc8ca12d66ff8091f7be38fda442a332bf", func := "given.example/pub-lumberyard/laws.FnBSEqual", spec := "fnBSEqual", unfollowed := true, recurses := true, apart := false }
def FnBSEqualSaid : Prop := fnBSEqualRow.holds Try.pinned (OpenSpec.ofChange fnBSEqualSpec)

/-- ITS FALSE NEIGHBOUR: 'it returns false'. Refute it at one input. -/
def fnBSEqualWrong : ChangeSpec := { name := "fnBSEqual", fn := fun _ => fun
  | [d1, d2, d3, d4] => { results := [.lit (.bool false)], args := [d1, d2, d3, d4] }
  | _ => none }
def FnBSEqualWrongFalsely : Prop := fnBSEqualRow.holds Try.pinned (OpenSpec.ofChange fnBSEqualWrong)

/-- 'laws.FnBSClear': WHATEVER THE INPUT: true; the input reads as it did. -/
def fnBSClearSpec : ChangeSpec := { name := "fnBSClear", fn := fun _ => fun
  | [d1, d2] => { results := [.lit (.bool true)], args := [d1, d2] }
  | _ => none }
def fnBSClearRow : OpenClaim := { program := "ytjmgidedaodlpaa", sum := "5c96469bc7d11718112b2a62433219cc8ca12d66ff8091f7be38fda442a332bf", func := "given.example/pub-lumberyard/laws.FnBSClear", spec := "fnBSClear", unfollowed := true, recurses := true, apart := false }
def FnBSClearSaid : Prop := fnBSClearRow.holds Try.pinned (OpenSpec.ofChange fnBSClearSpec)

/-- ITS FALSE NEIGHBOUR: 'it returns false'. Refute it at one input. -/
def fnBSClearWrong : ChangeSpec := { name := "fnBSClear", fn := fun _ => fun
  | [d1, d2] => { results := [.lit (.bool false)], args := [d1, d2] }
  | _ => none }
def FnBSClearWrongFalsely : Prop := fnBSClearRow.holds Try.pinned (OpenSpec.ofChange fnBSClearWrong)

/-- 'laws.FnBSShrink': WHATEVER THE INPUT: true; the input reads as it did. -/
def fnBSShrinkSpec : ChangeSpec := { name := "fnBSShrink", fn := fun _ => fun
  | [d1, d2] => { results := [.lit (.bool true)], args := [d1, d2] }
  | _ => none }
def fnBSShrinkRow : OpenClaim := { program := "ytjmgidedaodlpaa", sum := "5c96469bc7d11718112b2a62433219cc8ca12d66ff8091f7be38fda442a332bf", func := "given.example/pub-lumberyard/laws.FnBSShrink", spec := "fnBSShrink", unfollowed := true, recurses := true, apart := false }
def FnBSShrinkSaid : Prop := fnBSShrinkRow.holds Try.pinned (OpenSpec.ofChange fnBSShrinkSpec)

/-- ITS FALSE NEIGHBOUR: 'it returns false'. Refute it at one input. -/
def fnBSShrinkWrong : ChangeSpec := { name := "fnBSShrink", fn := fun _ => fun
  | [d1, d2] => { results := [.lit (.bool false)], args := [d1, d2] }
  | _ => none }
def FnBSShrinkWrongFalsely : Prop := fnBSShrinkRow.holds Try.pinned (OpenSpec.ofChange fnBSShrinkWrong)

/-- 'laws.FnBSPrevious': WHATEVER THE INPUT: true; the input reads as it did. -/
def fnBSPreviousSpec : ChangeSpec := { name := "fnBSPrevious", fn := fun _ => fun
  | [d1, d2] => { results := [.lit (.bool true)], args := [d1, d2] }
  | _ => none }
def fnBSPreviousRow : OpenClaim := { program := "ytjmgidedaodlpaa", sum := "5c96469bc7d11718112b2a62433219cc8ca12d66ff8091f7be38fda442a332bf", func := "given.example/pub-lumberyard/laws.FnBSPrevious", spec := "fnBSPrevious", unfollowed := true, recurses := true, apart := false }
def FnBSPreviousSaid : Prop := fnBSPreviousRow.holds Try.pinned (OpenSpec.ofChange fnBSPreviousSpec)

/-- ITS FALSE NEIGHBOUR: 'it returns false'. Refute it at one input. -/
def fnBSPreviousWrong : ChangeSpec := { name := "fnBSPrevious", fn := fun _ => fun
  | [d1, d2] => { results := [.lit (.bool false)], args := [d1, d2] }
  | _ => none }
def FnBSPreviousWrongFalsely : Prop := fnBSPreviousRow.holds Try.pinned (OpenSpec.ofChange fnBSPreviousWrong)

/- THE SECOND FORM. 'bulk': how many values and letters a reading holds, each counted each time it is reached (what is shared counts as often as it is met; a slice's spare places count too). A statement '..UptoSaid' is the law's where the arguments, and the package variables that the reading takes, are together of bulk at most 1048576: NARROWER than '..Said'. Prove '..Said' where nothing that the law and all that it calls make is longer than what came in: it says more and counts as full. Else prove '..UptoSaid'. A law counts once. -/
mutual
def uptoBulk {H : Type} : DataW H → Nat
  | .lit (.string bytes) => bytes.length + 1
  | .lit _ => 1
  | .nil => 1
  | .ptr d => uptoBulk d + 1
  | .slice elems spare => uptoBulkAll elems + uptoBulkAll spare + 1
  | .agg parts => uptoBulkAll parts + 1
  | .iface _ d => uptoBulk d + 1
  | .map entries => uptoBulkEntries entries + 1
  | .held _ => 1
def uptoBulkAll {H : Type} : List (DataW H) → Nat
  | [] => 0
  | d :: r => uptoBulk d + uptoBulkAll r
def uptoBulkEntries {H : Type} : List (Lit × DataW H) → Nat
  | [] => 0
  | x :: r => uptoBulkEntry x + uptoBulkEntries r
def uptoBulkEntry {H : Type} : Lit × DataW H → Nat
  | (.string bytes, d) => bytes.length + uptoBulk d + 1
  | (_, d) => uptoBulk d + 1
 end
def uptoSmall : (H : Type) → List (DataW H) → Bool := fun _ ds => decide (uptoBulkAll ds ≤ 1048576)
def OpenSpec.upto (s : _root_.Go.ChangeSpec) : _root_.Go.OpenSpec := { _root_.Go.OpenSpec.ofChange s with cond := some uptoSmall }

/-- 'laws.FnBSMakes', WHERE WHAT IT READS IS OF BULK AT MOST 1048576: true; the input reads as it did. -/
def fnBSMakesUptoRow : OpenClaim := { program := "ytjmgidedaodlpaa", sum := "5c96469bc7d11718112b2a62433219cc8ca12d66ff8091f7be38fda442a332bf", func := "given.example/pub-lumberyard/laws.FnBSMakes", spec := "fnBSMakes", unfollowed := true, recurses := true, apart := false, narrowed := true }
def FnBSMakesUptoSaid : Prop := fnBSMakesUptoRow.holds Try.pinned (OpenSpec.upto fnBSMakesSpec)

/-- 'laws.FnBSWord', WHERE WHAT IT READS IS OF BULK AT MOST 1048576: true; the input reads as it did. -/
def fnBSWordUptoRow : OpenClaim := { program := "ytjmgidedaodlpaa", sum := "5c96469bc7d11718112b2a62433219cc8ca12d66ff8091f7be38fda442a332bf", func := "given.example/pub-lumberyard/laws.FnBSWord", spec := "fnBSWord", unfollowed := true, recurses := true, apart := false, narrowed := true }
def FnBSWordUptoSaid : Prop := fnBSWordUptoRow.holds Try.pinned (OpenSpec.upto fnBSWordSpec)

/-- 'laws.FnBSEqual', WHERE WHAT IT READS IS OF BULK AT MOST 1048576: true; the input reads as it did. -/
def fnBSEqualUptoRow : OpenClaim := { program := "ytjmgidedaodlpaa", sum := "5c96469bc7d11718112b2a62433219cc8ca12d66ff8091f7be38fda442a332bf", func := "given.example/pub-lumberyard/laws.FnBSEqual", spec := "fnBSEqual", unfollowed := true, recurses := true, apart := false, narrowed := true }
def FnBSEqualUptoSaid : Prop := fnBSEqualUptoRow.holds Try.pinned (OpenSpec.upto fnBSEqualSpec)

/-- 'laws.FnBSClear', WHERE WHAT IT READS IS OF BULK AT MOST 1048576: true; the input reads as it did. -/
def fnBSClearUptoRow : OpenClaim := { program := "ytjmgidedaodlpaa", sum := "5c96469bc7d11718112b2a62433219cc8ca12d66ff8091f7be38fda442a332bf", func := "given.example/pub-lumberyard/laws.FnBSClear", spec := "fnBSClear", unfollowed := true, recurses := true, apart := false, narrowed := true }
def FnBSClearUptoSaid : Prop := fnBSClearUptoRow.holds Try.pinned (OpenSpec.upto fnBSClearSpec)

/-- 'laws.FnBSShrink', WHERE WHAT IT READS IS OF BULK AT MOST 1048576: true; the input reads as it did. -/
def fnBSShrinkUptoRow : OpenClaim := { program := "ytjmgidedaodlpaa", sum := "5c96469bc7d11718112b2a62433219cc8ca12d66ff8091f7be38fda442a332bf", func := "given.example/pub-lumberyard/laws.FnBSShrink", spec := "fnBSShrink", unfollowed := true, recurses := true, apart := false, narrowed := true }
def FnBSShrinkUptoSaid : Prop := fnBSShrinkUptoRow.holds Try.pinned (OpenSpec.upto fnBSShrinkSpec)

/-- 'laws.FnBSPrevious', WHERE WHAT IT READS IS OF BULK AT MOST 1048576: true; the input reads as it did. -/
def fnBSPreviousUptoRow : OpenClaim := { program := "ytjmgidedaodlpaa", sum := "5c96469bc7d11718112b2a62433219cc8ca12d66ff8091f7be38fda442a332bf", func := "given.example/pub-lumberyard/laws.FnBSPrevious", spec := "fnBSPrevious", unfollowed := true, recurses := true, apart := false, narrowed := true }
def FnBSPreviousUptoSaid : Prop := fnBSPreviousUptoRow.holds Try.pinned (OpenSpec.upto fnBSPreviousSpec)

end Rows
end Go.Proofs.Ytjmgidedaodlpaa
