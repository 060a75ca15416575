/-
  No cell of these rows narrows 'for every input' (looked for: loops, veiled, ifaces, maps, wideKeys, modest, calm, conditions, laid).
  DERIVED. THE GIVEN ROWS OF THIS SEAT. 2 by the template 'for every input the law returns true; each argument reads behind the call as it read before'; 0 by the template 'total and deterministic' (their statements: YtdamanckgmkbiaaTotals.lean).
  GIVEN WITH THE SEED: the statements are not yours to turn. If you find one false, say at which input.
  Laid BY PROGRAM, IN A SANDBOX (cutbox-rows.mjs): the forced cells as the released guide's own fill.sh prints them over the translation 5c64ccbb5d438960… (all of the seat's roots in one cut). By AI agents, Wed Nov 11 2026. No macro, syntax, notation, axiom, sorry.
-/
import Derived.Test.YtdamanckgmkbiaaChecked
import GoSem.Claim
import GoSem.ClaimJoined
import GoSem.ClaimMapViews
import Derived.JoinedTies
import Derived.KernelRfl
namespace Go.Proofs.Ytdamanckgmkbiaa
/- THE CELL 'sum', in the pinned program and in every row, IS THE sha256 OF THE DUMP (.gsa) THAT YtdamanckgmkbiaaProg.lean LOADS. Nothing in Lean hashes anything: it is a label: what it is worth is what the hold of that sum in a sandbox is worth. -/
noncomputable def Try.pinned : Pinned := { name := "ytdamanckgmkbiaa", sum := "5c64ccbb5d438960fbbcaefb6c1e8e026443aa27a2ae403790beac16bcb9aec7", checked := Try.checked }
namespace Rows
def none {H : Type} : Left H := { results := [], args := [] }

/-- 'laws.FnAVRuns': WHATEVER THE INPUT: true; the input reads as it did. -/
def fnAVRunsSpec : ChangeSpec := { name := "fnAVRuns", fn := fun _ => fun
  | [d] => { results := [.lit (.bool true)], args := [d] }
  | _ => none }
def fnAVRunsRow : OpenClaim := { program := "ytdamanckgmkbiaa", sum := "5c64ccbb5d438960fbbcaefb6c1e8e026443aa27a2ae403790beac16bcb9aec7", func := "given.example/pub-lumberyard/laws.FnAVRuns", spec := "fnAVRuns", inPlace := ["math.Float64bits", "math.Float64frombits"], unfollowed := true, recurses := true, apart := false }
def FnAVRunsSaid : Prop := fnAVRunsRow.holds Try.pinned (OpenSpec.ofChange fnAVRunsSpec)

/-- ITS FALSE NEIGHBOUR: 'it returns false'. Refute it at one input. -/
def fnAVRunsWrong : ChangeSpec := { name := "fnAVRuns", fn := fun _ => fun
  | [d] => { results := [.lit (.bool false)], args := [d] }
  | _ => none }
def FnAVRunsWrongFalsely : Prop := fnAVRunsRow.holds Try.pinned (OpenSpec.ofChange fnAVRunsWrong)

/-- 'laws.FnAVAny': WHATEVER THE INPUT: true; the input reads as it did. -/
def fnAVAnySpec : ChangeSpec := { name := "fnAVAny", fn := fun _ => fun
  | [d1, d2] => { results := [.lit (.bool true)], args := [d1, d2] }
  | _ => none }
def fnAVAnyRow : OpenClaim := { program := "ytdamanckgmkbiaa", sum := "5c64ccbb5d438960fbbcaefb6c1e8e026443aa27a2ae403790beac16bcb9aec7", func := "given.example/pub-lumberyard/laws.FnAVAny", spec := "fnAVAny", inPlace := ["math.Float64bits", "math.Float64frombits"], unfollowed := true, recurses := true, apart := false }
def FnAVAnySaid : Prop := fnAVAnyRow.holds Try.pinned (OpenSpec.ofChange fnAVAnySpec)

/-- ITS FALSE NEIGHBOUR: 'it returns false'. Refute it at one input. -/
def fnAVAnyWrong : ChangeSpec := { name := "fnAVAny", fn := fun _ => fun
  | [d1, d2] => { results := [.lit (.bool false)], args := [d1, d2] }
  | _ => none }
def FnAVAnyWrongFalsely : Prop := fnAVAnyRow.holds Try.pinned (OpenSpec.ofChange fnAVAnyWrong)

/- THE SECOND FORM. 'bulk': how many values and letters a reading holds, each counted each time it is reached (what is shared counts as often as it is met; a slice's spare places count too). A statement '..UptoSaid' is the law's where the arguments, and the package variables that the reading takes, are together of bulk at most 1048576: NARROWER than '..Said'. Prove '..Said' where nothing that the law and all that it calls make is longer than what came in: it says more and counts as full. Else prove '..UptoSaid'. A law counts once. -/
mutual
def uptoBulk {H : Type} : DataW H → Nat
  | .lit (.string bytes) => bytes.length + 1
  | .lit _ => 1
  | .nil => 1
  | .ptr d => uptoBulk d + 1
  | .slice elems spare => uptoBulkAll elems + uptoBulkAll spare + 1
  | .agg parts => uptoBulkAll parts + 1
  | .iface _ d => uptoBulk d + 1
  | .map entries => uptoBulkEntries entries + 1
  | .held _ => 1
def uptoBulkAll {H : Type} : List (DataW H) → Nat
  | [] => 0
  | d :: r => uptoBulk d + uptoBulkAll r
def uptoBulkEntries {H : Type} : List (Lit × DataW H) → Nat
  | [] => 0
  | x :: r => uptoBulkEntry x + uptoBulkEntries r
def uptoBulkEntry {H : Type} : Lit × DataW H → Nat
  | (.string bytes, d) => bytes.length + uptoBulk d + 1
  | (_, d) => uptoBulk d + 1
 end
def uptoSmall : (H : Type) → List (DataW H) → Bool := fun _ ds => decide (uptoBulkAll ds ≤ 1048576)
def OpenSpec.upto (s : _root_.Go.ChangeSpec) : _root_.Go.OpenSpec := { _root_.Go.OpenSpec.ofChange s with cond := some uptoSmall }

/-- 'laws.FnAVRuns', WHERE WHAT IT READS IS OF BULK AT MOST 1048576: true; the input reads as it did. -/
def fnAVRunsUptoRow : OpenClaim := { program := "ytdamanckgmkbiaa", sum := "5c64ccbb5d438960fbbcaefb6c1e8e026443aa27a2ae403790beac16bcb9aec7", func := "given.example/pub-lumberyard/laws.FnAVRuns", spec := "fnAVRuns", inPlace := ["math.Float64bits", "math.Float64frombits"], unfollowed := true, recurses := true, apart := false, narrowed := true }
def FnAVRunsUptoSaid : Prop := fnAVRunsUptoRow.holds Try.pinned (OpenSpec.upto fnAVRunsSpec)

/-- 'laws.FnAVAny', WHERE WHAT IT READS IS OF BULK AT MOST 1048576: true; the input reads as it did. -/
def fnAVAnyUptoRow : OpenClaim := { program := "ytdamanckgmkbiaa", sum := "5c64ccbb5d438960fbbcaefb6c1e8e026443aa27a2ae403790beac16bcb9aec7", func := "given.example/pub-lumberyard/laws.FnAVAny", spec := "fnAVAny", inPlace := ["math.Float64bits", "math.Float64frombits"], unfollowed := true, recurses := true, apart := false, narrowed := true }
def FnAVAnyUptoSaid : Prop := fnAVAnyUptoRow.holds Try.pinned (OpenSpec.upto fnAVAnySpec)

end Rows
end Go.Proofs.Ytdamanckgmkbiaa
