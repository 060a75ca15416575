/-
  NARROWER THAN 'FOR EVERY INPUT', by the rows' own cells (each row's printed sentence says how): FnYFTurned: laid · FnRoadTries: laid.
  DERIVED. THE GIVEN ROWS OF THIS SEAT. 2 by the template 'for every input the law returns true; each argument reads behind the call as it read before'; 0 by the template 'total and deterministic' (their statements: YtcjifjfcjimefaaDoorTotals.lean).
  GIVEN WITH THE SEED: the statements are not yours to turn. If you find one false, say at which input.
  Laid BY PROGRAM, IN A SANDBOX (cutbox-rows.mjs): the forced cells as the released guide's own fill.sh prints them over the translation d8ad2a19f7e61f6b… (all of the seat's roots in one cut). By AI agents, Wed Nov 11 2026. No macro, syntax, notation, axiom, sorry.
-/
import Derived.Test.YtcjifjfcjimefaaDoorChecked
import GoSem.Claim
import GoSem.ClaimJoined
import GoSem.ClaimMapViews
import Derived.JoinedTies
import Derived.KernelRfl
namespace Go.Proofs.YtcjifjfcjimefaaDoor
/- THE CELL 'sum', in the pinned program and in every row, IS THE sha256 OF THE DUMP (.gsa) THAT YtcjifjfcjimefaaDoorProg.lean LOADS. Nothing in Lean hashes anything: it is a label: what it is worth is what the hold of that sum in a sandbox is worth. -/
noncomputable def Tryd.pinned : Pinned := { name := "ytcjifjfcjimefaadoor", sum := "d8ad2a19f7e61f6b887e13fa47e39341880bcd8570d1ab9fa67b57314cc178d4", checked := Tryd.checked }
namespace Rows
def none {H : Type} : Left H := { results := [], args := [] }

/- WHAT THE LISTED PACKAGE-LEVEL VARIABLES READ AS WHEN THE CALL BEGINS. Each datum BY PROGRAM (the guide's laid-datum.mjs) off the statement by which the dump's own 'gosem.cut.vars' lays the variable. In a bare row this is a premise. The card (YtcjifjfcjimefaaDoorCards.lean) ties it to the program's text. -/
def laid_given_example_pub_lumberyard_pub_godatastructures_trie_xfast_masks {H : Type} : DataW H := .agg [.lit (.int .u64 9223372036854775808), .lit (.int .u64 13835058055282163712), .lit (.int .u64 16140901064495857664), .lit (.int .u64 17293822569102704640), .lit (.int .u64 17870283321406128128), .lit (.int .u64 18158513697557839872), .lit (.int .u64 18302628885633695744), .lit (.int .u64 18374686479671623680), .lit (.int .u64 18410715276690587648), .lit (.int .u64 18428729675200069632), .lit (.int .u64 18437736874454810624), .lit (.int .u64 18442240474082181120), .lit (.int .u64 18444492273895866368), .lit (.int .u64 18445618173802708992), .lit (.int .u64 18446181123756130304), .lit (.int .u64 18446462598732840960), .lit (.int .u64 18446603336221196288), .lit (.int .u64 18446673704965373952), .lit (.int .u64 18446708889337462784), .lit (.int .u64 18446726481523507200), .lit (.int .u64 18446735277616529408), .lit (.int .u64 18446739675663040512), .lit (.int .u64 18446741874686296064), .lit (.int .u64 18446742974197923840), .lit (.int .u64 18446743523953737728), .lit (.int .u64 18446743798831644672), .lit (.int .u64 18446743936270598144), .lit (.int .u64 18446744004990074880), .lit (.int .u64 18446744039349813248), .lit (.int .u64 18446744056529682432), .lit (.int .u64 18446744065119617024), .lit (.int .u64 18446744069414584320), .lit (.int .u64 18446744071562067968), .lit (.int .u64 18446744072635809792), .lit (.int .u64 18446744073172680704), .lit (.int .u64 18446744073441116160), .lit (.int .u64 18446744073575333888), .lit (.int .u64 18446744073642442752), .lit (.int .u64 18446744073675997184), .lit (.int .u64 18446744073692774400), .lit (.int .u64 18446744073701163008), .lit (.int .u64 18446744073705357312), .lit (.int .u64 18446744073707454464), .lit (.int .u64 18446744073708503040), .lit (.int .u64 18446744073709027328), .lit (.int .u64 18446744073709289472), .lit (.int .u64 18446744073709420544), .lit (.int .u64 18446744073709486080), .lit (.int .u64 18446744073709518848), .lit (.int .u64 18446744073709535232), .lit (.int .u64 18446744073709543424), .lit (.int .u64 18446744073709547520), .lit (.int .u64 18446744073709549568), .lit (.int .u64 18446744073709550592), .lit (.int .u64 18446744073709551104), .lit (.int .u64 18446744073709551360), .lit (.int .u64 18446744073709551488), .lit (.int .u64 18446744073709551552), .lit (.int .u64 18446744073709551584), .lit (.int .u64 18446744073709551600), .lit (.int .u64 18446744073709551608), .lit (.int .u64 18446744073709551612), .lit (.int .u64 18446744073709551614), .lit (.int .u64 18446744073709551615)]
def laid_given_example_pub_lumberyard_pub_godatastructures_trie_xfast_positions {H : Type} : DataW H := .agg [.lit (.int .u64 9223372036854775808), .lit (.int .u64 4611686018427387904), .lit (.int .u64 2305843009213693952), .lit (.int .u64 1152921504606846976), .lit (.int .u64 576460752303423488), .lit (.int .u64 288230376151711744), .lit (.int .u64 144115188075855872), .lit (.int .u64 72057594037927936), .lit (.int .u64 36028797018963968), .lit (.int .u64 18014398509481984), .lit (.int .u64 9007199254740992), .lit (.int .u64 4503599627370496), .lit (.int .u64 2251799813685248), .lit (.int .u64 1125899906842624), .lit (.int .u64 562949953421312), .lit (.int .u64 281474976710656), .lit (.int .u64 140737488355328), .lit (.int .u64 70368744177664), .lit (.int .u64 35184372088832), .lit (.int .u64 17592186044416), .lit (.int .u64 8796093022208), .lit (.int .u64 4398046511104), .lit (.int .u64 2199023255552), .lit (.int .u64 1099511627776), .lit (.int .u64 549755813888), .lit (.int .u64 274877906944), .lit (.int .u64 137438953472), .lit (.int .u64 68719476736), .lit (.int .u64 34359738368), .lit (.int .u64 17179869184), .lit (.int .u64 8589934592), .lit (.int .u64 4294967296), .lit (.int .u64 2147483648), .lit (.int .u64 1073741824), .lit (.int .u64 536870912), .lit (.int .u64 268435456), .lit (.int .u64 134217728), .lit (.int .u64 67108864), .lit (.int .u64 33554432), .lit (.int .u64 16777216), .lit (.int .u64 8388608), .lit (.int .u64 4194304), .lit (.int .u64 2097152), .lit (.int .u64 1048576), .lit (.int .u64 524288), .lit (.int .u64 262144), .lit (.int .u64 131072), .lit (.int .u64 65536), .lit (.int .u64 32768), .lit (.int .u64 16384), .lit (.int .u64 8192), .lit (.int .u64 4096), .lit (.int .u64 2048), .lit (.int .u64 1024), .lit (.int .u64 512), .lit (.int .u64 256), .lit (.int .u64 128), .lit (.int .u64 64), .lit (.int .u64 32), .lit (.int .u64 16), .lit (.int .u64 8), .lit (.int .u64 4), .lit (.int .u64 2), .lit (.int .u64 1)]

/-- 'laws.FnYFTurned': WHATEVER THE INPUT: true; the input reads as it did. -/
def fnYFTurnedSpec : ChangeSpec := { name := "fnYFTurned", vars := ["given.example/pub-lumberyard/pub/godatastructures/trie/xfast.positions", "given.example/pub-lumberyard/pub/godatastructures/trie/xfast.masks"], fn := fun _ => fun
  | [d1, d2, g1, g2] => { results := [.lit (.bool true)], args := [d1, d2], vars := [g1, g2] }
  | _ => none }
def fnYFTurnedRow : OpenClaim := { program := "ytcjifjfcjimefaadoor", sum := "d8ad2a19f7e61f6b887e13fa47e39341880bcd8570d1ab9fa67b57314cc178d4", func := "given.example/pub-lumberyard/laws.FnYFTurned", spec := "fnYFTurned", unfollowed := true, recurses := true, named := ["given.example/pub-lumberyard/pub/godatastructures/trie/xfast.positions", "given.example/pub-lumberyard/pub/godatastructures/trie/xfast.masks"], apart := false, laid := [("given.example/pub-lumberyard/pub/godatastructures/trie/xfast.masks", laid_given_example_pub_lumberyard_pub_godatastructures_trie_xfast_masks), ("given.example/pub-lumberyard/pub/godatastructures/trie/xfast.positions", laid_given_example_pub_lumberyard_pub_godatastructures_trie_xfast_positions)] }
def FnYFTurnedSaid : Prop := fnYFTurnedRow.holds Tryd.pinned (OpenSpec.ofChange fnYFTurnedSpec)

/-- ITS FALSE NEIGHBOUR: 'it returns false'. Refute it at one input. -/
def fnYFTurnedWrong : ChangeSpec := { name := "fnYFTurned", vars := ["given.example/pub-lumberyard/pub/godatastructures/trie/xfast.positions", "given.example/pub-lumberyard/pub/godatastructures/trie/xfast.masks"], fn := fun _ => fun
  | [d1, d2, g1, g2] => { results := [.lit (.bool false)], args := [d1, d2], vars := [g1, g2] }
  | _ => none }
def FnYFTurnedWrongFalsely : Prop := fnYFTurnedRow.holds Tryd.pinned (OpenSpec.ofChange fnYFTurnedWrong)

/-- 'laws.FnRoadTries': WHATEVER THE INPUT: true; the input reads as it did. -/
def fnRoadTriesSpec : ChangeSpec := { name := "fnRoadTries", vars := ["given.example/pub-lumberyard/pub/godatastructures/trie/xfast.positions", "given.example/pub-lumberyard/pub/godatastructures/trie/xfast.masks"], fn := fun _ => fun
  | [d1, d2, g1, g2] => { results := [.lit (.bool true)], args := [d1, d2], vars := [g1, g2] }
  | _ => none }
def fnRoadTriesRow : OpenClaim := { program := "ytcjifjfcjimefaadoor", sum := "d8ad2a19f7e61f6b887e13fa47e39341880bcd8570d1ab9fa67b57314cc178d4", func := "given.example/pub-lumberyard/laws.FnRoadTries", spec := "fnRoadTries", inPlace := ["math.Float64bits", "math.Float64frombits"], unfollowed := true, recurses := true, named := ["given.example/pub-lumberyard/pub/godatastructures/trie/xfast.positions", "given.example/pub-lumberyard/pub/godatastructures/trie/xfast.masks"], apart := false, laid := [("given.example/pub-lumberyard/pub/godatastructures/trie/xfast.masks", laid_given_example_pub_lumberyard_pub_godatastructures_trie_xfast_masks), ("given.example/pub-lumberyard/pub/godatastructures/trie/xfast.positions", laid_given_example_pub_lumberyard_pub_godatastructures_trie_xfast_positions)] }
def FnRoadTriesSaid : Prop := fnRoadTriesRow.holds Tryd.pinned (OpenSpec.ofChange fnRoadTriesSpec)

/-- ITS FALSE NEIGHBOUR: 'it returns false'. Refute it at one input. -/
def fnRoadTriesWrong : ChangeSpec := { name := "fnRoadTries", vars := ["given.example/pub-lumberyard/pub/godatastructures/trie/xfast.positions", "given.example/pub-lumberyard/pub/godatastructures/trie/xfast.masks"], fn := fun _ => fun
  | [d1, d2, g1, g2] => { results := [.lit (.bool false)], args := [d1, d2], vars := [g1, g2] }
  | _ => none }
def FnRoadTriesWrongFalsely : Prop := fnRoadTriesRow.holds Tryd.pinned (OpenSpec.ofChange fnRoadTriesWrong)

/- THE SECOND FORM. 'bulk': how many values and letters a reading holds, each counted each time it is reached (what is shared counts as often as it is met; a slice's spare places count too). A statement '..UptoSaid' is the law's where the arguments, and the package variables that the reading takes, are together of bulk at most 1048576: NARROWER than '..Said'. Prove '..Said' where nothing that the law and all that it calls make is longer than what came in: it says more and counts as full. Else prove '..UptoSaid'. A law counts once. -/
mutual
def uptoBulk {H : Type} : DataW H → Nat
  | .lit (.string bytes) => bytes.length + 1
  | .lit _ => 1
  | .nil => 1
  | .ptr d => uptoBulk d + 1
  | .slice elems spare => uptoBulkAll elems + uptoBulkAll spare + 1
  | .agg parts => uptoBulkAll parts + 1
  | .iface _ d => uptoBulk d + 1
  | .map entries => uptoBulkEntries entries + 1
  | .held _ => 1
def uptoBulkAll {H : Type} : List (DataW H) → Nat
  | [] => 0
  | d :: r => uptoBulk d + uptoBulkAll r
def uptoBulkEntries {H : Type} : List (Lit × DataW H) → Nat
  | [] => 0
  | x :: r => uptoBulkEntry x + uptoBulkEntries r
def uptoBulkEntry {H : Type} : Lit × DataW H → Nat
  | (.string bytes, d) => bytes.length + uptoBulk d + 1
  | (_, d) => uptoBulk d + 1
 end
def uptoSmall : (H : Type) → List (DataW H) → Bool := fun _ ds => decide (uptoBulkAll ds ≤ 1048576)
def OpenSpec.upto (s : _root_.Go.ChangeSpec) : _root_.Go.OpenSpec := { _root_.Go.OpenSpec.ofChange s with cond := some uptoSmall }

/-- 'laws.FnYFTurned', WHERE WHAT IT READS IS OF BULK AT MOST 1048576: true; the input reads as it did. -/
def fnYFTurnedUptoRow : OpenClaim := { program := "ytcjifjfcjimefaadoor", sum := "d8ad2a19f7e61f6b887e13fa47e39341880bcd8570d1ab9fa67b57314cc178d4", func := "given.example/pub-lumberyard/laws.FnYFTurned", spec := "fnYFTurned", unfollowed := true, recurses := true, named := ["given.example/pub-lumberyard/pub/godatastructures/trie/xfast.positions", "given.example/pub-lumberyard/pub/godatastructures/trie/xfast.masks"], apart := false, laid := [("given.example/pub-lumberyard/pub/godatastructures/trie/xfast.masks", laid_given_example_pub_lumberyard_pub_godatastructures_trie_xfast_masks), ("given.example/pub-lumberyard/pub/godatastructures/trie/xfast.positions", laid_given_example_pub_lumberyard_pub_godatastructures_trie_xfast_positions)], narrowed := true }
def FnYFTurnedUptoSaid : Prop := fnYFTurnedUptoRow.holds Tryd.pinned (OpenSpec.upto fnYFTurnedSpec)

/-- 'laws.FnRoadTries', WHERE WHAT IT READS IS OF BULK AT MOST 1048576: true; the input reads as it did. -/
def fnRoadTriesUptoRow : OpenClaim := { program := "ytcjifjfcjimefaadoor", sum := "d8ad2a19f7e61f6b887e13fa47e39341880bcd8570d1ab9fa67b57314cc178d4", func := "given.example/pub-lumberyard/laws.FnRoadTries", spec := "fnRoadTries", inPlace := ["math.Float64bits", "math.Float64frombits"], unfollowed := true, recurses := true, named := ["given.example/pub-lumberyard/pub/godatastructures/trie/xfast.positions", "given.example/pub-lumberyard/pub/godatastructures/trie/xfast.masks"], apart := false, laid := [("given.example/pub-lumberyard/pub/godatastructures/trie/xfast.masks", laid_given_example_pub_lumberyard_pub_godatastructures_trie_xfast_masks), ("given.example/pub-lumberyard/pub/godatastructures/trie/xfast.positions", laid_given_example_pub_lumberyard_pub_godatastructures_trie_xfast_positions)], narrowed := true }
def FnRoadTriesUptoSaid : Prop := fnRoadTriesUptoRow.holds Tryd.pinned (OpenSpec.upto fnRoadTriesSpec)

end Rows
end Go.Proofs.YtcjifjfcjimefaaDoor
