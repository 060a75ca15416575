/-
  DERIVED. GIVEN WITH THE SEED: THE PROGRAM's TIES (one call each: nine closed facts by the kernel) AND EACH ROW's TIE, after the 31st guide's Derived/Test/Toyas{Tie, Card}.lean. No idea stands in it: it is a product of the set-up. Laid BY PROGRAM, IN A SANDBOX (cutbox-door.mjs). By AI agents, Wed Nov 11 2026. No macro, syntax, notation, axiom, sorry.
-/
import Derived.Test.YtcjifjfcjimefaaDoorRows
import Derived.LaidByTextLater
import Derived.SevenTiedAt
import Derived.LaidSub
import Derived.LaidOnce
namespace Go.Proofs.YtcjifjfcjimefaaDoor
open Go
set_option maxRecDepth 100000
theorem seatTie1 : Tryd.prog.laidByTextLater [("given.example/pub-lumberyard/pub/godatastructures/trie/xfast.masks", Rows.laid_given_example_pub_lumberyard_pub_godatastructures_trie_xfast_masks), ("given.example/pub-lumberyard/pub/godatastructures/trie/xfast.positions", Rows.laid_given_example_pub_lumberyard_pub_godatastructures_trie_xfast_positions)] [.data, .data] true :=
  Program.laidByTextLater_by_one 19 8 65 (by kernel_rfl) (by kernel_rfl) (by kernel_rfl) (by kernel_rfl) (by kernel_rfl) (by kernel_rfl) (fun _ _ => by kernel_rfl)
theorem noOwnUnsafe : Tryd.pinned.checked.prog.headLifts.contains "ownunsafe" = false := by kernel_rfl
theorem tie : Tryd.prog.laidByTextLater [("given.example/pub-lumberyard/pub/godatastructures/trie/xfast.masks", Rows.laid_given_example_pub_lumberyard_pub_godatastructures_trie_xfast_masks), ("given.example/pub-lumberyard/pub/godatastructures/trie/xfast.positions", Rows.laid_given_example_pub_lumberyard_pub_godatastructures_trie_xfast_positions)] [.data, .data] true :=
  Program.laidByTextLater.sub seatTie1 ["given.example/pub-lumberyard/pub/godatastructures/trie/xfast.masks", "given.example/pub-lumberyard/pub/godatastructures/trie/xfast.positions"] (by kernel_rfl) (by kernel_rfl)
theorem fnYFTurned_row_tie : Rows.fnYFTurnedRow.laidByTextAt .later Tryd.pinned [.data, .data] true :=
  OpenClaim.laidByTextAt_later rfl rfl tie noOwnUnsafe
theorem fnRoadTries_row_tie : Rows.fnRoadTriesRow.laidByTextAt .later Tryd.pinned [.data, .data] true :=
  OpenClaim.laidByTextAt_later rfl rfl tie noOwnUnsafe
theorem fnYFTurnedUpto_row_tie : Rows.fnYFTurnedUptoRow.laidByTextAt .later Tryd.pinned [.data, .data] true :=
  OpenClaim.laidByTextAt_later rfl rfl tie noOwnUnsafe
theorem fnRoadTriesUpto_row_tie : Rows.fnRoadTriesUptoRow.laidByTextAt .later Tryd.pinned [.data, .data] true :=
  OpenClaim.laidByTextAt_later rfl rfl tie noOwnUnsafe
end Go.Proofs.YtcjifjfcjimefaaDoor
