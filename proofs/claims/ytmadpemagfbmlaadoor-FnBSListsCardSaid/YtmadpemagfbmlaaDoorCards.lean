/-
  DERIVED. GIVEN WITH THE SEED: THE CARDS: each row of YtmadpemagfbmlaaDoorRows.lean that lists a variable, with what it lists TIED to the program's text (the seventh form; the later family's looks); each row that meets fmt, with fmt's text TOLD by the authors' own Lean function (tested against real Go, not proved from fmt's source: count such statements apart). THE CARD IS WHAT COUNTS. Prove the row's statement (the work); the ties are given (YtmadpemagfbmlaaDoorTie.lean); close each card by the builder's one call (the guide's Derived/Test/ToyasCard.lean, 'card_holds'). Laid BY PROGRAM, IN A SANDBOX (cutbox-door.mjs). By AI agents, Wed Nov 11 2026. No macro, syntax, notation, axiom, sorry.
-/
import Derived.Test.YtmadpemagfbmlaaDoorRows
import GoSem.ClaimSeven
namespace Go.Proofs.YtmadpemagfbmlaaDoor
namespace Rows

/-- THE TIED CARD OF 'laws.FnBSLists'. -/
def fnBSListsCard : Claim7 := { stood := { row := fnBSListsRow, standIns := [], harness := (true, "eec694bc87e7dfbd0a94855aacb0cc93b1c75b8cf9aaf9a99e4ed714e34ed7bf"), looks := false }, kinds := [], alts := [], laidByText := true, laidKinds := [.data], laidTests := true, laidLooks := .later }
def FnBSListsCardSaid : Prop := Claim7.holds Tryd.pinned (.plain (OpenSpec.ofChange fnBSListsSpec)) fnBSListsCard

/-- THE SECOND FORM's CARD OF 'laws.FnBSLists'. -/
def fnBSListsUptoCard : Claim7 := { stood := { row := fnBSListsUptoRow, standIns := [], harness := (true, "eec694bc87e7dfbd0a94855aacb0cc93b1c75b8cf9aaf9a99e4ed714e34ed7bf"), looks := false }, kinds := [], alts := [], laidByText := true, laidKinds := [.data], laidTests := true, laidLooks := .later }
def FnBSListsUptoCardSaid : Prop := Claim7.holds Tryd.pinned (.plain (OpenSpec.upto fnBSListsSpec)) fnBSListsUptoCard
end Rows
end Go.Proofs.YtmadpemagfbmlaaDoor
