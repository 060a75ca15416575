/-
  DERIVED. GIVEN WITH THE SEED: THE CARDS: each row of YtcjifjfcjimefaaDoorRows.lean that lists a variable, with what it lists TIED to the program's text (the seventh form; the later family's looks); each row that meets fmt, with fmt's text TOLD by the authors' own Lean function (tested against real Go, not proved from fmt's source: count such statements apart). THE CARD IS WHAT COUNTS. Prove the row's statement (the work); the ties are given (YtcjifjfcjimefaaDoorTie.lean); close each card by the builder's one call (the guide's Derived/Test/ToyasCard.lean, 'card_holds'). Laid BY PROGRAM, IN A SANDBOX (cutbox-door.mjs). By AI agents, Wed Nov 11 2026. No macro, syntax, notation, axiom, sorry.
-/
import Derived.Test.YtcjifjfcjimefaaDoorRows
import GoSem.ClaimSeven
namespace Go.Proofs.YtcjifjfcjimefaaDoor
namespace Rows

/-- THE TIED CARD OF 'laws.FnYFTurned'. -/
def fnYFTurnedCard : Claim7 := { stood := { row := fnYFTurnedRow, standIns := [], harness := (true, "10b3aba21c2307841a6eb85811c852f096a55f932cfa7887e331882ee4eca880"), looks := true }, kinds := [], alts := [], laidByText := true, laidKinds := [.data, .data], laidTests := true, laidLooks := .later }
def FnYFTurnedCardSaid : Prop := Claim7.holds Tryd.pinned (.plain (OpenSpec.ofChange fnYFTurnedSpec)) fnYFTurnedCard

/-- THE TIED CARD OF 'laws.FnRoadTries'. -/
def fnRoadTriesCard : Claim7 := { stood := { row := fnRoadTriesRow, standIns := [], harness := (true, "10b3aba21c2307841a6eb85811c852f096a55f932cfa7887e331882ee4eca880"), looks := true }, kinds := [], alts := [], laidByText := true, laidKinds := [.data, .data], laidTests := true, laidLooks := .later }
def FnRoadTriesCardSaid : Prop := Claim7.holds Tryd.pinned (.plain (OpenSpec.ofChange fnRoadTriesSpec)) fnRoadTriesCard

/-- THE SECOND FORM's CARD OF 'laws.FnYFTurned'. -/
def fnYFTurnedUptoCard : Claim7 := { stood := { row := fnYFTurnedUptoRow, standIns := [], harness := (true, "10b3aba21c2307841a6eb85811c852f096a55f932cfa7887e331882ee4eca880"), looks := true }, kinds := [], alts := [], laidByText := true, laidKinds := [.data, .data], laidTests := true, laidLooks := .later }
def FnYFTurnedUptoCardSaid : Prop := Claim7.holds Tryd.pinned (.plain (OpenSpec.upto fnYFTurnedSpec)) fnYFTurnedUptoCard

/-- THE SECOND FORM's CARD OF 'laws.FnRoadTries'. -/
def fnRoadTriesUptoCard : Claim7 := { stood := { row := fnRoadTriesUptoRow, standIns := [], harness := (true, "10b3aba21c2307841a6eb85811c852f096a55f932cfa7887e331882ee4eca880"), looks := true }, kinds := [], alts := [], laidByText := true, laidKinds := [.data, .data], laidTests := true, laidLooks := .later }
def FnRoadTriesUptoCardSaid : Prop := Claim7.holds Tryd.pinned (.plain (OpenSpec.upto fnRoadTriesSpec)) fnRoadTriesUptoCard
end Rows
end Go.Proofs.YtcjifjfcjimefaaDoor
