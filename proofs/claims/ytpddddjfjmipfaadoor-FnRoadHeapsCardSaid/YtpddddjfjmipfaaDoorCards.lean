/-
  DERIVED. GIVEN WITH THE SEED: THE CARDS: each row of YtpddddjfjmipfaaDoorRows.lean that lists a variable, with what it lists TIED to the program's text (the seventh form; the later family's looks); each row that meets fmt, with fmt's text TOLD by the authors' own Lean function (tested against real Go, not proved from fmt's source: count such statements apart). THE CARD IS WHAT COUNTS. Prove the row's statement (the work); the ties are given (YtpddddjfjmipfaaDoorTie.lean); close each card by the builder's one call (the guide's Derived/Test/ToyasCard.lean, 'card_holds'). Laid BY PROGRAM, IN A SANDBOX (cutbox-door.mjs). By AI agents, Wed Nov 11 2026. No macro, syntax, notation, axiom, sorry.
-/
import Derived.Test.YtpddddjfjmipfaaDoorRows
import GoSem.ClaimSeven
namespace Go.Proofs.YtpddddjfjmipfaaDoor
namespace Rows

/-- THE TIED CARD OF 'laws.FnRoadHeaps'. -/
def fnRoadHeapsCard : Claim7 := { stood := { row := fnRoadHeapsRow, standIns := [], harness := (true, "11ab9d612143f127cac1973a3bacf45f67260369f3f632d0b37f1e294b0966d0"), looks := true }, kinds := [], alts := [], laidByText := true, laidKinds := [.sentinel, .sentinel, .sentinel], laidTests := true, laidLooks := .later }
def FnRoadHeapsCardSaid : Prop := Claim7.holds Tryd.pinned (.plain (OpenSpec.ofChange fnRoadHeapsSpec)) fnRoadHeapsCard

/-- THE SECOND FORM's CARD OF 'laws.FnRoadHeaps'. -/
def fnRoadHeapsUptoCard : Claim7 := { stood := { row := fnRoadHeapsUptoRow, standIns := [], harness := (true, "11ab9d612143f127cac1973a3bacf45f67260369f3f632d0b37f1e294b0966d0"), looks := true }, kinds := [], alts := [], laidByText := true, laidKinds := [.sentinel, .sentinel, .sentinel], laidTests := true, laidLooks := .later }
def FnRoadHeapsUptoCardSaid : Prop := Claim7.holds Tryd.pinned (.plain (OpenSpec.upto fnRoadHeapsSpec)) fnRoadHeapsUptoCard
end Rows
end Go.Proofs.YtpddddjfjmipfaaDoor
