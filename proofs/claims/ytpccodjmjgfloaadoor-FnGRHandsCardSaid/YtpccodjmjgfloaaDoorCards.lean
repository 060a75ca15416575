/-
  DERIVED. GIVEN WITH THE SEED: THE CARDS: each row of YtpccodjmjgfloaaDoorRows.lean that lists a variable, with what it lists TIED to the program's text (the seventh form; the later family's looks); each row that meets fmt, with fmt's text TOLD by the authors' own Lean function (tested against real Go, not proved from fmt's source: count such statements apart). THE CARD IS WHAT COUNTS. Prove the row's statement (the work); the ties are given (YtpccodjmjgfloaaDoorTie.lean); close each card by the builder's one call (the guide's Derived/Test/ToyasCard.lean, 'card_holds'). Laid BY PROGRAM, IN A SANDBOX (cutbox-door.mjs). By AI agents, Wed Nov 11 2026. No macro, syntax, notation, axiom, sorry.
-/
import Derived.Test.YtpccodjmjgfloaaDoorRows
import GoSem.ClaimSeven
namespace Go.Proofs.YtpccodjmjgfloaaDoor
namespace Rows

/-- THE TIED CARD OF 'laws.FnGRRuns'. -/
def fnGRRunsCard : Claim7 := { stood := { row := fnGRRunsRow, standIns := [], harness := (true, "3e42f746e2d43c8a7804e23e097079f4e60dca70d72f65a67f6502300867b22d"), looks := true }, kinds := [], alts := [], laidByText := true, laidKinds := [.sentinel, .sentinel, .sentinel], laidTests := true, laidLooks := .later }
def FnGRRunsCardSaid : Prop := Claim7.holds Tryd.pinned (.plain (OpenSpec.ofChange fnGRRunsSpec)) fnGRRunsCard

/-- THE TIED CARD OF 'laws.FnGRHands'. -/
def fnGRHandsCard : Claim7 := { stood := { row := fnGRHandsRow, standIns := [], harness := (true, "3e42f746e2d43c8a7804e23e097079f4e60dca70d72f65a67f6502300867b22d"), looks := true }, kinds := [], alts := [], laidByText := true, laidKinds := [.sentinel, .sentinel, .sentinel], laidTests := true, laidLooks := .later }
def FnGRHandsCardSaid : Prop := Claim7.holds Tryd.pinned (.plain (OpenSpec.ofChange fnGRHandsSpec)) fnGRHandsCard

/-- THE SECOND FORM's CARD OF 'laws.FnGRRuns'. -/
def fnGRRunsUptoCard : Claim7 := { stood := { row := fnGRRunsUptoRow, standIns := [], harness := (true, "3e42f746e2d43c8a7804e23e097079f4e60dca70d72f65a67f6502300867b22d"), looks := true }, kinds := [], alts := [], laidByText := true, laidKinds := [.sentinel, .sentinel, .sentinel], laidTests := true, laidLooks := .later }
def FnGRRunsUptoCardSaid : Prop := Claim7.holds Tryd.pinned (.plain (OpenSpec.upto fnGRRunsSpec)) fnGRRunsUptoCard

/-- THE SECOND FORM's CARD OF 'laws.FnGRHands'. -/
def fnGRHandsUptoCard : Claim7 := { stood := { row := fnGRHandsUptoRow, standIns := [], harness := (true, "3e42f746e2d43c8a7804e23e097079f4e60dca70d72f65a67f6502300867b22d"), looks := true }, kinds := [], alts := [], laidByText := true, laidKinds := [.sentinel, .sentinel, .sentinel], laidTests := true, laidLooks := .later }
def FnGRHandsUptoCardSaid : Prop := Claim7.holds Tryd.pinned (.plain (OpenSpec.upto fnGRHandsSpec)) fnGRHandsUptoCard
end Rows
end Go.Proofs.YtpccodjmjgfloaaDoor
