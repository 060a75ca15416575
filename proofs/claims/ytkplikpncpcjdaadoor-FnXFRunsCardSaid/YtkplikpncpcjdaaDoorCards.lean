/-
  DERIVED. GIVEN WITH THE SEED: THE CARDS: each row of YtkplikpncpcjdaaDoorRows.lean that lists a variable, with what it lists TIED to the program's text (the seventh form; the later family's looks); each row that meets fmt, with fmt's text TOLD by the authors' own Lean function (tested against real Go, not proved from fmt's source: count such statements apart). THE CARD IS WHAT COUNTS. Prove the row's statement (the work); the ties are given (YtkplikpncpcjdaaDoorTie.lean); close each card by the builder's one call (the guide's Derived/Test/ToyasCard.lean, 'card_holds'). Laid BY PROGRAM, IN A SANDBOX (cutbox-door.mjs). By AI agents, Wed Nov 11 2026. No macro, syntax, notation, axiom, sorry.
-/
import Derived.Test.YtkplikpncpcjdaaDoorRows
import GoSem.ClaimSeven
namespace Go.Proofs.YtkplikpncpcjdaaDoor
namespace Rows

/-- THE TIED CARD OF 'laws.FnXFEnds'. -/
def fnXFEndsCard : Claim7 := { stood := { row := fnXFEndsRow, standIns := [], harness := (true, "7a40074c6b583f8ab1f1e92a51c8435fd29696447f648f671c1a3e2efd19d42f"), looks := true }, kinds := [], alts := [], laidByText := true, laidKinds := [.data, .data], laidTests := true, laidLooks := .later }
def FnXFEndsCardSaid : Prop := Claim7.holds Tryd.pinned (.plain (OpenSpec.ofChange fnXFEndsSpec)) fnXFEndsCard

/-- THE TIED CARD OF 'laws.FnXFRuns'. -/
def fnXFRunsCard : Claim7 := { stood := { row := fnXFRunsRow, standIns := [], harness := (true, "7a40074c6b583f8ab1f1e92a51c8435fd29696447f648f671c1a3e2efd19d42f"), looks := true }, kinds := [], alts := [], laidByText := true, laidKinds := [.data, .data], laidTests := true, laidLooks := .later }
def FnXFRunsCardSaid : Prop := Claim7.holds Tryd.pinned (.plain (OpenSpec.ofChange fnXFRunsSpec)) fnXFRunsCard

/-- THE SECOND FORM's CARD OF 'laws.FnXFEnds'. -/
def fnXFEndsUptoCard : Claim7 := { stood := { row := fnXFEndsUptoRow, standIns := [], harness := (true, "7a40074c6b583f8ab1f1e92a51c8435fd29696447f648f671c1a3e2efd19d42f"), looks := true }, kinds := [], alts := [], laidByText := true, laidKinds := [.data, .data], laidTests := true, laidLooks := .later }
def FnXFEndsUptoCardSaid : Prop := Claim7.holds Tryd.pinned (.plain (OpenSpec.upto fnXFEndsSpec)) fnXFEndsUptoCard

/-- THE SECOND FORM's CARD OF 'laws.FnXFRuns'. -/
def fnXFRunsUptoCard : Claim7 := { stood := { row := fnXFRunsUptoRow, standIns := [], harness := (true, "7a40074c6b583f8ab1f1e92a51c8435fd29696447f648f671c1a3e2efd19d42f"), looks := true }, kinds := [], alts := [], laidByText := true, laidKinds := [.data, .data], laidTests := true, laidLooks := .later }
def FnXFRunsUptoCardSaid : Prop := Claim7.holds Tryd.pinned (.plain (OpenSpec.upto fnXFRunsSpec)) fnXFRunsUptoCard
end Rows
end Go.Proofs.YtkplikpncpcjdaaDoor
