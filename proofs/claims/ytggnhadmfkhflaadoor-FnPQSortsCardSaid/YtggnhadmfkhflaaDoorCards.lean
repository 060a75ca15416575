/-
  DERIVED. GIVEN WITH THE SEED: THE CARDS: each row of YtggnhadmfkhflaaDoorRows.lean that lists a variable, with what it lists TIED to the program's text (the seventh form; the later family's looks); each row that meets fmt, with fmt's text TOLD by the authors' own Lean function (tested against real Go, not proved from fmt's source: count such statements apart). THE CARD IS WHAT COUNTS. Prove the row's statement (the work); the ties are given (YtggnhadmfkhflaaDoorTie.lean); close each card by the builder's one call (the guide's Derived/Test/ToyasCard.lean, 'card_holds'). Laid BY PROGRAM, IN A SANDBOX (cutbox-door.mjs). By AI agents, Wed Nov 11 2026. No macro, syntax, notation, axiom, sorry.
-/
import Derived.Test.YtggnhadmfkhflaaDoorRows
import GoSem.ClaimSeven
namespace Go.Proofs.YtggnhadmfkhflaaDoor
namespace Rows

/-- THE TIED CARD OF 'laws.FnPQFirst'. -/
def fnPQFirstCard : Claim7 := { stood := { row := fnPQFirstRow, standIns := [], harness := (true, "d806f3cda2259df162505a23cbad727bff47ab3adcb1dc37cf4407e3a12108db"), looks := true }, kinds := [], alts := [], laidByText := true, laidKinds := [.sentinel, .sentinel, .sentinel], laidTests := true, laidLooks := .later }
def FnPQFirstCardSaid : Prop := Claim7.holds Tryd.pinned (.plain (OpenSpec.ofChange fnPQFirstSpec)) fnPQFirstCard

/-- THE TIED CARD OF 'laws.FnPQSorts'. -/
def fnPQSortsCard : Claim7 := { stood := { row := fnPQSortsRow, standIns := [], harness := (true, "d806f3cda2259df162505a23cbad727bff47ab3adcb1dc37cf4407e3a12108db"), looks := true }, kinds := [], alts := [], laidByText := true, laidKinds := [.sentinel, .sentinel, .sentinel], laidTests := true, laidLooks := .later }
def FnPQSortsCardSaid : Prop := Claim7.holds Tryd.pinned (.plain (OpenSpec.ofChange fnPQSortsSpec)) fnPQSortsCard

/-- THE SECOND FORM's CARD OF 'laws.FnPQFirst'. -/
def fnPQFirstUptoCard : Claim7 := { stood := { row := fnPQFirstUptoRow, standIns := [], harness := (true, "d806f3cda2259df162505a23cbad727bff47ab3adcb1dc37cf4407e3a12108db"), looks := true }, kinds := [], alts := [], laidByText := true, laidKinds := [.sentinel, .sentinel, .sentinel], laidTests := true, laidLooks := .later }
def FnPQFirstUptoCardSaid : Prop := Claim7.holds Tryd.pinned (.plain (OpenSpec.upto fnPQFirstSpec)) fnPQFirstUptoCard

/-- THE SECOND FORM's CARD OF 'laws.FnPQSorts'. -/
def fnPQSortsUptoCard : Claim7 := { stood := { row := fnPQSortsUptoRow, standIns := [], harness := (true, "d806f3cda2259df162505a23cbad727bff47ab3adcb1dc37cf4407e3a12108db"), looks := true }, kinds := [], alts := [], laidByText := true, laidKinds := [.sentinel, .sentinel, .sentinel], laidTests := true, laidLooks := .later }
def FnPQSortsUptoCardSaid : Prop := Claim7.holds Tryd.pinned (.plain (OpenSpec.upto fnPQSortsSpec)) fnPQSortsUptoCard
end Rows
end Go.Proofs.YtggnhadmfkhflaaDoor
