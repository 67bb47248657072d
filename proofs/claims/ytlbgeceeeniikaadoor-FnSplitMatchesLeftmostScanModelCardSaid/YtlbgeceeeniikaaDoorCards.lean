/-
  DERIVED. GIVEN WITH THE SEED: THE CARDS: each row of YtlbgeceeeniikaaDoorRows.lean that lists a variable, with what it lists TIED to the program's text (the seventh form; the later family's looks); each row that meets fmt, with fmt's text TOLD by the authors' own Lean function (tested against real Go, not proved from fmt's source: count such statements apart). THE CARD IS WHAT COUNTS. Prove the row's statement (the work); the ties are given (YtlbgeceeeniikaaDoorTie.lean); close each card by the builder's one call (the guide's Derived/Test/ToyasCard.lean, 'card_holds'). Laid BY PROGRAM, IN A SANDBOX (cutbox-door.mjs). By AI agents, Wed Nov 11 2026. No macro, syntax, notation, axiom, sorry.
-/
import Derived.Test.YtlbgeceeeniikaaDoorRows
import GoSem.ClaimSeven
namespace Go.Proofs.YtlbgeceeeniikaaDoor
namespace Rows

/-- THE TIED CARD OF 'n001_40.FnSplitMatchesLeftmostScanModel'. -/
def fnSplitMatchesLeftmostScanModelCard : Claim7 := { stood := { row := fnSplitMatchesLeftmostScanModelRow, standIns := [], harness := (true, "e31edc7d5280998717a01d432dfe7059448a2e173adcb98c977b61c219f92515"), looks := true }, kinds := [], alts := [], laidByText := true, laidKinds := [.data, .pinned], laidTests := true, laidLooks := .later }
def FnSplitMatchesLeftmostScanModelCardSaid : Prop := Claim7.holds Tryd.pinned (.plain (OpenSpec.ofChange fnSplitMatchesLeftmostScanModelSpec)) fnSplitMatchesLeftmostScanModelCard

/-- THE SECOND FORM's CARD OF 'n001_40.FnSplitMatchesLeftmostScanModel'. -/
def fnSplitMatchesLeftmostScanModelUptoCard : Claim7 := { stood := { row := fnSplitMatchesLeftmostScanModelUptoRow, standIns := [], harness := (true, "e31edc7d5280998717a01d432dfe7059448a2e173adcb98c977b61c219f92515"), looks := true }, kinds := [], alts := [], laidByText := true, laidKinds := [.data, .pinned], laidTests := true, laidLooks := .later }
def FnSplitMatchesLeftmostScanModelUptoCardSaid : Prop := Claim7.holds Tryd.pinned (.plain (OpenSpec.upto fnSplitMatchesLeftmostScanModelSpec)) fnSplitMatchesLeftmostScanModelUptoCard
end Rows
end Go.Proofs.YtlbgeceeeniikaaDoor
