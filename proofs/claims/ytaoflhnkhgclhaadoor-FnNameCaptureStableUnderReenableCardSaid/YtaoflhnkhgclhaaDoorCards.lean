/-
  DERIVED. GIVEN WITH THE SEED: THE CARDS: each row of YtaoflhnkhgclhaaDoorRows.lean that lists a variable, with what it lists TIED to the program's text (the seventh form; the later family's looks); each row that meets fmt, with fmt's text TOLD by the authors' own Lean function (tested against real Go, not proved from fmt's source: count such statements apart). THE CARD IS WHAT COUNTS. Prove the row's statement (the work); the ties are given (YtaoflhnkhgclhaaDoorTie.lean); close each card by the builder's one call (the guide's Derived/Test/ToyasCard.lean, 'card_holds'). Laid BY PROGRAM, IN A SANDBOX (cutbox-door.mjs). By AI agents, Wed Nov 11 2026. No macro, syntax, notation, axiom, sorry.
-/
import Derived.Test.YtaoflhnkhgclhaaDoorRows
import GoSem.ClaimSeven
namespace Go.Proofs.YtaoflhnkhgclhaaDoor
namespace Rows

/-- THE TIED CARD OF 'n011_237.FnNameCaptureStableUnderReenable'. -/
def fnNameCaptureStableUnderReenableCard : Claim7 := { stood := { row := fnNameCaptureStableUnderReenableRow, standIns := [], harness := (true, "0579f8ce25bb544859aa7568b47027797cfeb0e0bb7e6afcc5d91cd76586acb8"), looks := true }, kinds := [], alts := [], laidByText := true, laidKinds := [.data], laidTests := true, laidLooks := .later }
def FnNameCaptureStableUnderReenableCardSaid : Prop := Claim7.holds Tryd.pinned (.plain (OpenSpec.ofChange fnNameCaptureStableUnderReenableSpec)) fnNameCaptureStableUnderReenableCard

/-- THE TIED CARD OF 'n011_237.FnEnableNameCaptureCaseTable'. -/
def fnEnableNameCaptureCaseTableCard : Claim7 := { stood := { row := fnEnableNameCaptureCaseTableRow, standIns := [], harness := (true, "0579f8ce25bb544859aa7568b47027797cfeb0e0bb7e6afcc5d91cd76586acb8"), looks := true }, kinds := [], alts := [], laidByText := true, laidKinds := [.data], laidTests := true, laidLooks := .later }
def FnEnableNameCaptureCaseTableCardSaid : Prop := Claim7.holds Tryd.pinned (.plain (OpenSpec.ofChange fnEnableNameCaptureCaseTableSpec)) fnEnableNameCaptureCaseTableCard

/-- THE SECOND FORM's CARD OF 'n011_237.FnNameCaptureStableUnderReenable'. -/
def fnNameCaptureStableUnderReenableUptoCard : Claim7 := { stood := { row := fnNameCaptureStableUnderReenableUptoRow, standIns := [], harness := (true, "0579f8ce25bb544859aa7568b47027797cfeb0e0bb7e6afcc5d91cd76586acb8"), looks := true }, kinds := [], alts := [], laidByText := true, laidKinds := [.data], laidTests := true, laidLooks := .later }
def FnNameCaptureStableUnderReenableUptoCardSaid : Prop := Claim7.holds Tryd.pinned (.plain (OpenSpec.upto fnNameCaptureStableUnderReenableSpec)) fnNameCaptureStableUnderReenableUptoCard

/-- THE SECOND FORM's CARD OF 'n011_237.FnEnableNameCaptureCaseTable'. -/
def fnEnableNameCaptureCaseTableUptoCard : Claim7 := { stood := { row := fnEnableNameCaptureCaseTableUptoRow, standIns := [], harness := (true, "0579f8ce25bb544859aa7568b47027797cfeb0e0bb7e6afcc5d91cd76586acb8"), looks := true }, kinds := [], alts := [], laidByText := true, laidKinds := [.data], laidTests := true, laidLooks := .later }
def FnEnableNameCaptureCaseTableUptoCardSaid : Prop := Claim7.holds Tryd.pinned (.plain (OpenSpec.upto fnEnableNameCaptureCaseTableSpec)) fnEnableNameCaptureCaseTableUptoCard
end Rows
end Go.Proofs.YtaoflhnkhgclhaaDoor
