/-
  DERIVED. GIVEN WITH THE SEED: THE CARDS: each row of YtkhmjppfogppoaaDoorRows.lean that lists a variable, with what it lists TIED to the program's text (the seventh form; the later family's looks); each row that meets fmt, with fmt's text TOLD by the authors' own Lean function (tested against real Go, not proved from fmt's source: count such statements apart). THE CARD IS WHAT COUNTS. Prove the row's statement (the work); the ties are given (YtkhmjppfogppoaaDoorTie.lean); close each card by the builder's one call (the guide's Derived/Test/ToyasCard.lean, 'card_holds'). Laid BY PROGRAM, IN A SANDBOX (cutbox-door.mjs). By AI agents, Wed Nov 11 2026. No macro, syntax, notation, axiom, sorry.
-/
import Derived.Test.YtkhmjppfogppoaaDoorRows
import GoSem.ClaimSeven
namespace Go.Proofs.YtkhmjppfogppoaaDoor
namespace Rows

/-- THE TIED CARD OF 'n011_212.FnSuperSetHelperReused'. -/
def fnSuperSetHelperReusedCard : Claim7 := { stood := { row := fnSuperSetHelperReusedRow, standIns := [], harness := (true, "52f788a1a1747c3f1664eb3f69c8e750dbb0120c6847cda859b798eab5e39b49"), looks := true }, kinds := [], alts := [], laidByText := true, laidKinds := [.data], laidTests := true, laidLooks := .later }
def FnSuperSetHelperReusedCardSaid : Prop := Claim7.holds Tryd.pinned (.plain (OpenSpec.ofChange fnSuperSetHelperReusedSpec)) fnSuperSetHelperReusedCard

/-- THE TIED CARD OF 'n011_212.FnSuperSetBinOpThenSetScript'. -/
def fnSuperSetBinOpThenSetScriptCard : Claim7 := { stood := { row := fnSuperSetBinOpThenSetScriptRow, standIns := [], harness := (true, "52f788a1a1747c3f1664eb3f69c8e750dbb0120c6847cda859b798eab5e39b49"), looks := true }, kinds := [], alts := [], laidByText := true, laidKinds := [.data], laidTests := true, laidLooks := .later }
def FnSuperSetBinOpThenSetScriptCardSaid : Prop := Claim7.holds Tryd.pinned (.plain (OpenSpec.ofChange fnSuperSetBinOpThenSetScriptSpec)) fnSuperSetBinOpThenSetScriptCard

/-- THE TIED CARD OF 'n011_212.FnSuperSetCaseTable'. -/
def fnSuperSetCaseTableCard : Claim7 := { stood := { row := fnSuperSetCaseTableRow, standIns := [], harness := (true, "52f788a1a1747c3f1664eb3f69c8e750dbb0120c6847cda859b798eab5e39b49"), looks := true }, kinds := [], alts := [], laidByText := true, laidKinds := [.data], laidTests := true, laidLooks := .later }
def FnSuperSetCaseTableCardSaid : Prop := Claim7.holds Tryd.pinned (.plain (OpenSpec.ofChange fnSuperSetCaseTableSpec)) fnSuperSetCaseTableCard

/-- THE TIED CARD OF 'n011_212.FnMaybeLowerSuperCallIdempotent'. -/
def fnMaybeLowerSuperCallIdempotentCard : Claim7 := { stood := { row := fnMaybeLowerSuperCallIdempotentRow, standIns := [], harness := (true, "52f788a1a1747c3f1664eb3f69c8e750dbb0120c6847cda859b798eab5e39b49"), looks := true }, kinds := [], alts := [], laidByText := true, laidKinds := [.data], laidTests := true, laidLooks := .later }
def FnMaybeLowerSuperCallIdempotentCardSaid : Prop := Claim7.holds Tryd.pinned (.plain (OpenSpec.ofChange fnMaybeLowerSuperCallIdempotentSpec)) fnMaybeLowerSuperCallIdempotentCard

/-- THE TIED CARD OF 'n011_212.FnMaybeLowerSuperCallCaseTable'. -/
def fnMaybeLowerSuperCallCaseTableCard : Claim7 := { stood := { row := fnMaybeLowerSuperCallCaseTableRow, standIns := [], harness := (true, "52f788a1a1747c3f1664eb3f69c8e750dbb0120c6847cda859b798eab5e39b49"), looks := true }, kinds := [], alts := [], laidByText := true, laidKinds := [.data], laidTests := true, laidLooks := .later }
def FnMaybeLowerSuperCallCaseTableCardSaid : Prop := Claim7.holds Tryd.pinned (.plain (OpenSpec.ofChange fnMaybeLowerSuperCallCaseTableSpec)) fnMaybeLowerSuperCallCaseTableCard

/-- THE SECOND FORM's CARD OF 'n011_212.FnSuperSetHelperReused'. -/
def fnSuperSetHelperReusedUptoCard : Claim7 := { stood := { row := fnSuperSetHelperReusedUptoRow, standIns := [], harness := (true, "52f788a1a1747c3f1664eb3f69c8e750dbb0120c6847cda859b798eab5e39b49"), looks := true }, kinds := [], alts := [], laidByText := true, laidKinds := [.data], laidTests := true, laidLooks := .later }
def FnSuperSetHelperReusedUptoCardSaid : Prop := Claim7.holds Tryd.pinned (.plain (OpenSpec.upto fnSuperSetHelperReusedSpec)) fnSuperSetHelperReusedUptoCard

/-- THE SECOND FORM's CARD OF 'n011_212.FnSuperSetBinOpThenSetScript'. -/
def fnSuperSetBinOpThenSetScriptUptoCard : Claim7 := { stood := { row := fnSuperSetBinOpThenSetScriptUptoRow, standIns := [], harness := (true, "52f788a1a1747c3f1664eb3f69c8e750dbb0120c6847cda859b798eab5e39b49"), looks := true }, kinds := [], alts := [], laidByText := true, laidKinds := [.data], laidTests := true, laidLooks := .later }
def FnSuperSetBinOpThenSetScriptUptoCardSaid : Prop := Claim7.holds Tryd.pinned (.plain (OpenSpec.upto fnSuperSetBinOpThenSetScriptSpec)) fnSuperSetBinOpThenSetScriptUptoCard

/-- THE SECOND FORM's CARD OF 'n011_212.FnSuperSetCaseTable'. -/
def fnSuperSetCaseTableUptoCard : Claim7 := { stood := { row := fnSuperSetCaseTableUptoRow, standIns := [], harness := (true, "52f788a1a1747c3f1664eb3f69c8e750dbb0120c6847cda859b798eab5e39b49"), looks := true }, kinds := [], alts := [], laidByText := true, laidKinds := [.data], laidTests := true, laidLooks := .later }
def FnSuperSetCaseTableUptoCardSaid : Prop := Claim7.holds Tryd.pinned (.plain (OpenSpec.upto fnSuperSetCaseTableSpec)) fnSuperSetCaseTableUptoCard

/-- THE SECOND FORM's CARD OF 'n011_212.FnMaybeLowerSuperCallIdempotent'. -/
def fnMaybeLowerSuperCallIdempotentUptoCard : Claim7 := { stood := { row := fnMaybeLowerSuperCallIdempotentUptoRow, standIns := [], harness := (true, "52f788a1a1747c3f1664eb3f69c8e750dbb0120c6847cda859b798eab5e39b49"), looks := true }, kinds := [], alts := [], laidByText := true, laidKinds := [.data], laidTests := true, laidLooks := .later }
def FnMaybeLowerSuperCallIdempotentUptoCardSaid : Prop := Claim7.holds Tryd.pinned (.plain (OpenSpec.upto fnMaybeLowerSuperCallIdempotentSpec)) fnMaybeLowerSuperCallIdempotentUptoCard

/-- THE SECOND FORM's CARD OF 'n011_212.FnMaybeLowerSuperCallCaseTable'. -/
def fnMaybeLowerSuperCallCaseTableUptoCard : Claim7 := { stood := { row := fnMaybeLowerSuperCallCaseTableUptoRow, standIns := [], harness := (true, "52f788a1a1747c3f1664eb3f69c8e750dbb0120c6847cda859b798eab5e39b49"), looks := true }, kinds := [], alts := [], laidByText := true, laidKinds := [.data], laidTests := true, laidLooks := .later }
def FnMaybeLowerSuperCallCaseTableUptoCardSaid : Prop := Claim7.holds Tryd.pinned (.plain (OpenSpec.upto fnMaybeLowerSuperCallCaseTableSpec)) fnMaybeLowerSuperCallCaseTableUptoCard
end Rows
end Go.Proofs.YtkhmjppfogppoaaDoor
