/-
  DERIVED. GIVEN WITH THE SEED: THE CARDS: each row of YtcbdjbjbikiaeaaDoorRows.lean that lists a variable, with what it lists TIED to the program's text (the seventh form; the later family's looks); each row that meets fmt, with fmt's text TOLD by the authors' own Lean function (tested against real Go, not proved from fmt's source: count such statements apart). THE CARD IS WHAT COUNTS. Prove the row's statement (the work); the ties are given (YtcbdjbjbikiaeaaDoorTie.lean); close each card by the builder's one call (the guide's Derived/Test/ToyasCard.lean, 'card_holds'). Laid BY PROGRAM, IN A SANDBOX (cutbox-door.mjs). By AI agents, Wed Nov 11 2026. No macro, syntax, notation, axiom, sorry.
-/
import Derived.Test.YtcbdjbjbikiaeaaDoorRows
import GoSem.ClaimSeven
namespace Go.Proofs.YtcbdjbjbikiaeaaDoor
namespace Rows

/-- THE TIED CARD OF 'n011_145.FnShouldLowerSuperPropertyAccessAgreesWithAssignLowering'. -/
def fnShouldLowerSuperPropertyAccessAgreesWithAssignLoweringCard : Claim7 := { stood := { row := fnShouldLowerSuperPropertyAccessAgreesWithAssignLoweringRow, standIns := [], harness := (true, "9644b8f0135a861f6b29892bcc75e8bff1b586a7b07652c4bca09df35d9bf845"), looks := true }, kinds := [], alts := [], laidByText := true, laidKinds := [.data], laidTests := true, laidLooks := .later }
def FnShouldLowerSuperPropertyAccessAgreesWithAssignLoweringCardSaid : Prop := Claim7.holds Tryd.pinned (.plain (OpenSpec.ofChange fnShouldLowerSuperPropertyAccessAgreesWithAssignLoweringSpec)) fnShouldLowerSuperPropertyAccessAgreesWithAssignLoweringCard

/-- THE TIED CARD OF 'n011_145.FnCallSuperPropertyWrapperAgreesWithSuperGet'. -/
def fnCallSuperPropertyWrapperAgreesWithSuperGetCard : Claim7 := { stood := { row := fnCallSuperPropertyWrapperAgreesWithSuperGetRow, standIns := [], harness := (true, "9644b8f0135a861f6b29892bcc75e8bff1b586a7b07652c4bca09df35d9bf845"), looks := true }, kinds := [], alts := [], laidByText := true, laidKinds := [.data], laidTests := true, laidLooks := .later }
def FnCallSuperPropertyWrapperAgreesWithSuperGetCardSaid : Prop := Claim7.holds Tryd.pinned (.plain (OpenSpec.ofChange fnCallSuperPropertyWrapperAgreesWithSuperGetSpec)) fnCallSuperPropertyWrapperAgreesWithSuperGetCard

/-- THE TIED CARD OF 'n011_145.FnLowerSuperPropertyGetFreshNodes'. -/
def fnLowerSuperPropertyGetFreshNodesCard : Claim7 := { stood := { row := fnLowerSuperPropertyGetFreshNodesRow, standIns := [], harness := (true, "9644b8f0135a861f6b29892bcc75e8bff1b586a7b07652c4bca09df35d9bf845"), looks := true }, kinds := [], alts := [], laidByText := true, laidKinds := [.data], laidTests := true, laidLooks := .later }
def FnLowerSuperPropertyGetFreshNodesCardSaid : Prop := Claim7.holds Tryd.pinned (.plain (OpenSpec.ofChange fnLowerSuperPropertyGetFreshNodesSpec)) fnLowerSuperPropertyGetFreshNodesCard

/-- THE TIED CARD OF 'n011_145.FnLowerSuperPropertyOrPrivateInAssignIdempotent'. -/
def fnLowerSuperPropertyOrPrivateInAssignIdempotentCard : Claim7 := { stood := { row := fnLowerSuperPropertyOrPrivateInAssignIdempotentRow, standIns := [], harness := (true, "9644b8f0135a861f6b29892bcc75e8bff1b586a7b07652c4bca09df35d9bf845"), looks := true }, kinds := [], alts := [], laidByText := true, laidKinds := [.data], laidTests := true, laidLooks := .later }
def FnLowerSuperPropertyOrPrivateInAssignIdempotentCardSaid : Prop := Claim7.holds Tryd.pinned (.plain (OpenSpec.ofChange fnLowerSuperPropertyOrPrivateInAssignIdempotentSpec)) fnLowerSuperPropertyOrPrivateInAssignIdempotentCard

/-- THE SECOND FORM's CARD OF 'n011_145.FnShouldLowerSuperPropertyAccessAgreesWithAssignLowering'. -/
def fnShouldLowerSuperPropertyAccessAgreesWithAssignLoweringUptoCard : Claim7 := { stood := { row := fnShouldLowerSuperPropertyAccessAgreesWithAssignLoweringUptoRow, standIns := [], harness := (true, "9644b8f0135a861f6b29892bcc75e8bff1b586a7b07652c4bca09df35d9bf845"), looks := true }, kinds := [], alts := [], laidByText := true, laidKinds := [.data], laidTests := true, laidLooks := .later }
def FnShouldLowerSuperPropertyAccessAgreesWithAssignLoweringUptoCardSaid : Prop := Claim7.holds Tryd.pinned (.plain (OpenSpec.upto fnShouldLowerSuperPropertyAccessAgreesWithAssignLoweringSpec)) fnShouldLowerSuperPropertyAccessAgreesWithAssignLoweringUptoCard

/-- THE SECOND FORM's CARD OF 'n011_145.FnCallSuperPropertyWrapperAgreesWithSuperGet'. -/
def fnCallSuperPropertyWrapperAgreesWithSuperGetUptoCard : Claim7 := { stood := { row := fnCallSuperPropertyWrapperAgreesWithSuperGetUptoRow, standIns := [], harness := (true, "9644b8f0135a861f6b29892bcc75e8bff1b586a7b07652c4bca09df35d9bf845"), looks := true }, kinds := [], alts := [], laidByText := true, laidKinds := [.data], laidTests := true, laidLooks := .later }
def FnCallSuperPropertyWrapperAgreesWithSuperGetUptoCardSaid : Prop := Claim7.holds Tryd.pinned (.plain (OpenSpec.upto fnCallSuperPropertyWrapperAgreesWithSuperGetSpec)) fnCallSuperPropertyWrapperAgreesWithSuperGetUptoCard

/-- THE SECOND FORM's CARD OF 'n011_145.FnLowerSuperPropertyGetFreshNodes'. -/
def fnLowerSuperPropertyGetFreshNodesUptoCard : Claim7 := { stood := { row := fnLowerSuperPropertyGetFreshNodesUptoRow, standIns := [], harness := (true, "9644b8f0135a861f6b29892bcc75e8bff1b586a7b07652c4bca09df35d9bf845"), looks := true }, kinds := [], alts := [], laidByText := true, laidKinds := [.data], laidTests := true, laidLooks := .later }
def FnLowerSuperPropertyGetFreshNodesUptoCardSaid : Prop := Claim7.holds Tryd.pinned (.plain (OpenSpec.upto fnLowerSuperPropertyGetFreshNodesSpec)) fnLowerSuperPropertyGetFreshNodesUptoCard

/-- THE SECOND FORM's CARD OF 'n011_145.FnLowerSuperPropertyOrPrivateInAssignIdempotent'. -/
def fnLowerSuperPropertyOrPrivateInAssignIdempotentUptoCard : Claim7 := { stood := { row := fnLowerSuperPropertyOrPrivateInAssignIdempotentUptoRow, standIns := [], harness := (true, "9644b8f0135a861f6b29892bcc75e8bff1b586a7b07652c4bca09df35d9bf845"), looks := true }, kinds := [], alts := [], laidByText := true, laidKinds := [.data], laidTests := true, laidLooks := .later }
def FnLowerSuperPropertyOrPrivateInAssignIdempotentUptoCardSaid : Prop := Claim7.holds Tryd.pinned (.plain (OpenSpec.upto fnLowerSuperPropertyOrPrivateInAssignIdempotentSpec)) fnLowerSuperPropertyOrPrivateInAssignIdempotentUptoCard
end Rows
end Go.Proofs.YtcbdjbjbikiaeaaDoor
