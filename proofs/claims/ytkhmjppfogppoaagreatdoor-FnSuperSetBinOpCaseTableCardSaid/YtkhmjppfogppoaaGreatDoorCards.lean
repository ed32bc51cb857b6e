/-
  DERIVED. GIVEN WITH THE SEED: THE CARDS: each row of YtkhmjppfogppoaaGreatDoorRows.lean that lists a variable, with what it lists TIED to the program's text (the seventh form; the later family's looks); each row that meets fmt, with fmt's text TOLD by the authors' own Lean function (tested against real Go, not proved from fmt's source: count such statements apart). THE CARD IS WHAT COUNTS. Prove the row's statement (the work); the ties are given (YtkhmjppfogppoaaGreatDoorTie.lean); close each card by the builder's one call (the guide's Derived/Test/ToyasCard.lean, 'card_holds'). Laid BY PROGRAM, IN A SANDBOX (cutbox-door.mjs). By AI agents, Wed Nov 11 2026. No macro, syntax, notation, axiom, sorry.
-/
import Derived.Test.YtkhmjppfogppoaaGreatDoorRows
import GoSem.ClaimSeven
namespace Go.Proofs.YtkhmjppfogppoaaGreatDoor
namespace Rows

/-- THE TIED CARD OF 'n011_42.FnMaybeLowerSetBinOpNonMemberTargetIsRefused'. -/
def fnMaybeLowerSetBinOpNonMemberTargetIsRefusedCard : Claim7 := { stood := { row := fnMaybeLowerSetBinOpNonMemberTargetIsRefusedRow, standIns := [], harness := (true, "5d781a9a6f41818b435689653e70ee28175e9016508a6c483b2745cff33eabdd"), looks := true }, kinds := [], alts := [], laidByText := true, laidKinds := [.data], laidTests := true, laidLooks := .later }
def FnMaybeLowerSetBinOpNonMemberTargetIsRefusedCardSaid : Prop := Claim7.holds Tryz.pinned (.plain (OpenSpec.ofChange fnMaybeLowerSetBinOpNonMemberTargetIsRefusedSpec)) fnMaybeLowerSetBinOpNonMemberTargetIsRefusedCard

/-- THE TIED CARD OF 'n011_42.FnMaybeLowerSetBinOpUnloweredMemberIsRefused'. -/
def fnMaybeLowerSetBinOpUnloweredMemberIsRefusedCard : Claim7 := { stood := { row := fnMaybeLowerSetBinOpUnloweredMemberIsRefusedRow, standIns := [], harness := (true, "5d781a9a6f41818b435689653e70ee28175e9016508a6c483b2745cff33eabdd"), looks := true }, kinds := [], alts := [], laidByText := true, laidKinds := [.data], laidTests := true, laidLooks := .later }
def FnMaybeLowerSetBinOpUnloweredMemberIsRefusedCardSaid : Prop := Claim7.holds Tryz.pinned (.plain (OpenSpec.ofChange fnMaybeLowerSetBinOpUnloweredMemberIsRefusedSpec)) fnMaybeLowerSetBinOpUnloweredMemberIsRefusedCard

/-- THE TIED CARD OF 'n011_212.FnSuperSetBinOpCaseTable'. -/
def fnSuperSetBinOpCaseTableCard : Claim7 := { stood := { row := fnSuperSetBinOpCaseTableRow, standIns := [], harness := (true, "5d781a9a6f41818b435689653e70ee28175e9016508a6c483b2745cff33eabdd"), looks := true }, kinds := [], alts := [], laidByText := true, laidKinds := [.data], laidTests := true, laidLooks := .later }
def FnSuperSetBinOpCaseTableCardSaid : Prop := Claim7.holds Tryz.pinned (.plain (OpenSpec.ofChange fnSuperSetBinOpCaseTableSpec)) fnSuperSetBinOpCaseTableCard

/-- THE SECOND FORM's CARD OF 'n011_42.FnMaybeLowerSetBinOpNonMemberTargetIsRefused'. -/
def fnMaybeLowerSetBinOpNonMemberTargetIsRefusedUptoCard : Claim7 := { stood := { row := fnMaybeLowerSetBinOpNonMemberTargetIsRefusedUptoRow, standIns := [], harness := (true, "5d781a9a6f41818b435689653e70ee28175e9016508a6c483b2745cff33eabdd"), looks := true }, kinds := [], alts := [], laidByText := true, laidKinds := [.data], laidTests := true, laidLooks := .later }
def FnMaybeLowerSetBinOpNonMemberTargetIsRefusedUptoCardSaid : Prop := Claim7.holds Tryz.pinned (.plain (OpenSpec.upto fnMaybeLowerSetBinOpNonMemberTargetIsRefusedSpec)) fnMaybeLowerSetBinOpNonMemberTargetIsRefusedUptoCard

/-- THE SECOND FORM's CARD OF 'n011_42.FnMaybeLowerSetBinOpUnloweredMemberIsRefused'. -/
def fnMaybeLowerSetBinOpUnloweredMemberIsRefusedUptoCard : Claim7 := { stood := { row := fnMaybeLowerSetBinOpUnloweredMemberIsRefusedUptoRow, standIns := [], harness := (true, "5d781a9a6f41818b435689653e70ee28175e9016508a6c483b2745cff33eabdd"), looks := true }, kinds := [], alts := [], laidByText := true, laidKinds := [.data], laidTests := true, laidLooks := .later }
def FnMaybeLowerSetBinOpUnloweredMemberIsRefusedUptoCardSaid : Prop := Claim7.holds Tryz.pinned (.plain (OpenSpec.upto fnMaybeLowerSetBinOpUnloweredMemberIsRefusedSpec)) fnMaybeLowerSetBinOpUnloweredMemberIsRefusedUptoCard

/-- THE SECOND FORM's CARD OF 'n011_212.FnSuperSetBinOpCaseTable'. -/
def fnSuperSetBinOpCaseTableUptoCard : Claim7 := { stood := { row := fnSuperSetBinOpCaseTableUptoRow, standIns := [], harness := (true, "5d781a9a6f41818b435689653e70ee28175e9016508a6c483b2745cff33eabdd"), looks := true }, kinds := [], alts := [], laidByText := true, laidKinds := [.data], laidTests := true, laidLooks := .later }
def FnSuperSetBinOpCaseTableUptoCardSaid : Prop := Claim7.holds Tryz.pinned (.plain (OpenSpec.upto fnSuperSetBinOpCaseTableSpec)) fnSuperSetBinOpCaseTableUptoCard
end Rows
end Go.Proofs.YtkhmjppfogppoaaGreatDoor
