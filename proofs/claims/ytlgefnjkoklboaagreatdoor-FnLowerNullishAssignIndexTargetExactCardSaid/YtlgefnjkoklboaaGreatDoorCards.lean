/-
  DERIVED. GIVEN WITH THE SEED: THE CARDS: each row of YtlgefnjkoklboaaGreatDoorRows.lean that lists a variable, with what it lists TIED to the program's text (the seventh form; the later family's looks); each row that meets fmt, with fmt's text TOLD by the authors' own Lean function (tested against real Go, not proved from fmt's source: count such statements apart). THE CARD IS WHAT COUNTS. Prove the row's statement (the work); the ties are given (YtlgefnjkoklboaaGreatDoorTie.lean); close each card by the builder's one call (the guide's Derived/Test/ToyasCard.lean, 'card_holds'). Laid BY PROGRAM, IN A SANDBOX (cutbox-door.mjs). By AI agents, Wed Nov 11 2026. No macro, syntax, notation, axiom, sorry.
-/
import Derived.Test.YtlgefnjkoklboaaGreatDoorRows
import GoSem.ClaimSeven
namespace Go.Proofs.YtlgefnjkoklboaaGreatDoor
namespace Rows

/-- THE TIED CARD OF 'n011_131.FnLowerNullishAssignIndexTargetExact'. -/
def fnLowerNullishAssignIndexTargetExactCard : Claim7 := { stood := { row := fnLowerNullishAssignIndexTargetExactRow, standIns := [], harness := (true, "8cd4e032cea6c0e7ebd26cb3c4b2637847883a88dce34bf566255386a9f68a94"), looks := true }, kinds := [], alts := [], laidByText := true, laidKinds := [.data], laidTests := true, laidLooks := .later }
def FnLowerNullishAssignIndexTargetExactCardSaid : Prop := Claim7.holds Tryz.pinned (.plain (OpenSpec.ofChange fnLowerNullishAssignIndexTargetExactSpec)) fnLowerNullishAssignIndexTargetExactCard

/-- THE SECOND FORM's CARD OF 'n011_131.FnLowerNullishAssignIndexTargetExact'. -/
def fnLowerNullishAssignIndexTargetExactUptoCard : Claim7 := { stood := { row := fnLowerNullishAssignIndexTargetExactUptoRow, standIns := [], harness := (true, "8cd4e032cea6c0e7ebd26cb3c4b2637847883a88dce34bf566255386a9f68a94"), looks := true }, kinds := [], alts := [], laidByText := true, laidKinds := [.data], laidTests := true, laidLooks := .later }
def FnLowerNullishAssignIndexTargetExactUptoCardSaid : Prop := Claim7.holds Tryz.pinned (.plain (OpenSpec.upto fnLowerNullishAssignIndexTargetExactSpec)) fnLowerNullishAssignIndexTargetExactUptoCard
end Rows
end Go.Proofs.YtlgefnjkoklboaaGreatDoor
