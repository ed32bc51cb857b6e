/-
  DERIVED. GIVEN WITH THE SEED: THE CARDS: each row of YtghofdhhhbbaaaaGreatDoorRows.lean that lists a variable, with what it lists TIED to the program's text (the seventh form; the later family's looks); each row that meets fmt, with fmt's text TOLD by the authors' own Lean function (tested against real Go, not proved from fmt's source: count such statements apart). THE CARD IS WHAT COUNTS. Prove the row's statement (the work); the ties are given (YtghofdhhhbbaaaaGreatDoorTie.lean); close each card by the builder's one call (the guide's Derived/Test/ToyasCard.lean, 'card_holds'). Laid BY PROGRAM, IN A SANDBOX (cutbox-door.mjs). By AI agents, Wed Nov 11 2026. No macro, syntax, notation, axiom, sorry.
-/
import Derived.Test.YtghofdhhhbbaaaaGreatDoorRows
import GoSem.ClaimSeven
namespace Go.Proofs.YtghofdhhhbbaaaaGreatDoor
namespace Rows

/-- THE TIED CARD OF 'n011_247.FnLowerAssignArraySplitCounts'. -/
def fnLowerAssignArraySplitCountsCard : Claim7 := { stood := { row := fnLowerAssignArraySplitCountsRow, standIns := [], harness := (true, "03e78147d07b7684cc9d7b9433957ed33d6a069bee97d56b25cc34eecde87d8e"), looks := true }, kinds := [], alts := [], laidByText := true, laidKinds := [.data], laidTests := true, laidLooks := .later }
def FnLowerAssignArraySplitCountsCardSaid : Prop := Claim7.holds Tryz.pinned (.plain (OpenSpec.ofChange fnLowerAssignArraySplitCountsSpec)) fnLowerAssignArraySplitCountsCard

/-- THE TIED CARD OF 'n011_247.FnLowerAssignObjectCounts'. -/
def fnLowerAssignObjectCountsCard : Claim7 := { stood := { row := fnLowerAssignObjectCountsRow, standIns := [], harness := (true, "03e78147d07b7684cc9d7b9433957ed33d6a069bee97d56b25cc34eecde87d8e"), looks := true }, kinds := [], alts := [], laidByText := true, laidKinds := [.data], laidTests := true, laidLooks := .later }
def FnLowerAssignObjectCountsCardSaid : Prop := Claim7.holds Tryz.pinned (.plain (OpenSpec.ofChange fnLowerAssignObjectCountsSpec)) fnLowerAssignObjectCountsCard

/-- THE SECOND FORM's CARD OF 'n011_247.FnLowerAssignArraySplitCounts'. -/
def fnLowerAssignArraySplitCountsUptoCard : Claim7 := { stood := { row := fnLowerAssignArraySplitCountsUptoRow, standIns := [], harness := (true, "03e78147d07b7684cc9d7b9433957ed33d6a069bee97d56b25cc34eecde87d8e"), looks := true }, kinds := [], alts := [], laidByText := true, laidKinds := [.data], laidTests := true, laidLooks := .later }
def FnLowerAssignArraySplitCountsUptoCardSaid : Prop := Claim7.holds Tryz.pinned (.plain (OpenSpec.upto fnLowerAssignArraySplitCountsSpec)) fnLowerAssignArraySplitCountsUptoCard

/-- THE SECOND FORM's CARD OF 'n011_247.FnLowerAssignObjectCounts'. -/
def fnLowerAssignObjectCountsUptoCard : Claim7 := { stood := { row := fnLowerAssignObjectCountsUptoRow, standIns := [], harness := (true, "03e78147d07b7684cc9d7b9433957ed33d6a069bee97d56b25cc34eecde87d8e"), looks := true }, kinds := [], alts := [], laidByText := true, laidKinds := [.data], laidTests := true, laidLooks := .later }
def FnLowerAssignObjectCountsUptoCardSaid : Prop := Claim7.holds Tryz.pinned (.plain (OpenSpec.upto fnLowerAssignObjectCountsSpec)) fnLowerAssignObjectCountsUptoCard
end Rows
end Go.Proofs.YtghofdhhhbbaaaaGreatDoor
