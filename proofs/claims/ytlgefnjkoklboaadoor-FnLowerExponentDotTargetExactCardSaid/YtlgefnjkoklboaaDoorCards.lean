/-
  DERIVED. GIVEN WITH THE SEED: THE CARDS: each row of YtlgefnjkoklboaaDoorRows.lean that lists a variable, with what it lists TIED to the program's text (the seventh form; the later family's looks); each row that meets fmt, with fmt's text TOLD by the authors' own Lean function (tested against real Go, not proved from fmt's source: count such statements apart). THE CARD IS WHAT COUNTS. Prove the row's statement (the work); the ties are given (YtlgefnjkoklboaaDoorTie.lean); close each card by the builder's one call (the guide's Derived/Test/ToyasCard.lean, 'card_holds'). Laid BY PROGRAM, IN A SANDBOX (cutbox-door.mjs). By AI agents, Wed Nov 11 2026. No macro, syntax, notation, axiom, sorry.
-/
import Derived.Test.YtlgefnjkoklboaaDoorRows
import GoSem.ClaimSeven
namespace Go.Proofs.YtlgefnjkoklboaaDoor
namespace Rows

/-- THE TIED CARD OF 'n011_131.FnLowerNullishCoalescingLiteralLeftExact'. -/
def fnLowerNullishCoalescingLiteralLeftExactCard : Claim7 := { stood := { row := fnLowerNullishCoalescingLiteralLeftExactRow, standIns := [], harness := (true, "c27219ac621408a98aa2244e3a0afef94d62d703b306c62a4d9edda88df0ab77"), looks := true }, kinds := [], alts := [], laidByText := true, laidKinds := [.data], laidTests := true, laidLooks := .later }
def FnLowerNullishCoalescingLiteralLeftExactCardSaid : Prop := Claim7.holds Tryd.pinned (.plain (OpenSpec.ofChange fnLowerNullishCoalescingLiteralLeftExactSpec)) fnLowerNullishCoalescingLiteralLeftExactCard

/-- THE TIED CARD OF 'n011_131.FnLowerLogicalAssignIdentifierExact'. -/
def fnLowerLogicalAssignIdentifierExactCard : Claim7 := { stood := { row := fnLowerLogicalAssignIdentifierExactRow, standIns := [], harness := (true, "c27219ac621408a98aa2244e3a0afef94d62d703b306c62a4d9edda88df0ab77"), looks := true }, kinds := [], alts := [], laidByText := true, laidKinds := [.data], laidTests := true, laidLooks := .later }
def FnLowerLogicalAssignIdentifierExactCardSaid : Prop := Claim7.holds Tryd.pinned (.plain (OpenSpec.ofChange fnLowerLogicalAssignIdentifierExactSpec)) fnLowerLogicalAssignIdentifierExactCard

/-- THE TIED CARD OF 'n011_131.FnLowerNullishCoalescingIdentifierExact'. -/
def fnLowerNullishCoalescingIdentifierExactCard : Claim7 := { stood := { row := fnLowerNullishCoalescingIdentifierExactRow, standIns := [], harness := (true, "c27219ac621408a98aa2244e3a0afef94d62d703b306c62a4d9edda88df0ab77"), looks := true }, kinds := [], alts := [], laidByText := true, laidKinds := [.data], laidTests := true, laidLooks := .later }
def FnLowerNullishCoalescingIdentifierExactCardSaid : Prop := Claim7.holds Tryd.pinned (.plain (OpenSpec.ofChange fnLowerNullishCoalescingIdentifierExactSpec)) fnLowerNullishCoalescingIdentifierExactCard

/-- THE TIED CARD OF 'n011_131.FnLowerLogicalAssignIndexTargetExact'. -/
def fnLowerLogicalAssignIndexTargetExactCard : Claim7 := { stood := { row := fnLowerLogicalAssignIndexTargetExactRow, standIns := [], harness := (true, "c27219ac621408a98aa2244e3a0afef94d62d703b306c62a4d9edda88df0ab77"), looks := true }, kinds := [], alts := [], laidByText := true, laidKinds := [.data], laidTests := true, laidLooks := .later }
def FnLowerLogicalAssignIndexTargetExactCardSaid : Prop := Claim7.holds Tryd.pinned (.plain (OpenSpec.ofChange fnLowerLogicalAssignIndexTargetExactSpec)) fnLowerLogicalAssignIndexTargetExactCard

/-- THE TIED CARD OF 'n011_131.FnLowerExponentIdentifierExact'. -/
def fnLowerExponentIdentifierExactCard : Claim7 := { stood := { row := fnLowerExponentIdentifierExactRow, standIns := [], harness := (true, "c27219ac621408a98aa2244e3a0afef94d62d703b306c62a4d9edda88df0ab77"), looks := true }, kinds := [], alts := [], laidByText := true, laidKinds := [.data], laidTests := true, laidLooks := .later }
def FnLowerExponentIdentifierExactCardSaid : Prop := Claim7.holds Tryd.pinned (.plain (OpenSpec.ofChange fnLowerExponentIdentifierExactSpec)) fnLowerExponentIdentifierExactCard

/-- THE TIED CARD OF 'n011_131.FnLowerExponentDotTargetExact'. -/
def fnLowerExponentDotTargetExactCard : Claim7 := { stood := { row := fnLowerExponentDotTargetExactRow, standIns := [], harness := (true, "c27219ac621408a98aa2244e3a0afef94d62d703b306c62a4d9edda88df0ab77"), looks := true }, kinds := [], alts := [], laidByText := true, laidKinds := [.data], laidTests := true, laidLooks := .later }
def FnLowerExponentDotTargetExactCardSaid : Prop := Claim7.holds Tryd.pinned (.plain (OpenSpec.ofChange fnLowerExponentDotTargetExactSpec)) fnLowerExponentDotTargetExactCard

/-- THE TIED CARD OF 'n011_131.FnLowerNullishAssignIdentifierExact'. -/
def fnLowerNullishAssignIdentifierExactCard : Claim7 := { stood := { row := fnLowerNullishAssignIdentifierExactRow, standIns := [], harness := (true, "c27219ac621408a98aa2244e3a0afef94d62d703b306c62a4d9edda88df0ab77"), looks := true }, kinds := [], alts := [], laidByText := true, laidKinds := [.data], laidTests := true, laidLooks := .later }
def FnLowerNullishAssignIdentifierExactCardSaid : Prop := Claim7.holds Tryd.pinned (.plain (OpenSpec.ofChange fnLowerNullishAssignIdentifierExactSpec)) fnLowerNullishAssignIdentifierExactCard

/-- THE SECOND FORM's CARD OF 'n011_131.FnLowerNullishCoalescingLiteralLeftExact'. -/
def fnLowerNullishCoalescingLiteralLeftExactUptoCard : Claim7 := { stood := { row := fnLowerNullishCoalescingLiteralLeftExactUptoRow, standIns := [], harness := (true, "c27219ac621408a98aa2244e3a0afef94d62d703b306c62a4d9edda88df0ab77"), looks := true }, kinds := [], alts := [], laidByText := true, laidKinds := [.data], laidTests := true, laidLooks := .later }
def FnLowerNullishCoalescingLiteralLeftExactUptoCardSaid : Prop := Claim7.holds Tryd.pinned (.plain (OpenSpec.upto fnLowerNullishCoalescingLiteralLeftExactSpec)) fnLowerNullishCoalescingLiteralLeftExactUptoCard

/-- THE SECOND FORM's CARD OF 'n011_131.FnLowerLogicalAssignIdentifierExact'. -/
def fnLowerLogicalAssignIdentifierExactUptoCard : Claim7 := { stood := { row := fnLowerLogicalAssignIdentifierExactUptoRow, standIns := [], harness := (true, "c27219ac621408a98aa2244e3a0afef94d62d703b306c62a4d9edda88df0ab77"), looks := true }, kinds := [], alts := [], laidByText := true, laidKinds := [.data], laidTests := true, laidLooks := .later }
def FnLowerLogicalAssignIdentifierExactUptoCardSaid : Prop := Claim7.holds Tryd.pinned (.plain (OpenSpec.upto fnLowerLogicalAssignIdentifierExactSpec)) fnLowerLogicalAssignIdentifierExactUptoCard

/-- THE SECOND FORM's CARD OF 'n011_131.FnLowerNullishCoalescingIdentifierExact'. -/
def fnLowerNullishCoalescingIdentifierExactUptoCard : Claim7 := { stood := { row := fnLowerNullishCoalescingIdentifierExactUptoRow, standIns := [], harness := (true, "c27219ac621408a98aa2244e3a0afef94d62d703b306c62a4d9edda88df0ab77"), looks := true }, kinds := [], alts := [], laidByText := true, laidKinds := [.data], laidTests := true, laidLooks := .later }
def FnLowerNullishCoalescingIdentifierExactUptoCardSaid : Prop := Claim7.holds Tryd.pinned (.plain (OpenSpec.upto fnLowerNullishCoalescingIdentifierExactSpec)) fnLowerNullishCoalescingIdentifierExactUptoCard

/-- THE SECOND FORM's CARD OF 'n011_131.FnLowerLogicalAssignIndexTargetExact'. -/
def fnLowerLogicalAssignIndexTargetExactUptoCard : Claim7 := { stood := { row := fnLowerLogicalAssignIndexTargetExactUptoRow, standIns := [], harness := (true, "c27219ac621408a98aa2244e3a0afef94d62d703b306c62a4d9edda88df0ab77"), looks := true }, kinds := [], alts := [], laidByText := true, laidKinds := [.data], laidTests := true, laidLooks := .later }
def FnLowerLogicalAssignIndexTargetExactUptoCardSaid : Prop := Claim7.holds Tryd.pinned (.plain (OpenSpec.upto fnLowerLogicalAssignIndexTargetExactSpec)) fnLowerLogicalAssignIndexTargetExactUptoCard

/-- THE SECOND FORM's CARD OF 'n011_131.FnLowerExponentIdentifierExact'. -/
def fnLowerExponentIdentifierExactUptoCard : Claim7 := { stood := { row := fnLowerExponentIdentifierExactUptoRow, standIns := [], harness := (true, "c27219ac621408a98aa2244e3a0afef94d62d703b306c62a4d9edda88df0ab77"), looks := true }, kinds := [], alts := [], laidByText := true, laidKinds := [.data], laidTests := true, laidLooks := .later }
def FnLowerExponentIdentifierExactUptoCardSaid : Prop := Claim7.holds Tryd.pinned (.plain (OpenSpec.upto fnLowerExponentIdentifierExactSpec)) fnLowerExponentIdentifierExactUptoCard

/-- THE SECOND FORM's CARD OF 'n011_131.FnLowerExponentDotTargetExact'. -/
def fnLowerExponentDotTargetExactUptoCard : Claim7 := { stood := { row := fnLowerExponentDotTargetExactUptoRow, standIns := [], harness := (true, "c27219ac621408a98aa2244e3a0afef94d62d703b306c62a4d9edda88df0ab77"), looks := true }, kinds := [], alts := [], laidByText := true, laidKinds := [.data], laidTests := true, laidLooks := .later }
def FnLowerExponentDotTargetExactUptoCardSaid : Prop := Claim7.holds Tryd.pinned (.plain (OpenSpec.upto fnLowerExponentDotTargetExactSpec)) fnLowerExponentDotTargetExactUptoCard

/-- THE SECOND FORM's CARD OF 'n011_131.FnLowerNullishAssignIdentifierExact'. -/
def fnLowerNullishAssignIdentifierExactUptoCard : Claim7 := { stood := { row := fnLowerNullishAssignIdentifierExactUptoRow, standIns := [], harness := (true, "c27219ac621408a98aa2244e3a0afef94d62d703b306c62a4d9edda88df0ab77"), looks := true }, kinds := [], alts := [], laidByText := true, laidKinds := [.data], laidTests := true, laidLooks := .later }
def FnLowerNullishAssignIdentifierExactUptoCardSaid : Prop := Claim7.holds Tryd.pinned (.plain (OpenSpec.upto fnLowerNullishAssignIdentifierExactSpec)) fnLowerNullishAssignIdentifierExactUptoCard
end Rows
end Go.Proofs.YtlgefnjkoklboaaDoor
