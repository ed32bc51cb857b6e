/-
  Proved: the card of the law n011_131.FnLowerNullishAssignIndexTargetExact: it returns true for every input of its parameters; the package-level variables that its row lists start as the program's text lays them. No other condition.
  The frame of this text follows the kit's toy of a law over a package-level table; the walk lies in YtlgefnjkoklboaaGreatDoorNaIxWalk.
-/
import Derived.Test.YtlgefnjkoklboaaGreatDoorNaIxFrame
import Derived.Test.YtlgefnjkoklboaaGreatDoorNaIxWalk
namespace Go.Proofs.YtlgefnjkoklboaaGreatDoor.fnLowerNullishAssignIndexTargetExact
theorem walk : WalkT := by
  intro a0 a1 a2 a3 a4 a5 a6 a7 a8 w w0 w1 w2 w3 w4 w5 w6 w7 w8
  exact Use.law25 a0 a1 a2 a3 a4 a5 a6 a7 a8 w (Use.u32r w2).1 (Use.u32r w2).2
theorem proved : Rows.FnLowerNullishAssignIndexTargetExactCardSaid := proved_of walk
#print axioms proved
end Go.Proofs.YtlgefnjkoklboaaGreatDoor.fnLowerNullishAssignIndexTargetExact
