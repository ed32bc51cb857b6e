/-
  Proved: the card of the law n011_42.FnMaybeLowerSetBinOpUnloweredMemberIsRefused: it returns true for every input of its parameters; the package-level variables that its row lists start as the program's text lays them. No other condition.
  The frame of this text follows the kit's toy of a law over a package-level table; the walk lies in YtkhmjppfogppoaaGreatDoorUnlowWalk.
-/
import Derived.Test.YtkhmjppfogppoaaGreatDoorUnlow18Frame
import Derived.Test.YtkhmjppfogppoaaGreatDoorUnlowWalk
namespace Go.Proofs.YtkhmjppfogppoaaGreatDoor.fnMaybeLowerSetBinOpUnloweredMemberIsRefused
theorem walk : WalkT := by
  intro a0 a1 a2 a3 a4 a5 a6 w w0 w1 w4 w5 w6
  exact Use.law18 a0 a1 a2 a3 a4 a5 a6 w
theorem proved : Rows.FnMaybeLowerSetBinOpUnloweredMemberIsRefusedCardSaid := proved_of walk
#print axioms proved
end Go.Proofs.YtkhmjppfogppoaaGreatDoor.fnMaybeLowerSetBinOpUnloweredMemberIsRefused
