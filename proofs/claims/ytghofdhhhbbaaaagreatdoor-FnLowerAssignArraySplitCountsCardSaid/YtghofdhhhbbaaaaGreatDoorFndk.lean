/- Types of keys. No condition. -/
import Derived.Test.YtghofdhhhbbaaaaGreatDoorIts
import Derived.Test.YtghofdhhhbbaaaaGreatDoorIfm
import Derived.Test.YtghofdhhhbbaaaaGreatDoorSla
import Derived.Test.YtghofdhhhbbaaaaGreatDoorLoop
import Derived.Test.YtghofdhhhbbaaaaGreatDoorMini
import Derived.Test.YtghofdhhhbbaaaaGreatDoorAppL
import Derived.Test.YtghofdhhhbbaaaaGreatDoorApp
import Derived.Test.YtghofdhhhbbaaaaGreatDoorOwnK
import Derived.Test.YtghofdhhhbbaaaaGreatDoorOwn
import Derived.Test.YtghofdhhhbbaaaaGreatDoorDeepCells
import Derived.Test.YtghofdhhhbbaaaaGreatDoorRows
import Derived.Test.YtghofdhhhbbaaaaGreatDoorLive
namespace Go.Proofs.YtghofdhhhbbaaaaGreatDoor.Use
open Go.ChangeShapes Go.WideShapes Go.ChangeAt Go.RowKit Go.Sort Own
set_option linter.unusedVariables false
theorem ktO : Kt Tryz.prog 25 202 := ⟨⟨_, Tryz.underlying25⟩, by kernel_rfl, by kernel_rfl, fun w => by kernel_rfl⟩
theorem ktA : Kt Tryz.prog 25 205 := ⟨⟨_, Tryz.underlying25⟩, by kernel_rfl, by kernel_rfl, fun w => by kernel_rfl⟩
theorem ktI : Kt Tryz.prog 25 56 := ⟨⟨_, Tryz.underlying25⟩, by kernel_rfl, by kernel_rfl, fun w => by kernel_rfl⟩

end Go.Proofs.YtghofdhhhbbaaaaGreatDoor.Use
