/- A key compared with its units. No condition. -/
import Derived.Test.YtkhmjppfogppoaaDoorUex
import Derived.Test.YtkhmjppfogppoaaDoorU16x
import Derived.Test.YtkhmjppfogppoaaDoorKit2
import Derived.Test.YtkhmjppfogppoaaDoorCall
import Derived.Test.YtkhmjppfogppoaaDoorKit
import Derived.Test.YtkhmjppfogppoaaDoorLoop
import Derived.Test.YtkhmjppfogppoaaDoorLive
import Derived.Test.YtkhmjppfogppoaaDoorApp
import Derived.Test.YtkhmjppfogppoaaDoorOwnK
import Derived.Test.YtkhmjppfogppoaaDoorOwn
import Derived.Test.YtkhmjppfogppoaaDoorDeepCells
import Derived.Test.YtkhmjppfogppoaaDoorRows
import Derived.Test.YtkhmjppfogppoaaDoorUse
namespace Go.Proofs.YtkhmjppfogppoaaDoor.Use
open Go.ChangeShapes Go.WideShapes Go.ChangeAt Go.RowKit Go.Sort Own
set_option linter.unusedVariables false
def isKeyYPost (nm : ByteArray) (eb ua ub da db : Nat) (l : Int) (w0 : World) (X : Nat → Obj → Prop) (e : Ending) (w' : World) : Prop :=
  e = .returned (.bool true) ∧ Own w0 w' [row (eb) 208 #[.slice (some ⟨ua, 0, none⟩) (u16L nm).length ((u16L nm).length + da), .int .i32 0, .bool false, .bool false, .bool false], row (ua) 51 (full u16Z (u16L nm) da), row (ub) 51 (full u16Z (u16L nm) db)] X
theorem isKeyY (nm : ByteArray) (eb ua ub da db : Nat) (l : Int) (w0 w : World) (X : Nat → Obj → Prop) (hO : Own w0 w [row (eb) 208 #[.slice (some ⟨ua, 0, none⟩) (u16L nm).length ((u16L nm).length + da), .int .i32 0, .bool false, .bool false, .bool false], row (ua) 51 (full u16Z (u16L nm) da), row (ub) 51 (full u16Z (u16L nm) db)] X) (hlen : nm.size ≤ 65536) :
    Calls Tryd.prog 25 #[.agg #[.iface 206 (.pointer (some ⟨eb, 0, none⟩)), .int .i32 l], .slice (some ⟨ub, 0, none⟩) (u16L nm).length ((u16L nm).length + db)] w (isKeyYPost nm eb ua ub da db l w0 X) := isKeyX (u16L nm) eb ua ub da db l w0 w X hO (by have := u16L_len nm; omega) (u16L_int nm)

end Go.Proofs.YtkhmjppfogppoaaDoor.Use
