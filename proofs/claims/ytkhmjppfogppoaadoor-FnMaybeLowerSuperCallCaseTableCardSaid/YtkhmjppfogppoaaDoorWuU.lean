/- The laws' helpers in any context. No condition. -/
import Derived.Test.YtkhmjppfogppoaaDoorUniG
import Derived.Test.YtkhmjppfogppoaaDoorKit2
import Derived.Test.YtkhmjppfogppoaaDoorKit
import Derived.Test.YtkhmjppfogppoaaDoorLoop
import Derived.Test.YtkhmjppfogppoaaDoorLive
import Derived.Test.YtkhmjppfogppoaaDoorApp
import Derived.Test.YtkhmjppfogppoaaDoorOwnK
import Derived.Test.YtkhmjppfogppoaaDoorOwn
import Derived.Test.YtkhmjppfogppoaaDoorDeepCells
import Derived.Test.YtkhmjppfogppoaaDoorRows
import Derived.Test.YtkhmjppfogppoaaDoorUse
namespace Go.Proofs.YtkhmjppfogppoaaDoor.Use
open Go.ChangeShapes Go.WideShapes Go.ChangeAt Go.RowKit Go.Sort Own
set_option linter.unusedVariables false
def classArgUPost (s : Bool) (cb xb : Nat) (l l2 : Int) (w0 : World) (X : Nat → Obj → Prop) (e : Ending) (w' : World) : Prop :=
  e = .returned (.bool true) ∧ Own w0 w' [row (cb) (clsT s) (clsC s l2 xb), row (xb) (xtrT s) (xtrC s l2 cb)] X
set_option maxRecDepth 100000 in
theorem classArgU (s : Bool) (cb xb : Nat) (l l2 : Int) (w0 w : World) (X : Nat → Obj → Prop) (hO : Own w0 w [row (cb) (clsT s) (clsC s l2 xb), row (xb) (xtrT s) (xtrC s l2 cb)] X)  :
    Calls Tryd.prog 23 #[.agg #[.iface (clsTy s) (.pointer (some ⟨cb, 0, none⟩)), .int .i32 l], .agg #[.int .u32 0, .int .u32 0], .bool s] w (classArgUPost s cb xb l l2 w0 X) := by
  cases s
  · refine Calls.mono (classArg0 xb l cb l2 _ _ _ (hO.sub [1, 0] (by decide))) ?_
    rintro e w' ⟨rfl, hQ⟩
    exact ⟨rfl, hQ.sub [1, 0] (by decide)⟩
  · have hP := hO.pick [0] (by decide)
    refine Calls.mono (classArg1 cb l _ _ _ hP) ?_
    rintro e w' ⟨rfl, hQ⟩
    exact ⟨rfl, hQ.back hO.apart hO.apartX [1] (by decide) (by decide)⟩

def thisArgUPost (r : Bool) (tb : Nat) (l : Int) (w0 : World) (X : Nat → Obj → Prop) (e : Ending) (w' : World) : Prop :=
  e = .returned (.bool true) ∧ Own w0 w' [row (tb) (thsT r) (thsC r)] X
set_option maxRecDepth 100000 in
theorem thisArgU (r : Bool) (tb : Nat) (l : Int) (w0 w : World) (X : Nat → Obj → Prop) (hO : Own w0 w [row (tb) (thsT r) (thsC r)] X)  :
    Calls Tryd.prog 24 #[.agg #[.iface (thsTy r) (.pointer (some ⟨tb, 0, none⟩)), .int .i32 l], .agg #[.int .u32 0, .int .u32 0], .bool r] w (thisArgUPost r tb l w0 X) := by
  cases r
  · have hP := hO.pick [] (by decide)
    refine Calls.mono (thisArg0 tb l _ _ _ hP) ?_
    rintro e w' ⟨rfl, hQ⟩
    exact ⟨rfl, hQ.back hO.apart hO.apartX [0] (by decide) (by decide)⟩
  · refine Calls.mono (thisArg1 tb l _ _ _ hO) ?_
    rintro e w' ⟨rfl, hQ⟩
    exact ⟨rfl, hQ⟩

def wantUsesU1Post (r : Bool) (w0 : World) (X : Nat → Obj → Prop) (e : Ending) (w' : World) : Prop :=
  e = .returned (.int .u32 (uz r 0 : Int)) ∧ Own w0 w' [] X
set_option maxRecDepth 100000 in
theorem wantUsesU1 (r : Bool) (w0 w : World) (X : Nat → Obj → Prop) (hO : Own w0 w [] X)  :
    Calls Tryd.prog 19 #[.bool r, .int .u32 1] w (wantUsesU1Post r w0 X) := by
  cases r
  · refine Calls.mono (wantUses01 _ _ _ hO) ?_
    rintro e w' ⟨rfl, hQ⟩
    exact ⟨rfl, hQ⟩
  · refine Calls.mono (wantUses11 _ _ _ hO) ?_
    rintro e w' ⟨rfl, hQ⟩
    exact ⟨rfl, hQ⟩

end Go.Proofs.YtkhmjppfogppoaaDoor.Use
