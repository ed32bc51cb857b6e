/- What the search hands back. No condition. -/
import Derived.Test.YtdbnnpoffpipjaaFd
import Derived.Test.YtdbnnpoffpipjaaFn1
import Derived.Test.YtdbnnpoffpipjaaFf1
import Derived.Test.YtdbnnpoffpipjaaJn
import Derived.Test.YtdbnnpoffpipjaaTre
import Derived.Test.YtdbnnpoffpipjaaLoop
import Derived.Test.YtdbnnpoffpipjaaAppL
import Derived.Test.YtdbnnpoffpipjaaApp
import Derived.Test.YtdbnnpoffpipjaaOwnK
import Derived.Test.YtdbnnpoffpipjaaOwn
import Derived.Test.YtdbnnpoffpipjaaDeepCells
import Derived.Test.YtdbnnpoffpipjaaRows
namespace Go.Proofs.Ytdbnnpoffpipjaa.Use
open Go.ChangeShapes Go.WideShapes Go.ChangeAt Go.RowKit Go.Sort Own
set_option linter.unusedVariables false
def findFPost (D : Dat) (k : Nat) (A B : List Nat) (w0 : World) (X : Nat → Obj → Prop) (e : Ending) (w' : World) : Prop :=
  ∃ es : Nat, ∃ c : Nat, e = .returned (.tuple #[.agg #[dO D (bfA A c), .int .i32 (lO (bfA A c))], .agg #[.int .i32 (k : Int)], .pointer (some ⟨(D.ad k), 0, none⟩), .agg #[dO D (afB B c), .int .i32 (lO (afB B c))]]) ∧ Own w0 w' [] (XF X D k A B es c)

end Go.Proofs.Ytdbnnpoffpipjaa.Use
