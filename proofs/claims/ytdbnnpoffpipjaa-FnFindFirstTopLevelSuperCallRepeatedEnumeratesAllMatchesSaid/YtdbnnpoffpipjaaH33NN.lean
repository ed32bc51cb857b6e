/- Row 33: the law, walked to the copies. No condition. -/
import Derived.Test.YtdbnnpoffpipjaaTl33
import Derived.Test.YtdbnnpoffpipjaaZ33
import Derived.Test.YtdbnnpoffpipjaaL33h
import Derived.Test.YtdbnnpoffpipjaaBsf
import Derived.Test.YtdbnnpoffpipjaaLv
import Derived.Test.YtdbnnpoffpipjaaFlb
import Derived.Test.YtdbnnpoffpipjaaFin
import Derived.Test.YtdbnnpoffpipjaaFll
import Derived.Test.YtdbnnpoffpipjaaRdr
import Derived.Test.YtdbnnpoffpipjaaFfl
import Derived.Test.YtdbnnpoffpipjaaFfr
import Derived.Test.YtdbnnpoffpipjaaFnb
import Derived.Test.YtdbnnpoffpipjaaFp
import Derived.Test.YtdbnnpoffpipjaaFd
import Derived.Test.YtdbnnpoffpipjaaFn1
import Derived.Test.YtdbnnpoffpipjaaFf1
import Derived.Test.YtdbnnpoffpipjaaJn
import Derived.Test.YtdbnnpoffpipjaaTre
import Derived.Test.YtdbnnpoffpipjaaLoop
import Derived.Test.YtdbnnpoffpipjaaAppL
import Derived.Test.YtdbnnpoffpipjaaApp
import Derived.Test.YtdbnnpoffpipjaaOwnK
import Derived.Test.YtdbnnpoffpipjaaOwn
import Derived.Test.YtdbnnpoffpipjaaDeepCells
import Derived.Test.YtdbnnpoffpipjaaRows
namespace Go.Proofs.Ytdbnnpoffpipjaa.Use
open Go.ChangeShapes Go.WideShapes Go.ChangeAt Go.RowKit Go.Sort Own
set_option linter.unusedVariables false

set_option maxRecDepth 100000 in
set_option maxHeartbeats 4000000 in
theorem law33NN (src inn : Int) (w0 w : World) (X : Nat → Obj → Prop) (hO : Own w0 w [] X) (hnx : ¬ bits BinOp.xor .u32 inn 1 = inn) :
    Calls Try.prog 4 #[.slice none 0 0, .slice none 0 0, .int .u32 src, .int .u32 inn] w (l32Post w0 X) := by
  go_enter Try.func4, Try.ntmps4
  obtain ⟨c9, hc9⟩ : ∃ c, c = rest33 := ⟨_, rfl⟩
  have HC9 := Lib.hid hc9
  simp only [rest33, Try.f4, Option.getD_some, cutC] at hc9
  rw [← hc9]
  clear hc9
  have heq := fun w => Lib.run_eql_slice_nil (P := Try.prog) w
  go_wp2_with (first | (with_reducible refine Own.stay (fn := Try.f4) ?_) | (first | (go_at_call 14; go_in) | (go_at_call 6; go_in) | (go_at_call 15; go_in)))
  try with_reducible refine Own.Stay.mk ?_
  rw [HC9.out]
  exact tl33z none src inn (.slice none 0 0) _ _ _ _ _ _ _ _ _ _ _ _ _ _ _ _ _ _ _ _ _ _ _ _ _ _ _ _ _ _ _ _ _ _ _ _ _ _ _ _ _ _ _ _ _ _ _ _ _ _ _ _ _ _ _ _ _ _ _ _ _ _ _ _ _ _ _ _ _ _ _ _ _ _ _ _ _ _ _ _ _ _ _ _ _ _ _ _ _ _ _ _ _ _ _ _ _ _ _ _ _ _ _ _ _ _ _ _ _ _ _ _ _ _ _ _ _ _ _ _ _ _ _ _ _ _ _ _ _ _ _ _ _ _ _ _ _ _ _ _ _ _ _ _ _ _ _ _ _ _ _ _ _ _ _ _ _ _ _ _ _ _ _ _ _ w0 _ X hO
end Go.Proofs.Ytdbnnpoffpipjaa.Use
