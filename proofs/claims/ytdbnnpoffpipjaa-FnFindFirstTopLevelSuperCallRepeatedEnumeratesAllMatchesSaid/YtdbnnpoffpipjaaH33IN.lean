/- Row 33: the law, walked to the copies. No condition. -/
import Derived.Test.YtdbnnpoffpipjaaTl33
import Derived.Test.YtdbnnpoffpipjaaZ33
import Derived.Test.YtdbnnpoffpipjaaL33h
import Derived.Test.YtdbnnpoffpipjaaBsf
import Derived.Test.YtdbnnpoffpipjaaLv
import Derived.Test.YtdbnnpoffpipjaaFlb
import Derived.Test.YtdbnnpoffpipjaaFin
import Derived.Test.YtdbnnpoffpipjaaFll
import Derived.Test.YtdbnnpoffpipjaaRdr
import Derived.Test.YtdbnnpoffpipjaaFfl
import Derived.Test.YtdbnnpoffpipjaaFfr
import Derived.Test.YtdbnnpoffpipjaaFnb
import Derived.Test.YtdbnnpoffpipjaaFp
import Derived.Test.YtdbnnpoffpipjaaFd
import Derived.Test.YtdbnnpoffpipjaaFn1
import Derived.Test.YtdbnnpoffpipjaaFf1
import Derived.Test.YtdbnnpoffpipjaaJn
import Derived.Test.YtdbnnpoffpipjaaTre
import Derived.Test.YtdbnnpoffpipjaaLoop
import Derived.Test.YtdbnnpoffpipjaaAppL
import Derived.Test.YtdbnnpoffpipjaaApp
import Derived.Test.YtdbnnpoffpipjaaOwnK
import Derived.Test.YtdbnnpoffpipjaaOwn
import Derived.Test.YtdbnnpoffpipjaaDeepCells
import Derived.Test.YtdbnnpoffpipjaaRows
namespace Go.Proofs.Ytdbnnpoffpipjaa.Use
open Go.ChangeShapes Go.WideShapes Go.ChangeAt Go.RowKit Go.Sort Own
set_option linter.unusedVariables false

set_option maxRecDepth 100000 in
set_option maxHeartbeats 4000000 in
theorem law33IN (sa : Addr) (n cp : Nat) (U : Nat → Nat) (src inn : Int) (w0 w : World) (X : Nat → Obj → Prop) (hO : Own w0 w [] X) (hn4 : n ≤ 4096) (hB : ∀ i, i < n → w0.cell? (sa.add i) = some (.int .u8 (U i : Int))) (hu9 : ∀ i : Nat, i < n → U i < 256) (hnx : ¬ bits BinOp.xor .u32 inn 1 = inn) :
    Calls Try.prog 4 #[.slice (some sa) n cp, .slice none 0 0, .int .u32 src, .int .u32 inn] w (l32Post w0 X) := by
  go_enter Try.func4, Try.ntmps4
  obtain ⟨c9, hc9⟩ : ∃ c, c = rest33 := ⟨_, rfl⟩
  have HC9 := Lib.hid hc9
  simp only [rest33, Try.f4, Option.getD_some, cutC] at hc9
  rw [← hc9]
  clear hc9
  have hn9 : (n : Int) ≤ 4096 := by omega
  have hn8 : (0 : Int) ≤ (n : Int) := by omega
  have heq := fun w => Lib.run_eql_slice_nil (P := Try.prog) w
  go_wp2_with (first | (with_reducible refine Own.stay (fn := Try.f4) ?_) | (first | (go_at_call 14; go_in) | (go_at_call 15; go_in)))
  try with_reducible refine Own.Stay.mk ?_
  have hL := hO.apart
  have hX := hO.apartX
  have HL := Lib.hid hL
  have HX := Lib.hid hX
  clear hL hX
  have hP9 := hO.pick [] (by decide)
  have T9 := copyU8 sa n cp U _ _ _ hP9 hn4 hB
  refine Calls.mono T9 ?_
  clear hP9 T9
  rintro e uw1 ⟨nd2, rfl, hQ⟩
  have hN : Own w0 uw1 [row (nd2) 5 (itR U n)] X := hQ.back HL.out HX.out [] (by decide) (by decide)
  clear hQ HL HX hO
  have hO := hN
  clear hN
  try simp only []
  go_wp2_with (first | (with_reducible refine Own.stay (fn := Try.f4) ?_) | (first | (go_at_call 14; go_in) | (go_at_call 15; go_in)))
  try with_reducible refine Own.Stay.mk ?_
  rw [HC9.out]
  by_cases hn0 : n = 0
  · skip
    subst hn0
    exact tl33z (some ⟨nd2, 0, none⟩) src inn (.slice none 0 0) _ _ _ _ _ _ _ _ _ _ _ _ _ _ _ _ _ _ _ _ _ _ _ _ _ _ _ _ _ _ _ _ _ _ _ _ _ _ _ _ _ _ _ _ _ _ _ _ _ _ _ _ _ _ _ _ _ _ _ _ _ _ _ _ _ _ _ _ _ _ _ _ _ _ _ _ _ _ _ _ _ _ _ _ _ _ _ _ _ _ _ _ _ _ _ _ _ _ _ _ _ _ _ _ _ _ _ _ _ _ _ _ _ _ _ _ _ _ _ _ _ _ _ _ _ _ _ _ _ _ _ _ _ _ _ _ _ _ _ _ _ _ _ _ _ _ _ _ _ _ _ _ _ _ _ _ _ _ _ _ _ _ _ _ _ w0 _ X (hO.sub [] (by decide))
  exact tl33 U n src inn nd2 (.slice none 0 0) _ _ _ _ _ _ _ _ _ _ _ _ _ _ _ _ _ _ _ _ _ _ _ _ _ _ _ _ _ _ _ _ _ _ _ _ _ _ _ _ _ _ _ _ _ _ _ _ _ _ _ _ _ _ _ _ _ _ _ _ _ _ _ _ _ _ _ _ _ _ _ _ _ _ _ _ _ _ _ _ _ _ _ _ _ _ _ _ _ _ _ _ _ _ _ _ _ _ _ _ _ _ _ _ _ _ _ _ _ _ _ _ _ _ _ _ _ _ _ _ _ _ _ _ _ _ _ _ _ _ _ _ _ _ _ _ _ _ _ _ _ _ _ _ _ _ _ _ _ _ _ _ _ _ _ _ _ _ _ _ _ _ _ _ _ w0 _ X hO (by omega) hn4 hu9 hnx (fun D lb w1 w2 Y hO hlv hXY => bs0 D n lb hn4 none (n - 0) 0 n rfl w1 w2 Y hO hlv (by omega) (Nat.le_refl _))
end Go.Proofs.Ytdbnnpoffpipjaa.Use
