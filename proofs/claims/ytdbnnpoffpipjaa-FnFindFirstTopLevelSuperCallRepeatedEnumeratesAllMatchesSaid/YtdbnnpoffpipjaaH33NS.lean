/- Row 33: the law, walked to the copies. No condition. -/
import Derived.Test.YtdbnnpoffpipjaaTl33
import Derived.Test.YtdbnnpoffpipjaaZ33
import Derived.Test.YtdbnnpoffpipjaaL33h
import Derived.Test.YtdbnnpoffpipjaaBsf
import Derived.Test.YtdbnnpoffpipjaaLv
import Derived.Test.YtdbnnpoffpipjaaFlb
import Derived.Test.YtdbnnpoffpipjaaFin
import Derived.Test.YtdbnnpoffpipjaaFll
import Derived.Test.YtdbnnpoffpipjaaRdr
import Derived.Test.YtdbnnpoffpipjaaFfl
import Derived.Test.YtdbnnpoffpipjaaFfr
import Derived.Test.YtdbnnpoffpipjaaFnb
import Derived.Test.YtdbnnpoffpipjaaFp
import Derived.Test.YtdbnnpoffpipjaaFd
import Derived.Test.YtdbnnpoffpipjaaFn1
import Derived.Test.YtdbnnpoffpipjaaFf1
import Derived.Test.YtdbnnpoffpipjaaJn
import Derived.Test.YtdbnnpoffpipjaaTre
import Derived.Test.YtdbnnpoffpipjaaLoop
import Derived.Test.YtdbnnpoffpipjaaAppL
import Derived.Test.YtdbnnpoffpipjaaApp
import Derived.Test.YtdbnnpoffpipjaaOwnK
import Derived.Test.YtdbnnpoffpipjaaOwn
import Derived.Test.YtdbnnpoffpipjaaDeepCells
import Derived.Test.YtdbnnpoffpipjaaRows
namespace Go.Proofs.Ytdbnnpoffpipjaa.Use
open Go.ChangeShapes Go.WideShapes Go.ChangeAt Go.RowKit Go.Sort Own
set_option linter.unusedVariables false

set_option maxRecDepth 100000 in
set_option maxHeartbeats 4000000 in
theorem law33NS (sb : Addr) (m cq : Nat) (V : Nat → Nat) (src inn : Int) (w0 w : World) (X : Nat → Obj → Prop) (hO : Own w0 w [] X) (hm6 : m ≤ 65536) (hC : ∀ i, i < m → w0.cell? (sb.add i) = some (.int .u16 (V i : Int))) (hV9 : ∀ i : Nat, i < m → V i < 65536) (hnx : ¬ bits BinOp.xor .u32 inn 1 = inn) :
    Calls Try.prog 4 #[.slice none 0 0, .slice (some sb) m cq, .int .u32 src, .int .u32 inn] w (l32Post w0 X) := by
  go_enter Try.func4, Try.ntmps4
  obtain ⟨c9, hc9⟩ : ∃ c, c = rest33 := ⟨_, rfl⟩
  have HC9 := Lib.hid hc9
  simp only [rest33, Try.f4, Option.getD_some, cutC] at hc9
  rw [← hc9]
  clear hc9
  have hm9 : (m : Int) ≤ 65536 := by omega
  have hm8 : (0 : Int) ≤ (m : Int) := by omega
  have heq := fun w => Lib.run_eql_slice_nil (P := Try.prog) w
  go_wp2_with (first | (with_reducible refine Own.stay (fn := Try.f4) ?_) | (first | (go_at_call 14; go_in) | (go_at_call 6; go_in)))
  try with_reducible refine Own.Stay.mk ?_
  have hL := hO.apart
  have hX := hO.apartX
  have HL := Lib.hid hL
  have HX := Lib.hid hX
  clear hL hX
  have hP9 := hO.pick [] (by decide)
  have T9 := copyU16 sb m cq V _ _ _ hP9 hm6 hC
  refine Calls.mono T9 ?_
  clear hP9 T9
  rintro e uw1 ⟨nd2, rfl, hQ⟩
  have hN : Own w0 uw1 [row (nd2) 73 (spR V m)] X := hQ.back HL.out HX.out [] (by decide) (by decide)
  clear hQ HL HX hO
  have hO := hN
  clear hN
  try simp only []
  go_wp2_with (first | (with_reducible refine Own.stay (fn := Try.f4) ?_) | (first | (go_at_call 14; go_in) | (go_at_call 6; go_in)))
  try with_reducible refine Own.Stay.mk ?_
  rw [HC9.out]
  have hN : Own w0 uw1 [row (nd2) 73 (spR V m)] X := hO.sub [0] (by decide)
  clear hO
  have hO := hN
  clear hN
  have hN := Own.give (b := nd2) (o := .cells (spR V m) 73 (0, 0)) (Y := (fun b o => X b o ∨ (b = nd2 ∧ o = .cells (spR V m) 73 (0, 0)))) (hO.conv rfl) (fun b o h => h)
  clear hO
  have hO := hN
  clear hN
  exact tl33z none src inn (.slice (some ⟨nd2, 0, none⟩) m m) _ _ _ _ _ _ _ _ _ _ _ _ _ _ _ _ _ _ _ _ _ _ _ _ _ _ _ _ _ _ _ _ _ _ _ _ _ _ _ _ _ _ _ _ _ _ _ _ _ _ _ _ _ _ _ _ _ _ _ _ _ _ _ _ _ _ _ _ _ _ _ _ _ _ _ _ _ _ _ _ _ _ _ _ _ _ _ _ _ _ _ _ _ _ _ _ _ _ _ _ _ _ _ _ _ _ _ _ _ _ _ _ _ _ _ _ _ _ _ _ _ _ _ _ _ _ _ _ _ _ _ _ _ _ _ _ _ _ _ _ _ _ _ _ _ _ _ _ _ _ _ _ _ _ _ _ _ _ _ _ _ _ _ _ _ w0 _ (fun b o => X b o ∨ (b = nd2 ∧ o = .cells (spR V m) 73 (0, 0))) hO
end Go.Proofs.Ytdbnnpoffpipjaa.Use
