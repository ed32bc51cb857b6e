/- No calls. No condition. -/
import Derived.Test.YtdbnnpoffpipjaaLv
import Derived.Test.YtdbnnpoffpipjaaRdr
import Derived.Test.YtdbnnpoffpipjaaFin
import Derived.Test.YtdbnnpoffpipjaaFd
import Derived.Test.YtdbnnpoffpipjaaFn1
import Derived.Test.YtdbnnpoffpipjaaFf1
import Derived.Test.YtdbnnpoffpipjaaJn
import Derived.Test.YtdbnnpoffpipjaaTre
import Derived.Test.YtdbnnpoffpipjaaLoop
import Derived.Test.YtdbnnpoffpipjaaAppL
import Derived.Test.YtdbnnpoffpipjaaApp
import Derived.Test.YtdbnnpoffpipjaaOwnK
import Derived.Test.YtdbnnpoffpipjaaOwn
import Derived.Test.YtdbnnpoffpipjaaDeepCells
import Derived.Test.YtdbnnpoffpipjaaRows
namespace Go.Proofs.Ytdbnnpoffpipjaa.Use
open Go.ChangeShapes Go.WideShapes Go.ChangeAt Go.RowKit Go.Sort Own
set_option linter.unusedVariables false
def callsUnSPost (ub kb : Nat) (src inn inx sk : Int) (w0 : World) (X : Nat → Obj → Prop) (e : Ending) (w' : World) : Prop :=
  e = .returned (.bool true) ∧ Own w0 w' [] X
set_option maxRecDepth 100000 in
theorem callsUnS (ub kb : Nat) (src inn inx sk : Int) (w0 w : World) (X : Nat → Obj → Prop) (hO : Own w0 w [] X)  :
    Calls Try.prog 13 #[.slice (some ⟨ub, 0, none⟩) 0 0, .slice (some ⟨kb, 0, none⟩) 0 0, .int .i64 sk, .agg #[.int .u32 src, .int .u32 inn], .agg #[.int .u32 src, .int .u32 inx]] w (callsUnSPost ub kb src inn inx sk w0 X) := by
  go_enter Try.func13, Try.ntmps13
  go_wp2
  go_loopg [11] 1 (fun gf s11 wx => s11 = .int .i64 0 ∧ Own w0 wx [] X)
  case atStart => exact ⟨rfl, hO.step (by exact ((Below.refl _ _).alloc (Nat.le_refl _) _).alloc (by simp) _)⟩
  obtain ⟨rfl, hO⟩ := hrel
  go_wp2
  refine bodyPost_ret (v := .bool true) ?_ rfl ⟨rfl, hO⟩
  simp [results, Try.results13, go_sem]
def callsUnZPost (kb : Nat) (src inn inx sk : Int) (w0 : World) (X : Nat → Obj → Prop) (e : Ending) (w' : World) : Prop :=
  e = .returned (.bool true) ∧ Own w0 w' [] X
set_option maxRecDepth 100000 in
theorem callsUnZ (kb : Nat) (src inn inx sk : Int) (w0 w : World) (X : Nat → Obj → Prop) (hO : Own w0 w [] X)  :
    Calls Try.prog 13 #[.slice none 0 0, .slice (some ⟨kb, 0, none⟩) 0 0, .int .i64 sk, .agg #[.int .u32 src, .int .u32 inn], .agg #[.int .u32 src, .int .u32 inx]] w (callsUnZPost kb src inn inx sk w0 X) := by
  go_enter Try.func13, Try.ntmps13
  go_wp2
  go_loopg [11] 1 (fun gf s11 wx => s11 = .int .i64 0 ∧ Own w0 wx [] X)
  case atStart => exact ⟨rfl, hO.step (by exact ((Below.refl _ _).alloc (Nat.le_refl _) _).alloc (by simp) _)⟩
  obtain ⟨rfl, hO⟩ := hrel
  go_wp2
  refine bodyPost_ret (v := .bool true) ?_ rfl ⟨rfl, hO⟩
  simp [results, Try.results13, go_sem]
theorem makeExprs0 (w : World) : (Instr.makeSlice 28 (.int .i64 0) (.int .i64 0)).run Try.prog w = .ok (.slice (some ⟨w.heap.size, 0, none⟩) 0 0) (w.alloc (.cells (full exprZ [] 0) 35)) := makeExprs 0 (by decide) w
theorem makePtrs0 (w : World) : (Instr.makeSlice 29 (.int .i64 0) (.int .i64 0)).run Try.prog w = .ok (.slice (some ⟨w.heap.size, 0, none⟩) 0 0) (w.alloc (.cells (full ptrZ [] 0) 36)) := makePtrs 0 (by decide) w

end Go.Proofs.Ytdbnnpoffpipjaa.Use
