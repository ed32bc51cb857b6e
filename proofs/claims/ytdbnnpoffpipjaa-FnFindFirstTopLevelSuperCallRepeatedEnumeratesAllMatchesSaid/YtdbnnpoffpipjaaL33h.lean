/- Row 33: the calls that are sought; the law, cut. No condition. -/
import Derived.Test.YtdbnnpoffpipjaaBsf
import Derived.Test.YtdbnnpoffpipjaaFlc
import Derived.Test.YtdbnnpoffpipjaaLp
import Derived.Test.YtdbnnpoffpipjaaCu
import Derived.Test.YtdbnnpoffpipjaaLf
import Derived.Test.YtdbnnpoffpipjaaIr
import Derived.Test.YtdbnnpoffpipjaaDr
import Derived.Test.YtdbnnpoffpipjaaLv
import Derived.Test.YtdbnnpoffpipjaaFlb
import Derived.Test.YtdbnnpoffpipjaaFin
import Derived.Test.YtdbnnpoffpipjaaFll
import Derived.Test.YtdbnnpoffpipjaaRdr
import Derived.Test.YtdbnnpoffpipjaaFfl
import Derived.Test.YtdbnnpoffpipjaaFfr
import Derived.Test.YtdbnnpoffpipjaaFnb
import Derived.Test.YtdbnnpoffpipjaaFp
import Derived.Test.YtdbnnpoffpipjaaFd
import Derived.Test.YtdbnnpoffpipjaaFn1
import Derived.Test.YtdbnnpoffpipjaaFf1
import Derived.Test.YtdbnnpoffpipjaaJn
import Derived.Test.YtdbnnpoffpipjaaTre
import Derived.Test.YtdbnnpoffpipjaaLoop
import Derived.Test.YtdbnnpoffpipjaaAppL
import Derived.Test.YtdbnnpoffpipjaaApp
import Derived.Test.YtdbnnpoffpipjaaOwnK
import Derived.Test.YtdbnnpoffpipjaaOwn
import Derived.Test.YtdbnnpoffpipjaaDeepCells
import Derived.Test.YtdbnnpoffpipjaaRows
namespace Go.Proofs.Ytdbnnpoffpipjaa.Use
open Go.ChangeShapes Go.WideShapes Go.ChangeAt Go.RowKit Go.Sort Own
set_option linter.unusedVariables false
def i64Z : Array Value := #[.int .i64 0]
theorem infoI64 : (Try.prog.info? 3).map (fun i => (i.zero, i.size, i.bytes)) = some (some (.int .i64 0), 1, 8) := by kernel_rfl
def ixV (l : List Nat) : List Value := l.map fun (q : Nat) => .int .i64 (q : Int)
theorem ixV_length (l : List Nat) : (ixV l).length = l.length := List.length_map ..
theorem ixV_one (l : List Nat) (i : Nat) : ixV l ++ [.int .i64 (i : Int)] = ixV (l ++ [i]) := by unfold ixV; rw [List.map_append]; rfl
theorem ixV_at {l : List Nat} {i q : Nat} (h : l[i]? = some q) : (ixV l)[i]? = some (.int .i64 (q : Int)) := by
  unfold ixV
  rw [List.getElem?_map, h]
  rfl
/-- The numbers below i of the calls that are sought. -/
def SLs (D : Dat) (i : Nat) : List Nat := (List.range i).filter fun q => D.kd q == 1
theorem SLs_yes {D : Dat} {i : Nat} (h : D.kd i = 1) : SLs D (i + 1) = SLs D i ++ [i] := by
  unfold SLs
  rw [List.range_succ, List.filter_append]
  simp [h]
theorem SLs_no {D : Dat} {i : Nat} (h : ¬ D.kd i = 1) : SLs D (i + 1) = SLs D i := by
  unfold SLs
  rw [List.range_succ, List.filter_append]
  simp [h]
theorem SLs_upd (D : Dat) (i a b j : Nat) : SLs (updD D i a b) j = SLs D j := rfl
theorem SLs_nil {D : Dat} {i : Nat} (h : ∀ q, q < i → D.kd q ≠ 1) : SLs D i = [] := by
  unfold SLs
  rw [List.filter_eq_nil_iff]
  intro q hq
  have := h q (List.mem_range.1 hq)
  simpa using this
/-- The law's code behind the two copies. -/
noncomputable def rest33 : Code := cutC 6 (Try.f4.body.getD .skip)

end Go.Proofs.Ytdbnnpoffpipjaa.Use
