/- Flattening, told as the law wants it. No condition. -/
import Derived.Test.YtdbnnpoffpipjaaIr
import Derived.Test.YtdbnnpoffpipjaaFlb
import Derived.Test.YtdbnnpoffpipjaaFin
import Derived.Test.YtdbnnpoffpipjaaFll
import Derived.Test.YtdbnnpoffpipjaaRdr
import Derived.Test.YtdbnnpoffpipjaaFd
import Derived.Test.YtdbnnpoffpipjaaFn1
import Derived.Test.YtdbnnpoffpipjaaFf1
import Derived.Test.YtdbnnpoffpipjaaJn
import Derived.Test.YtdbnnpoffpipjaaTre
import Derived.Test.YtdbnnpoffpipjaaLoop
import Derived.Test.YtdbnnpoffpipjaaAppL
import Derived.Test.YtdbnnpoffpipjaaApp
import Derived.Test.YtdbnnpoffpipjaaOwnK
import Derived.Test.YtdbnnpoffpipjaaOwn
import Derived.Test.YtdbnnpoffpipjaaDeepCells
import Derived.Test.YtdbnnpoffpipjaaRows
namespace Go.Proofs.Ytdbnnpoffpipjaa.Use
open Go.ChangeShapes Go.WideShapes Go.ChangeAt Go.RowKit Go.Sort Own
set_option linter.unusedVariables false
theorem flat0 (D : Dat) (t : Tr) (w0 w : World) (X : Nat → Obj → Prop) (hO : Own w0 w [] X) (hN : NodesIn X D t) (hbd : t.flat.length ≤ 100000) :
    Calls Try.prog 12 #[.agg #[dV D t, .int .i32 (lV t)], .slice none 0 0] w (flat0Post D t w0 X) := (flat01 D w0 t).1 w0 w X hO hN hbd
def flatZOPost (D : Dat) (w0 : World) (X : Nat → Obj → Prop) (e : Ending) (w' : World) : Prop :=
  e = .returned (.slice none 0 0) ∧ Own w0 w' [] X
theorem flatZO (D : Dat) (w0 w : World) (X : Nat → Obj → Prop) (hO : Own w0 w [] X)  :
    Calls Try.prog 12 #[.agg #[dO D none, .int .i32 (lO none)], .slice none 0 0] w (flatZOPost D w0 X) := flatNil 0 w0 w X hO
def flat0OPost (D : Dat) (t : Tr) (w0 : World) (X : Nat → Obj → Prop) (e : Ending) (w' : World) : Prop :=
  ∃ ob2 : Nat, ∃ oc2 : Nat, e = .returned (.slice (some ⟨ob2, 0, none⟩) (t.flat.length) (t.flat.length + oc2)) ∧ Own w0 w' [row (ob2) 21 (full i32Z (rgV (t.flat)) oc2)] X
theorem flat0O (D : Dat) (t : Tr) (w0 w : World) (X : Nat → Obj → Prop) (hO : Own w0 w [] X) (hN : NodesIn X D t) (hbd : t.flat.length ≤ 100000) :
    Calls Try.prog 12 #[.agg #[dO D (some t), .int .i32 (lO (some t))], .slice none 0 0] w (flat0OPost D t w0 X) := flat0 D t w0 w X hO hN hbd
def isRng0bPost (lo hi : Int) (w0 : World) (X : Nat → Obj → Prop) (e : Ending) (w' : World) : Prop :=
  e = .returned (.bool true) ∧ Own w0 w' [] X
theorem isRng0b (lo hi : Int) (w0 w : World) (X : Nat → Obj → Prop) (hO : Own w0 w [] X) (heq : hi = lo) (hlo : 0 ≤ lo) (hlo9 : lo ≤ 5000) :
    Calls Try.prog 11 #[.slice none 0 0, .int .i64 lo, .int .i64 hi] w (isRng0bPost lo hi w0 X) := by
  subst heq
  exact isRng0 hi w0 w X hO hlo hlo9
theorem rng_at {lo m i : Nat} (h : i < m) : ∃ q : Nat, (List.range' lo m)[i]? = some q ∧ (q : Int) = (lo : Int) + (i : Int) := by
  refine ⟨lo + i, ?_, by omega⟩
  rw [List.getElem?_range' h, Nat.one_mul]

end Go.Proofs.Ytdbnnpoffpipjaa.Use
