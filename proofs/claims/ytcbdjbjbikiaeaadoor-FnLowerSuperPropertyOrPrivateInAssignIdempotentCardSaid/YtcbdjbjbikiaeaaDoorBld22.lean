/- Row 22: one more item. No condition. -/
import Derived.Test.YtcbdjbjbikiaeaaDoorHb22
import Derived.Test.YtcbdjbjbikiaeaaDoorArhd
import Derived.Test.YtcbdjbjbikiaeaaDoorIta
import Derived.Test.YtcbdjbjbikiaeaaDoorNdt
import Derived.Test.YtcbdjbjbikiaeaaDoorItm
import Derived.Test.YtcbdjbjbikiaeaaDoorOwn
import Derived.Test.YtcbdjbjbikiaeaaDoorOwnK
import Derived.Test.YtcbdjbjbikiaeaaDoorLoop
import Derived.Test.YtcbdjbjbikiaeaaDoorApp
import Derived.Test.YtcbdjbjbikiaeaaDoorDeepCells
import Derived.Test.YtcbdjbjbikiaeaaDoorRows
import Derived.Test.YtcbdjbjbikiaeaaDoorDead
namespace Go.Proofs.YtcbdjbjbikiaeaaDoor.Use
open Go.ChangeShapes Go.WideShapes Go.ChangeAt Go.RowKit Go.Sort Own
set_option linter.unusedVariables false
def updM (D : Dm) (i a b c : Nat) : Dm := { D with nd := updN D.nd i a, inn := updN D.inn i b, pp := updN D.pp i c }
theorem updN_self {f : Nat → Nat} {i a : Nat} : updN f i a i = a := if_pos rfl
theorem updM_same (D : Dm) (i a b c : Nat) : SameTo D (updM D i a b c) i := fun j hj => ⟨rfl, if_neg (by omega), if_neg (by omega), if_neg (by omega)⟩
theorem vB1_zero (D : Dm) (nw : Nat → Nat) (i : Nat) : vB1 D nw 0 i = D.nd i := if_neg (by omega)
theorem vT1_zero (D : Dm) (i : Nat) : vT1 D 0 i = t0 (D.kd i) := if_neg (by omega)
theorem it_upd {D : Dm} {i g a b c t : Nat} (ht : t0 (D.kd i) = t) : ((itR (vT1 D 0) (vB1 D (fun _ => 0) 0) i (g + 1)).setIfInBounds (i * 2) (.iface t (.pointer (some ⟨a, 0, none⟩)))).setIfInBounds (i * 2 + 1) (.int .i32 (2 * (i : Int))) = itR (vT1 (updM D i a b c) 0) (vB1 (updM D i a b c) (fun _ => 0) 0) (i + 1) g :=
  itR_next _ _ t a (fun j _ => rfl) (fun j hj => by rw [vB1_zero, vB1_zero]; exact if_neg (by omega)) ((vT1_zero _ _).trans ht) ((vB1_zero _ _ _).trans updN_self)

end Go.Proofs.YtcbdjbjbikiaeaaDoor.Use
