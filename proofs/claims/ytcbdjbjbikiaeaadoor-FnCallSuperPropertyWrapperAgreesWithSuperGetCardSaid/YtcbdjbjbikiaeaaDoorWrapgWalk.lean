/- The law, walked whole. No condition. -/
import Derived.Test.YtcbdjbjbikiaeaaDoorWrapg00
import Derived.Test.YtcbdjbjbikiaeaaDoorWrapg01
import Derived.Test.YtcbdjbjbikiaeaaDoorWrapg10
import Derived.Test.YtcbdjbjbikiaeaaDoorWrapg11
namespace Go.Proofs.YtcbdjbjbikiaeaaDoor.Use
open Go.ChangeShapes Go.WideShapes Go.ChangeAt Go.RowKit Go.Sort Own
set_option linter.unusedVariables false
set_option maxRecDepth 100000 in
theorem law12 (r s : Bool) (loc kl : Int) (nm : ByteArray) (w : World) : Calls Tryd.prog 4 #[.bool r, .bool s, .int .i32 loc, .int .i32 kl, .string nm] w fun e w' => e = .returned (.bool true) ∧ Below w.heap.size w w' := by
  by_cases hlen : nm.size ≤ 65536
  · cases r <;> cases s
    · exact Calls.mono (law12ni loc kl nm w w _ (Own.start w) hlen) (fun e w' q => ⟨q.1, q.2.below⟩)
    · exact Calls.mono (law12ns loc kl nm w w _ (Own.start w) hlen) (fun e w' q => ⟨q.1, q.2.below⟩)
    · exact Calls.mono (law12ri loc kl nm w w _ (Own.start w) hlen) (fun e w' q => ⟨q.1, q.2.below⟩)
    · exact Calls.mono (law12rs loc kl nm w w _ (Own.start w) hlen) (fun e w' q => ⟨q.1, q.2.below⟩)
  · have hl8 : (65536 : Int) < nm.size := by omega
    by_cases hl7 : nm.size ≤ 1048576
    · have hl9 : (nm.size : Int) ≤ 1048576 := by omega
      go_enter Tryd.func4, Tryd.ntmps4
      go_wp2_with (go_at_call 15; go_in)
      all_goals (go_returns; exact ⟨rfl, by go_grown⟩)
    · have hl9 : (1048576 : Int) < nm.size := by omega
      go_enter Tryd.func4, Tryd.ntmps4
      go_wp2_with (go_at_call 15; go_in)
      all_goals (go_returns; exact ⟨rfl, by go_grown⟩)

end Go.Proofs.YtcbdjbjbikiaeaaDoor.Use
