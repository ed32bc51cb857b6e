/- The law, walked whole. No condition. -/
import Derived.Test.YtkhmjppfogppoaaDoorAgain00
import Derived.Test.YtkhmjppfogppoaaDoorAgain01
import Derived.Test.YtkhmjppfogppoaaDoorAgain10
import Derived.Test.YtkhmjppfogppoaaDoorAgain11
namespace Go.Proofs.YtkhmjppfogppoaaDoor.Use
open Go.ChangeShapes Go.WideShapes Go.ChangeAt Go.RowKit Go.Sort Own
set_option linter.unusedVariables false
set_option maxRecDepth 100000 in
theorem law13 (loc : Int) (key : ByteArray) (s r : Bool) (vm : Int) (w : World) (hg0 : w.cell? ⟨0, 0, none⟩ = some (.int .u32 4294967295)) (hg1 : w.cell? ⟨0, 1, none⟩ = some (.int .u32 4294967295)) : Calls Tryd.prog 3 #[.int .i32 loc, .string key, .bool s, .bool r, .int .u32 vm] w fun e w' => e = .returned (.bool true) ∧ Below w.heap.size w w' := by
  by_cases hlen : key.size ≤ 65536
  · cases r <;> cases s
    · exact Calls.mono (law13ni loc key vm w w _ (Own.start w) hlen hg0 hg1) (fun e w' q => ⟨q.1, q.2.below⟩)
    · exact Calls.mono (law13ns loc key vm w w _ (Own.start w) hlen hg0 hg1) (fun e w' q => ⟨q.1, q.2.below⟩)
    · exact Calls.mono (law13ri loc key vm w w _ (Own.start w) hlen hg0 hg1) (fun e w' q => ⟨q.1, q.2.below⟩)
    · exact Calls.mono (law13rs loc key vm w w _ (Own.start w) hlen hg0 hg1) (fun e w' q => ⟨q.1, q.2.below⟩)
  · have hl8 : (65536 : Int) < key.size := by omega
    by_cases hl7 : key.size ≤ 1048576
    · have hl9 : (key.size : Int) ≤ 1048576 := by omega
      go_enter Tryd.func3, Tryd.ntmps3
      go_wp2_with (go_at_call 8; go_in)
      all_goals (go_returns; exact ⟨rfl, by go_grown⟩)
    · have hl9 : (1048576 : Int) < key.size := by omega
      go_enter Tryd.func3, Tryd.ntmps3
      go_wp2_with (go_at_call 8; go_in)
      all_goals (go_returns; exact ⟨rfl, by go_grown⟩)

end Go.Proofs.YtkhmjppfogppoaaDoor.Use
