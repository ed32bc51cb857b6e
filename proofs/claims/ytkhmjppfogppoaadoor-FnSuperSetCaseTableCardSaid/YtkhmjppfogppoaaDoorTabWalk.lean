/- The law, walked whole. No condition. -/
import Derived.Test.YtkhmjppfogppoaaDoorTab00
import Derived.Test.YtkhmjppfogppoaaDoorTab01
import Derived.Test.YtkhmjppfogppoaaDoorTab10
import Derived.Test.YtkhmjppfogppoaaDoorTab11
namespace Go.Proofs.YtkhmjppfogppoaaDoor.Use
open Go.ChangeShapes Go.WideShapes Go.ChangeAt Go.RowKit Go.Sort Own
set_option linter.unusedVariables false
set_option maxRecDepth 100000 in
theorem law17 (loc : Int) (key : ByteArray) (s r : Bool) (vm : Int) (w : World) (hg0 : w.cell? ⟨0, 0, none⟩ = some (.int .u32 4294967295)) (hg1 : w.cell? ⟨0, 1, none⟩ = some (.int .u32 4294967295)) : Calls Tryd.prog 5 #[.int .i32 loc, .string key, .bool s, .bool r, .int .u32 vm] w fun e w' => e = .returned (.bool true) ∧ Below w.heap.size w w' := by
  by_cases hlen : key.size ≤ 65536
  · cases r <;> cases s
    · exact Calls.mono (law17ni loc key vm w w _ (Own.start w) hlen hg0 hg1) (fun e w' q => ⟨q.1, q.2.below⟩)
    · exact Calls.mono (law17ns loc key vm w w _ (Own.start w) hlen hg0 hg1) (fun e w' q => ⟨q.1, q.2.below⟩)
    · exact Calls.mono (law17ri loc key vm w w _ (Own.start w) hlen hg0 hg1) (fun e w' q => ⟨q.1, q.2.below⟩)
    · exact Calls.mono (law17rs loc key vm w w _ (Own.start w) hlen hg0 hg1) (fun e w' q => ⟨q.1, q.2.below⟩)
  · have hl8 : (65536 : Int) < key.size := by omega
    by_cases hl7 : key.size ≤ 1048576
    · have hl9 : (key.size : Int) ≤ 1048576 := by omega
      go_enter Tryd.func5, Tryd.ntmps5
      go_wp2_with (go_at_call 22; go_in)
      all_goals (go_returns; exact ⟨rfl, by go_grown⟩)
    · have hl9 : (1048576 : Int) < key.size := by omega
      go_enter Tryd.func5, Tryd.ntmps5
      go_wp2_with (go_at_call 22; go_in)
      all_goals (go_returns; exact ⟨rfl, by go_grown⟩)

end Go.Proofs.YtkhmjppfogppoaaDoor.Use
