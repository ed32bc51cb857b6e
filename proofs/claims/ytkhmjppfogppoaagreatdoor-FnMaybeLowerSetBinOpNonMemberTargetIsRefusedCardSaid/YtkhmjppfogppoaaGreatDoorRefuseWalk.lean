/- The law, walked whole. No condition. -/
import Derived.Test.YtkhmjppfogppoaaGreatDoorRefuse
namespace Go.Proofs.YtkhmjppfogppoaaGreatDoor.Use
open Go.ChangeShapes Go.WideShapes Go.ChangeAt Go.RowKit Go.Sort Own
set_option linter.unusedVariables false
set_option maxRecDepth 100000 in
theorem law11 (kd x : Int) (l g : Bool) (op ll rl : Int) (v : Nat) (w : World) : Calls Tryz.prog 3 #[.int .i64 kd, .int .u64 x, .bool l, .bool g, .int .u8 op, .int .i32 ll, .int .i32 rl, .float .f64 v] w fun e w' => e = .returned (.bool true) ∧ Below w.heap.size w w' := by
  by_cases h0 : kd < 0
  · go_enter Tryz.func3, Tryz.ntmps3
    go_wp2
    all_goals (go_returns; exact ⟨rfl, by go_grown⟩)
  by_cases h6 : 6 < kd
  · go_enter Tryz.func3, Tryz.ntmps3
    go_wp2
    all_goals (go_returns; exact ⟨rfl, by go_grown⟩)
  obtain rfl | rfl | rfl | rfl | rfl | rfl | rfl : kd = 0 ∨ kd = 1 ∨ kd = 2 ∨ kd = 3 ∨ kd = 4 ∨ kd = 5 ∨ kd = 6 := by omega
  · exact Calls.mono (law11k0 x l g op ll rl v w w _ (Own.start w)) (fun e w' q => ⟨q.1, q.2.below⟩)
  · exact Calls.mono (law11k1 x l g op ll rl v w w _ (Own.start w)) (fun e w' q => ⟨q.1, q.2.below⟩)
  · exact Calls.mono (law11k2 x l g op ll rl v w w _ (Own.start w)) (fun e w' q => ⟨q.1, q.2.below⟩)
  · exact Calls.mono (law11k3 x l g op ll rl v w w _ (Own.start w)) (fun e w' q => ⟨q.1, q.2.below⟩)
  · exact Calls.mono (law11k4 x l g op ll rl v w w _ (Own.start w)) (fun e w' q => ⟨q.1, q.2.below⟩)
  · exact Calls.mono (law11k5 x l g op ll rl v w w _ (Own.start w)) (fun e w' q => ⟨q.1, q.2.below⟩)
  · exact Calls.mono (law11k6 x l g op ll rl v w w _ (Own.start w)) (fun e w' q => ⟨q.1, q.2.below⟩)

end Go.Proofs.YtkhmjppfogppoaaGreatDoor.Use
