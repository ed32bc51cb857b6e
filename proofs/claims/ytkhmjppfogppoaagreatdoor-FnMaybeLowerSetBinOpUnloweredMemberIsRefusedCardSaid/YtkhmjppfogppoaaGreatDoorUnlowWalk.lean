/- The law, walked whole. No condition. -/
import Derived.Test.YtkhmjppfogppoaaGreatDoorUnlow
namespace Go.Proofs.YtkhmjppfogppoaaGreatDoor.Use
open Go.ChangeShapes Go.WideShapes Go.ChangeAt Go.RowKit Go.Sort Own
set_option linter.unusedVariables false
set_option maxRecDepth 100000 in
theorem law18 (kd x : Int) (l g : Bool) (op : Int) (nm : ByteArray) (v : Nat) (w : World) : Calls Tryz.prog 4 #[.int .i64 kd, .int .u64 x, .bool l, .bool g, .int .u8 op, .string nm, .float .f64 v] w fun e w' => e = .returned (.bool true) ∧ Below w.heap.size w w' := by
  by_cases hlen : nm.size ≤ 1048576
  case neg =>
    have hl9 : (1048576 : Int) < nm.size := by omega
    go_enter Tryz.func4, Tryz.ntmps4
    go_wp2_with (go_at_call 15; go_in)
    all_goals (go_returns; exact ⟨rfl, by go_grown⟩)
  have hl9 : (nm.size : Int) ≤ 1048576 := by omega
  by_cases h0 : kd < 0
  · go_enter Tryz.func4, Tryz.ntmps4
    go_wp2_with (go_at_call 15; go_in)
    all_goals (go_returns; exact ⟨rfl, by go_grown⟩)
  by_cases h6 : 5 < kd
  · go_enter Tryz.func4, Tryz.ntmps4
    go_wp2_with (go_at_call 15; go_in)
    all_goals (go_returns; exact ⟨rfl, by go_grown⟩)
  obtain rfl | rfl | rfl | rfl | rfl | rfl : kd = 0 ∨ kd = 1 ∨ kd = 2 ∨ kd = 3 ∨ kd = 4 ∨ kd = 5 := by omega
  · cases l
    · exact Calls.mono (law18k00 x g op nm v w w _ (Own.start w) hlen) (fun e w' q => ⟨q.1, q.2.below⟩)
    · exact Calls.mono (law18k01 x g op nm v w w _ (Own.start w) hlen) (fun e w' q => ⟨q.1, q.2.below⟩)
  · cases l
    · exact Calls.mono (law18k10 x g op nm v w w _ (Own.start w) hlen) (fun e w' q => ⟨q.1, q.2.below⟩)
    · exact Calls.mono (law18k11 x g op nm v w w _ (Own.start w) hlen) (fun e w' q => ⟨q.1, q.2.below⟩)
  · cases l
    · exact Calls.mono (law18k20 x g op nm v w w _ (Own.start w) hlen) (fun e w' q => ⟨q.1, q.2.below⟩)
    · go_enter Tryz.func4, Tryz.ntmps4
      go_wp2_with (go_at_call 15; go_in)
      all_goals (go_returns; exact ⟨rfl, by go_grown⟩)
  · cases l
    · exact Calls.mono (law18k30 x g op nm v w w _ (Own.start w) hlen) (fun e w' q => ⟨q.1, q.2.below⟩)
    · go_enter Tryz.func4, Tryz.ntmps4
      go_wp2_with (go_at_call 15; go_in)
      all_goals (go_returns; exact ⟨rfl, by go_grown⟩)
  · cases l
    · exact Calls.mono (law18k40 x g op nm v w w _ (Own.start w) hlen) (fun e w' q => ⟨q.1, q.2.below⟩)
    · exact Calls.mono (law18k41 x g op nm v w w _ (Own.start w) hlen) (fun e w' q => ⟨q.1, q.2.below⟩)
  · cases l
    · exact Calls.mono (law18k50 x g op nm v w w _ (Own.start w) hlen) (fun e w' q => ⟨q.1, q.2.below⟩)
    · exact Calls.mono (law18k51 x g op nm v w w _ (Own.start w) hlen) (fun e w' q => ⟨q.1, q.2.below⟩)


end Go.Proofs.YtkhmjppfogppoaaGreatDoor.Use
