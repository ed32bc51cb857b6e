/- The law on name capture, walked whole. No condition. -/
import Derived.Test.YtaoflhnkhgclhaaDoorTabA
import Derived.Test.YtaoflhnkhgclhaaDoorTabB
import Derived.Test.YtaoflhnkhgclhaaDoorTabC
import Derived.Test.YtaoflhnkhgclhaaDoorTabD
import Derived.Test.YtaoflhnkhgclhaaDoorTabE0
import Derived.Test.YtaoflhnkhgclhaaDoorTabE1
namespace Go.Proofs.YtaoflhnkhgclhaaDoor.Use
open Go.ChangeShapes Go.WideShapes Go.ChangeAt Go.RowKit Go.Sort Own
set_option linter.unusedVariables false
theorem u8_small (kd : Int) (h1 : 1 ≤ kd) (h2 : kd ≤ 3) : IntKind.u8.wrap kd = kd := by
  have h : kd = 1 ∨ kd = 2 ∨ kd = 3 := by omega
  rcases h with rfl | rfl | rfl <;> rfl
set_option maxRecDepth 100000 in
theorem law38 (kd : Int) (named inner : Bool) (calls : Int) (w : World) (hg0 : w.cell? ⟨0, 0, none⟩ = some (.int .u32 4294967295)) (hg1 : w.cell? ⟨0, 1, none⟩ = some (.int .u32 4294967295)) : Calls Tryd.prog 4 #[.int .i64 kd, .bool named, .bool inner, .int .i64 calls] w fun e w' => e = .returned (.bool true) ∧ Below w.heap.size w w' := by
  by_cases hc0 : calls < 0
  · go_enter Tryd.func4, Tryd.ntmps4
    go_wp2
    all_goals (go_ret; exact ⟨rfl, Below.refl _ _⟩)
  by_cases hc1 : (4096 : Int) < calls
  · go_enter Tryd.func4, Tryd.ntmps4
    go_wp2
    all_goals (go_ret; exact ⟨rfl, Below.refl _ _⟩)
  by_cases hk1 : kd < 1
  · go_enter Tryd.func4, Tryd.ntmps4
    go_wp2
    all_goals (go_ret; exact ⟨rfl, Below.refl _ _⟩)
  by_cases hk2 : (3 : Int) < kd
  · go_enter Tryd.func4, Tryd.ntmps4
    go_wp2
    all_goals (go_ret; exact ⟨rfl, Below.refl _ _⟩)
  obtain ⟨k, rfl⟩ : ∃ k : Nat, calls = (k : Int) := ⟨calls.toNat, by omega⟩
  have hk : k ≤ 4096 := by omega
  cases named
  · by_cases hk3 : kd = 3
    · subst hk3
      cases inner
      · cases k with
        | zero => exact Calls.mono (law38E0 w w _ (Own.start w) hg0 hg1) (fun e w' q => ⟨q.1, q.2.below⟩)
        | succ m =>
          rw [show ((m + 1 : Nat) : Int) = (m : Int) + 1 by omega]
          exact Calls.mono (law38E1 m w w _ (Own.start w) hk hg0 hg1) (fun e w' q => ⟨q.1, q.2.below⟩)
      · go_enter Tryd.func4, Tryd.ntmps4
        go_wp2
        all_goals (go_ret; exact ⟨rfl, Below.refl _ _⟩)
    · have hk4 : (kd != 3) = true := by simpa using hk3
      go_enter Tryd.func4, Tryd.ntmps4
      go_wp2
      all_goals (go_ret; exact ⟨rfl, Below.refl _ _⟩)
  · by_cases hk3 : kd = 3
    · subst hk3
      cases inner
      · exact Calls.mono (law38C k w w _ (Own.start w) hk hg0 hg1) (fun e w' q => ⟨q.1, q.2.below⟩)
      · exact Calls.mono (law38D k w w _ (Own.start w) hk hg0 hg1) (fun e w' q => ⟨q.1, q.2.below⟩)
    · have e1 := u8_small kd (by omega) (by omega)
      have e2 : (kd == 3) = false := by simpa using hk3
      have e3 : (kd == 0) = false := by rw [beq_eq_false_iff_ne]; omega
      cases inner
      · exact Calls.mono (law38A kd k w w _ (Own.start w) e1 e2 e3 (by omega) (by omega) hk hg0 hg1) (fun e w' q => ⟨q.1, q.2.below⟩)
      · exact Calls.mono (law38B kd k w w _ (Own.start w) e1 e2 e3 (by omega) (by omega) hk hg0 hg1) (fun e w' q => ⟨q.1, q.2.below⟩)

end Go.Proofs.YtaoflhnkhgclhaaDoor.Use
