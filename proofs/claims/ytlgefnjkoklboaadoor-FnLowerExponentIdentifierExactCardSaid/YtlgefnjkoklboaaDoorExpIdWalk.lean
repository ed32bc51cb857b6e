/- The law on an exponent's assignment to an identifier, walked whole. No condition. -/
import Derived.Test.YtlgefnjkoklboaaDoorExpIdLt
import Derived.Test.YtlgefnjkoklboaaDoorExpIdEq
import Derived.Test.YtlgefnjkoklboaaDoorExpIdGt
namespace Go.Proofs.YtlgefnjkoklboaaDoor.Use
open Go.ChangeShapes Go.WideShapes Go.ChangeAt Go.RowKit Go.Sort Own
set_option linter.unusedVariables false
set_option maxRecDepth 100000 in
theorem law23 (x src i j ll loc rl : Int) (v : Nat) (w : World) (hi0 : 0 ≤ i) (hi1 : i ≤ 4294967295) (hj0 : 0 ≤ j) (hj1 : j ≤ 4294967295) : Calls Tryd.prog 7 #[.int .u64 x, .int .u32 src, .int .u32 i, .int .u32 j, .int .i32 ll, .int .i32 loc, .int .i32 rl, .float .f64 v] w fun e w' => e = .returned (.bool true) ∧ Below w.heap.size w w' := by
  by_cases hbig : 65536 < i
  · go_enter Tryd.func7, Tryd.ntmps7
    go_wp2
    all_goals (go_returns; exact ⟨rfl, by go_grown⟩)
  · by_cases hbig2 : 65536 < j
    · go_enter Tryd.func7, Tryd.ntmps7
      go_wp2
      all_goals (go_returns; exact ⟨rfl, by go_grown⟩)
    · obtain ⟨m, rfl⟩ := Int.eq_ofNat_of_zero_le hi0
      obtain ⟨k, rfl⟩ := Int.eq_ofNat_of_zero_le hj0
      have hm : m ≤ 65536 := by omega
      have hk : k ≤ 65536 := by omega
      rcases Nat.lt_trichotomy m k with h | h | h
      · exact Calls.mono (law23lt x src m k ll loc rl v w w _ (Own.start w) hm hk h) (fun e w' q => ⟨q.1, q.2.below⟩)
      · subst h
        exact Calls.mono (law23eq x src m ll loc rl v w w _ (Own.start w) hm) (fun e w' q => ⟨q.1, q.2.below⟩)
      · exact Calls.mono (law23gt x src m k ll loc rl v w w _ (Own.start w) hm hk h) (fun e w' q => ⟨q.1, q.2.below⟩)

end Go.Proofs.YtlgefnjkoklboaaDoor.Use
