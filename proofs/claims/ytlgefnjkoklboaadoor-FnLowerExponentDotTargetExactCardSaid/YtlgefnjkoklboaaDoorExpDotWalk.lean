/- The law on an exponent's assignment to obj.name, walked whole. No condition. -/
import Derived.Test.YtlgefnjkoklboaaDoorExpDotLt
import Derived.Test.YtlgefnjkoklboaaDoorExpDotEq
import Derived.Test.YtlgefnjkoklboaaDoorExpDotGt
namespace Go.Proofs.YtlgefnjkoklboaaDoor.Use
open Go.ChangeShapes Go.WideShapes Go.ChangeAt Go.RowKit Go.Sort Own
set_option linter.unusedVariables false
set_option maxRecDepth 100000 in
theorem law30 (x src i j tl ll nl loc : Int) (nm : ByteArray) (v : Nat) (w : World) (hi0 : 0 ≤ i) (hi1 : i ≤ 4294967295) (hj0 : 0 ≤ j) (hj1 : j ≤ 4294967295) : Calls Tryd.prog 8 #[.int .u64 x, .int .u32 src, .int .u32 i, .int .u32 j, .int .i32 tl, .int .i32 ll, .int .i32 nl, .int .i32 loc, .string nm, .float .f64 v] w fun e w' => e = .returned (.bool true) ∧ Below w.heap.size w w' := by
  by_cases hlen : nm.size ≤ 1048576
  · have hl9 : (nm.size : Int) ≤ 1048576 := by omega
    by_cases hbig : 65536 < i
    · go_enter Tryd.func8, Tryd.ntmps8
      go_wp2_with (go_at_call 30; go_in)
      all_goals (go_returns; exact ⟨rfl, by go_grown⟩)
    by_cases hbig2 : 65536 < j
    · go_enter Tryd.func8, Tryd.ntmps8
      go_wp2_with (go_at_call 30; go_in)
      all_goals (go_returns; exact ⟨rfl, by go_grown⟩)
    obtain ⟨m, rfl⟩ := Int.eq_ofNat_of_zero_le hi0
    obtain ⟨k, rfl⟩ := Int.eq_ofNat_of_zero_le hj0
    have hm : m ≤ 65536 := by omega
    have hk : k ≤ 65536 := by omega
    rcases Nat.lt_trichotomy m k with h | h | h
    · exact Calls.mono (law30lt x src m k tl ll nl loc nm v w w _ (Own.start w) hlen hm hk h) (fun e w' q => ⟨q.1, q.2.below⟩)
    · subst h
      exact Calls.mono (law30eq x src m tl ll nl loc nm v w w _ (Own.start w) hlen hm) (fun e w' q => ⟨q.1, q.2.below⟩)
    · exact Calls.mono (law30gt x src m k tl ll nl loc nm v w w _ (Own.start w) hlen hm hk h) (fun e w' q => ⟨q.1, q.2.below⟩)
  · have hl9 : (1048576 : Int) < nm.size := by omega
    go_enter Tryd.func8, Tryd.ntmps8
    go_wp2_with (go_at_call 30; go_in)
    all_goals (go_returns; exact ⟨rfl, by go_grown⟩)

end Go.Proofs.YtlgefnjkoklboaaDoor.Use
