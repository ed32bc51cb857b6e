/- The law on a nullish assignment over an index, walked whole. No condition. -/
import Derived.Test.YtlgefnjkoklboaaGreatDoorNaIxNo
import Derived.Test.YtlgefnjkoklboaaGreatDoorNaIxYes
namespace Go.Proofs.YtlgefnjkoklboaaGreatDoor.Use
open Go.ChangeShapes Go.WideShapes Go.ChangeAt Go.RowKit Go.Sort Own
set_option linter.unusedVariables false
set_option maxRecDepth 100000 in
theorem law25 (x src i tl kl ll loc : Int) (kv v : Nat) (w : World) (hi0 : 0 ≤ i) (hi1 : i ≤ 4294967295) : Calls Tryz.prog 3 #[.int .u64 x, .int .u32 src, .int .u32 i, .int .i32 tl, .int .i32 kl, .int .i32 ll, .int .i32 loc, .float .f64 kv, .float .f64 v] w fun e w' => e = .returned (.bool true) ∧ Below w.heap.size w w' := by
  by_cases hbig : 65536 < i
  · go_enter Tryz.func3, Tryz.ntmps3
    go_wp2
    all_goals (go_returns; exact ⟨rfl, by go_grown⟩)
  obtain ⟨m, rfl⟩ := Int.eq_ofNat_of_zero_le hi0
  have hm : m ≤ 65536 := by omega
  have hq : (m : Int) ≤ 65536 := by omega
  rcases hx1 : (bits BinOp.and IntKind.u64 x 4398046511104 != 0) with _ | _
  · rcases hx2 : (bits BinOp.and IntKind.u64 x 137438953472 != 0) with _ | _
    · exact Calls.mono (law25no x src m tl kl ll loc kv v w w _ (Own.start w) hm hx1 hx2) (fun e w' q => ⟨q.1, q.2.below⟩)
    · exact Calls.mono (law25yes x src m tl kl ll loc kv v w w _ (Own.start w) hm hx1 hx2) (fun e w' q => ⟨q.1, q.2.below⟩)
  · go_enter Tryz.func3, Tryz.ntmps3
    go_wp2
    all_goals (go_returns; exact ⟨rfl, by go_grown⟩)

end Go.Proofs.YtlgefnjkoklboaaGreatDoor.Use
