/- The arguments, looked at one by one. No condition. -/
import Derived.Test.YtkhmjppfogppoaaDoorRdx
import Derived.Test.YtkhmjppfogppoaaDoorCall
import Derived.Test.YtkhmjppfogppoaaDoorKit2
import Derived.Test.YtkhmjppfogppoaaDoorKit
import Derived.Test.YtkhmjppfogppoaaDoorLoop
import Derived.Test.YtkhmjppfogppoaaDoorLive
import Derived.Test.YtkhmjppfogppoaaDoorApp
import Derived.Test.YtkhmjppfogppoaaDoorOwnK
import Derived.Test.YtkhmjppfogppoaaDoorOwn
import Derived.Test.YtkhmjppfogppoaaDoorDeepCells
import Derived.Test.YtkhmjppfogppoaaDoorRows
import Derived.Test.YtkhmjppfogppoaaDoorUse
namespace Go.Proofs.YtkhmjppfogppoaaDoor.Use
open Go.ChangeShapes Go.WideShapes Go.ChangeAt Go.RowKit Go.Sort Own
set_option linter.unusedVariables false
def argsArePost (ab : Nat) (C : Array Value) (loc : Int) (blk : Nat → Nat) (of nn lm lc : Nat) (w0 : World) (X : Nat → Obj → Prop) (e : Ending) (w' : World) : Prop :=
  e = .returned (.bool true) ∧ Own w0 w' [row (ab) 35 C] X
set_option maxRecDepth 100000 in
set_option maxHeartbeats 1000000 in
theorem argsAre (ab : Nat) (C : Array Value) (loc : Int) (blk : Nat → Nat) (of nn lm lc : Nat) (w0 w : World) (X : Nat → Obj → Prop) (hO : Own w0 w [row (ab) 35 C] X) (hl : lm = of + nn) (hn : nn ≤ 4096) (hof : of ≤ 1) (hC0 : ∀ i : Nat, i < nn → C[(of + i) * 2]? = some (.iface 209 (.pointer (some ⟨(blk i), 0, none⟩)))) (hC1 : ∀ i : Nat, i < nn → C[(of + i) * 2 + 1]? = some (.int .i32 loc)) (hX : ∀ i : Nat, i < nn → X (blk i) (.cells #[.int .u32 6, .int .u32 (i : Int), .bool false, .bool false, .bool false] 211 (0, 0))) :
    Calls Tryd.prog 32 #[.slice (some ⟨ab, 0, none⟩) lm lc, .int .i64 (of : Int), .int .i64 (nn : Int)] w (argsArePost ab C loc blk of nn lm lc w0 X) := by
  go_enter Tryd.func32, Tryd.ntmps32
  have hl9 : (lm : Int) = (of : Int) + (nn : Int) := by omega
  have hn9 : (nn : Int) ≤ 4096 := by omega
  have hn8 : (0 : Int) ≤ (nn : Int) := by omega
  have ho9 : (of : Int) ≤ 1 := by omega
  have ho8 : (0 : Int) ≤ (of : Int) := by omega
  go_wp2_with (first | (with_reducible refine Own.stay (fn := Tryd.f32) ?_) | fail)
  try with_reducible refine Own.Stay.mk ?_
  go_loopg [7] nn (fun gf s7 wx => ∃ i : Nat, i + gf = nn ∧ s7 = .int .i64 (i : Int) ∧ Own w0 wx [row (ab) 35 C] X)
  case atStart => exact ⟨0, by omega, rfl, hO⟩
  obtain ⟨i, hin, rfl, hO⟩ := hrel
  by_cases hlt : i < nn
  · skip
    obtain ⟨gq, rfl⟩ : ∃ gq, gk = gq + 1 := ⟨gk - 1, by omega⟩
    have hlt9 : (i : Int) < (nn : Int) := by omega
    have hi8 : (0 : Int) ≤ (i : Int) := by omega
    obtain ⟨j, hj⟩ : ∃ j, j = of + i := ⟨_, rfl⟩
    have hj9 : (of : Int) + (i : Int) = (j : Int) := by omega
    have hj8 : (0 : Int) ≤ (j : Int) := by omega
    have hjm : (j : Int) < (lm : Int) := by omega
    have hj0 := hC0 i hlt
    have hj1 := hC1 i hlt
    rw [← hj] at hj0 hj1
    have HJ := Lib.hid hj
    clear hj
    obtain ⟨ix9, hix9, hax9, hjx9⟩ := hO.ix
    have ix9_0 : ix9 ab = 0 := hjx9 0 _ _ rfl
    clear hjx9
    have c9_0_j_2 : wr.cell? ⟨ab, j * 2, none⟩ = some (.iface 209 (.pointer (some ⟨(blk i), 0, none⟩))) := hO.cell 0 rfl (j * 2) (hj0)
    have c9_0_j_2_1 : wr.cell? ⟨ab, j * 2 + 1, none⟩ = some (.int .i32 loc) := hO.cell 0 rfl (j * 2 + 1) (hj1)
    have lt9_0 : ab < wr.heap.size := hO.lt 0 rfl
    have y9_0 : ∀ o, wr.frozen? ⟨ab, o, none⟩ = false := hO.free 0 rfl
    have HO := Lib.hid hO
    clear hO
    go_wp2_with (first | (with_reducible refine Own.stay (fn := Tryd.f32) ?_) | fail)
    try with_reducible refine Own.Stay.mk ?_
    have hO := HO.out
    clear HO hix9 hax9 ix9_0 ix9 c9_0_j_2 c9_0_j_2_1 lt9_0 y9_0
    have hL := hO.apart
    have hX := hO.apartX
    have HL := Lib.hid hL
    have HX := Lib.hid hX
    clear hL hX
    have hP9 := hO.pick [] (by decide)
    have T9 := identOfX (blk i) loc _ _ _ _ _ hP9 (Or.inl (hX i hlt))
    refine Calls.mono T9 ?_
    clear hP9 T9
    rintro e u1 ⟨rfl, hQ⟩
    have hN : Own w0 u1 [row (ab) 35 C] X := hQ.back HL.out HX.out [0] (by decide) (by decide)
    clear hQ HL HX hO
    have hO := hN
    clear hN
    try simp only []
    go_wp2_with (first | (with_reducible refine Own.stay (fn := Tryd.f32) ?_) | fail)
    try with_reducible refine Own.Stay.mk ?_
    generalize hW : World.alloc _ _ = W3
    have hN : Own w0 W3 [row (u1.heap.size) 25 #[.int .u32 6, .int .u32 (i : Int)], row (ab) 35 C] X := by
      rw [← hW]
      exact (hO).alloc' _ (u1.heap.size) (by simp)
    clear hW hO
    generalize u1.heap.size = B2 at hN ⊢
    have hO := hN
    clear hN
    go_roundg gq
    case measure => omega
    case rel => exact ⟨i + 1, by omega, by first | rfl | simp, hO.sub [1] (by decide)⟩
  obtain rfl : gk = 0 := by omega
  obtain rfl : i = nn := by omega
  go_wp2_with (first | (with_reducible refine Own.stay (fn := Tryd.f32) ?_) | fail)
  try with_reducible refine Own.Stay.mk ?_
  refine bodyPost_ret (v := .bool true) ?_ rfl ⟨rfl, hO.sub [0] (by decide)⟩
  simp [results, Tryd.results32, go_sem]
end Go.Proofs.YtkhmjppfogppoaaDoor.Use
