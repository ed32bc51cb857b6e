/- A helper call's arguments, read. No condition. -/
import Derived.Test.YtcbdjbjbikiaeaaDoorOwnK
import Derived.Test.YtcbdjbjbikiaeaaDoorOwn
import Derived.Test.YtcbdjbjbikiaeaaDoorDeepCells
import Derived.Test.YtcbdjbjbikiaeaaDoorRows
import Derived.Test.YtcbdjbjbikiaeaaDoorDead
namespace Go.Proofs.YtcbdjbjbikiaeaaDoor.Use
open Go.ChangeShapes Go.WideShapes Go.ChangeAt Go.RowKit Go.Sort Own
set_option linter.unusedVariables false
def isIdentOPost (b : Nat) (l ri : Int) (w0 : World) (X : Nat → Obj → Prop) (e : Ending) (w' : World) : Prop :=
  e = .returned (.bool true) ∧ Own w0 w' [row (b) 223 #[.int .u32 0, .int .u32 ri, .bool false, .bool false, .bool false]] X
set_option maxRecDepth 100000 in
set_option maxHeartbeats 1000000 in
theorem isIdentO (b : Nat) (l ri : Int) (w0 w : World) (X : Nat → Obj → Prop) (hO : Own w0 w [row (b) 223 #[.int .u32 0, .int .u32 ri, .bool false, .bool false, .bool false]] X)  :
    Calls Tryd.prog 38 #[.agg #[.iface 220 (.pointer (some ⟨b, 0, none⟩)), .int .i32 l], .int .u32 ri, .int .i32 l] w (isIdentOPost b l ri w0 X) := by
  go_enter Tryd.func38, Tryd.ntmps38
  obtain ⟨c9_0_0, c9_0_1, c9_0_2, c9_0_3, c9_0_4, lt9_0, y9_0, -⟩ := hO.k5 0 rfl
  have HO := Lib.hid hO
  clear hO
  go_wp2_with (first | (go_at_call 39; go_in) | (go_at_call 40; go_in) | (go_at_call 18; go_in) | (go_at_call 23; go_in) | (go_at_call 21; go_in) | (go_at_call 41; go_in) | (go_at_call 42; go_in) | (go_at_call 28; go_in) | (go_at_call 43; go_in))
  have hO := HO.out
  clear HO c9_0_0 c9_0_1 c9_0_2 c9_0_3 c9_0_4 lt9_0 y9_0
  generalize hW : World.alloc _ _ = W2
  have hN : Own w0 W2 [row (w.heap.size + 1) 30 #[.iface 220 (.pointer (some ⟨b, 0, none⟩)), .int .i32 l], row (w.heap.size) 30 #[.iface 220 (.pointer (some ⟨b, 0, none⟩)), .int .i32 l], row (b) 223 #[.int .u32 0, .int .u32 ri, .bool false, .bool false, .bool false]] X := by
    rw [← hW]
    exact ((hO).alloc' _ (w.heap.size) (by simp)).alloc' _ (w.heap.size + 1) (by simp)
  clear hW hO
  generalize w.heap.size + 1 = B1_1 at hN ⊢
  generalize w.heap.size = B1 at hN ⊢
  have hO := hN
  clear hN
  refine bodyPost_ret (v := .bool true) ?_ rfl ⟨rfl, hO.sub [2] (by decide)⟩
  simp [results, Tryd.results38, go_sem]
def callArgsOPost (ca b : Nat) (l ri : Int) (sx ln cp : Nat) (w0 : World) (X : Nat → Obj → Prop) (e : Ending) (w' : World) : Prop :=
  e = .returned (.tuple #[.slice (some ⟨sx, 0, none⟩) ln cp, .bool true]) ∧ Own w0 w' [row (ca) 56 #[.iface 220 (.pointer (some ⟨b, 0, none⟩)), .int .i32 l, .slice (some ⟨sx, 0, none⟩) ln cp, .int .i32 0, .int .u8 0, .int .u8 0, .bool false, .bool false], row (b) 223 #[.int .u32 0, .int .u32 ri, .bool false, .bool false, .bool false]] X
set_option maxRecDepth 100000 in
set_option maxHeartbeats 1000000 in
theorem callArgsO (ca b : Nat) (l ri : Int) (sx ln cp : Nat) (w0 w : World) (X : Nat → Obj → Prop) (hO : Own w0 w [row (ca) 56 #[.iface 220 (.pointer (some ⟨b, 0, none⟩)), .int .i32 l, .slice (some ⟨sx, 0, none⟩) ln cp, .int .i32 0, .int .u8 0, .int .u8 0, .bool false, .bool false], row (b) 223 #[.int .u32 0, .int .u32 ri, .bool false, .bool false, .bool false]] X)  :
    Calls Tryd.prog 19 #[.agg #[.iface 52 (.pointer (some ⟨ca, 0, none⟩)), .int .i32 l], .int .i32 l, .int .u32 ri] w (callArgsOPost ca b l ri sx ln cp w0 X) := by
  go_enter Tryd.func19, Tryd.ntmps19
  obtain ⟨c9_0_0, c9_0_1, c9_0_2, c9_0_3, c9_0_4, c9_0_5, c9_0_6, c9_0_7, lt9_0, y9_0, -⟩ := hO.k8 0 rfl
  obtain ⟨c9_1_0, c9_1_1, c9_1_2, c9_1_3, c9_1_4, lt9_1, y9_1, -⟩ := hO.k5 1 rfl
  have HO := Lib.hid hO
  clear hO
  go_wp2_with (first | (go_at_call 39; go_in) | (go_at_call 40; go_in) | (go_at_call 18; go_in) | (go_at_call 23; go_in) | (go_at_call 21; go_in) | (go_at_call 41; go_in) | (go_at_call 42; go_in) | (go_at_call 28; go_in) | (go_at_call 43; go_in))
  have hO := HO.out
  clear HO c9_0_0 c9_0_1 c9_0_2 c9_0_3 c9_0_4 c9_0_5 c9_0_6 c9_0_7 lt9_0 y9_0 c9_1_0 c9_1_1 c9_1_2 c9_1_3 c9_1_4 lt9_1 y9_1
  generalize hW : World.alloc _ _ = W2
  have hN : Own w0 W2 [row (w.heap.size + 1) 30 #[.iface 52 (.pointer (some ⟨ca, 0, none⟩)), .int .i32 l], row (w.heap.size) 30 #[.iface 52 (.pointer (some ⟨ca, 0, none⟩)), .int .i32 l], row (ca) 56 #[.iface 220 (.pointer (some ⟨b, 0, none⟩)), .int .i32 l, .slice (some ⟨sx, 0, none⟩) ln cp, .int .i32 0, .int .u8 0, .int .u8 0, .bool false, .bool false], row (b) 223 #[.int .u32 0, .int .u32 ri, .bool false, .bool false, .bool false]] X := by
    rw [← hW]
    exact ((hO).alloc' _ (w.heap.size) (by simp)).alloc' _ (w.heap.size + 1) (by simp)
  clear hW hO
  generalize w.heap.size + 1 = B1_1 at hN ⊢
  generalize w.heap.size = B1 at hN ⊢
  have hO := hN
  clear hN
  have hL := hO.apart
  have hX := hO.apartX
  have HL := Lib.hid hL
  have HX := Lib.hid hX
  clear hL hX
  have hP9 := hO.pick [3] (by decide)
  have T9 := isIdentO b l ri _ _ _ hP9 
  refine Calls.mono T9 ?_
  clear hP9 T9
  rintro e u3 ⟨rfl, hQ⟩
  have hN : Own w0 u3 [row (b) 223 #[.int .u32 0, .int .u32 ri, .bool false, .bool false, .bool false], row (B1_1) 30 #[.iface 52 (.pointer (some ⟨ca, 0, none⟩)), .int .i32 l], row (B1) 30 #[.iface 52 (.pointer (some ⟨ca, 0, none⟩)), .int .i32 l], row (ca) 56 #[.iface 220 (.pointer (some ⟨b, 0, none⟩)), .int .i32 l, .slice (some ⟨sx, 0, none⟩) ln cp, .int .i32 0, .int .u8 0, .int .u8 0, .bool false, .bool false]] X := hQ.back HL.out HX.out [0, 1, 2] (by decide) (by decide)
  clear hQ HL HX hO
  have hO := hN
  clear hN
  have ne9_1_2 : ¬ B1_1 = B1 := hO.ne 1 2 rfl rfl (by decide)
  have ne9_2_1 : ¬ B1 = B1_1 := hO.ne 2 1 rfl rfl (by decide)
  obtain ⟨c9_0_0, c9_0_1, c9_0_2, c9_0_3, c9_0_4, lt9_0, y9_0, -⟩ := hO.k5 0 rfl
  obtain ⟨c9_1_0, c9_1_1, lt9_1, y9_1, pl9_1⟩ := hO.k2 1 rfl
  obtain ⟨c9_2_0, c9_2_1, lt9_2, y9_2, pl9_2⟩ := hO.k2 2 rfl
  obtain ⟨c9_3_0, c9_3_1, c9_3_2, c9_3_3, c9_3_4, c9_3_5, c9_3_6, c9_3_7, lt9_3, y9_3, -⟩ := hO.k8 3 rfl
  have HO := Lib.hid hO
  clear hO
  go_wp2_with (first | (go_at_call 39; go_in) | (go_at_call 40; go_in) | (go_at_call 18; go_in) | (go_at_call 23; go_in) | (go_at_call 21; go_in) | (go_at_call 41; go_in) | (go_at_call 42; go_in) | (go_at_call 28; go_in) | (go_at_call 43; go_in))
  have hO := HO.out
  clear HO ne9_1_2 ne9_2_1 c9_0_0 c9_0_1 c9_0_2 c9_0_3 c9_0_4 lt9_0 y9_0 c9_1_0 c9_1_1 lt9_1 y9_1 pl9_1 c9_2_0 c9_2_1 lt9_2 y9_2 pl9_2 c9_3_0 c9_3_1 c9_3_2 c9_3_3 c9_3_4 c9_3_5 c9_3_6 c9_3_7 lt9_3 y9_3
  refine bodyPost_ret (v := .tuple #[.slice (some ⟨sx, 0, none⟩) ln cp, .bool true]) ?_ rfl ⟨rfl, hO.sub [3, 0] (by decide)⟩
  simp [results, Tryd.results19, go_sem]
end Go.Proofs.YtcbdjbjbikiaeaaDoor.Use
