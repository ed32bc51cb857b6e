/- The string target. No condition. -/
import Derived.Test.YtcbdjbjbikiaeaaDoorOwnK
import Derived.Test.YtcbdjbjbikiaeaaDoorOwn
import Derived.Test.YtcbdjbjbikiaeaaDoorDeepCells
import Derived.Test.YtcbdjbjbikiaeaaDoorRows
import Derived.Test.YtcbdjbjbikiaeaaDoorDead
import Derived.Test.YtcbdjbjbikiaeaaDoorNew
import Derived.Test.YtcbdjbjbikiaeaaDoorNewL
import Derived.Test.YtcbdjbjbikiaeaaDoorStr
import Derived.Test.YtcbdjbjbikiaeaaDoorStrX
namespace Go.Proofs.YtcbdjbjbikiaeaaDoor.Use
open Go.ChangeShapes Go.WideShapes Go.ChangeAt Go.RowKit Go.Sort Own
set_option linter.unusedVariables false
def tok4Post (kd l : Int) (w0 : World) (X : Nat → Obj → Prop) (e : Ending) (w' : World) : Prop :=
  ∃ eb : Nat, ∃ gs : Nat, ∃ ln : Nat, ∃ cp : Nat, e = .returned (.agg #[.iface 50 (.pointer (some ⟨eb, 0, none⟩)), .int .i32 l]) ∧ Own w0 w' [row (eb) 214 #[.slice (some ⟨gs, 0, none⟩) ln cp, .int .i32 0, .bool false, .bool false, .bool false]] X
set_option maxRecDepth 100000 in
set_option maxHeartbeats 1000000 in
theorem tok4 (kd l : Int) (w0 w : World) (X : Nat → Obj → Prop) (hO : Own w0 w [] X) (hk0 : (kd.tmod 6 == 0) = false) (hk1 : (kd.tmod 6 == 1) = false) (hk2 : (kd.tmod 6 == 2) = false) (hk3 : (kd.tmod 6 == 3) = false) (hk4 : (kd.tmod 6 == 4) = true) :
    Calls Tryd.prog 9 #[.int .u8 kd, .int .i32 l] w (tok4Post kd l w0 X) := by
  go_enter Tryd.func9, Tryd.ntmps9
  go_wp2_with fail
  generalize hW : World.alloc _ _ = W2
  have hN : Own w0 W2 [row (w.heap.size) 30 #[.nilIface, .int .i32 0]] X := by
    rw [← hW]
    exact (hO).alloc' _ (w.heap.size) (by simp)
  clear hW hO
  generalize w.heap.size = B1 at hN ⊢
  have hO := hN
  clear hN
  have hL := hO.apart
  have hX := hO.apartX
  have HL := Lib.hid hL
  have HX := Lib.hid hX
  clear hL hX
  have hP9 := hO.pick [] (by decide)
  have h9_hlen : (⟨#[115, 117, 112, 101, 114]⟩ : ByteArray).size ≤ 1048576 := (by decide)
  have T9 := exprStr l ⟨#[115, 117, 112, 101, 114]⟩ _ _ _ hP9 h9_hlen
  refine Calls.mono T9 ?_
  clear hP9 T9 h9_hlen
  rintro e u3 ⟨nd4, nd5, nd6, nd7, rfl, hQ⟩
  have hN : Own w0 u3 [row (nd4) 214 #[.slice (some ⟨nd5, 0, none⟩) nd6 nd7, .int .i32 0, .bool false, .bool false, .bool false], row (B1) 30 #[.nilIface, .int .i32 0]] X := hQ.back HL.out HX.out [0] (by decide) (by decide)
  clear hQ HL HX hO
  have hO := hN
  clear hN
  obtain ⟨c9_0_0, c9_0_1, c9_0_2, c9_0_3, c9_0_4, lt9_0, y9_0, -⟩ := hO.k5 0 rfl
  obtain ⟨c9_1_0, c9_1_1, lt9_1, y9_1, -⟩ := hO.k2 1 rfl
  have HO := Lib.hid hO
  clear hO
  go_wp2_with fail
  have hO := HO.out
  clear HO c9_0_0 c9_0_1 c9_0_2 c9_0_3 c9_0_4 lt9_0 y9_0 c9_1_0 c9_1_1 lt9_1 y9_1
  generalize hW : World.setCell _ _ _ = W9
  have hN : Own w0 W9 [row (nd4) 214 #[.slice (some ⟨nd5, 0, none⟩) nd6 nd7, .int .i32 0, .bool false, .bool false, .bool false], row (B1) 30 #[.iface 50 (.pointer (some ⟨nd4, 0, none⟩)), .int .i32 l]] X := by
    rw [← hW]
    exact ((hO).set 1 rfl 0 _).set 1 rfl 1 _
  clear hW hO
  have hO := hN
  clear hN
  have z9_1_0 : W9.cell? ⟨B1, 0, none⟩ = some (.iface 50 (.pointer (some ⟨nd4, 0, none⟩))) := hO.cell 1 rfl 0 rfl
  have z9_1_1 : W9.cell? ⟨B1, 1, none⟩ = some (.int .i32 l) := hO.cell 1 rfl 1 rfl
  refine bodyPost_ret (v := .agg #[.iface 50 (.pointer (some ⟨nd4, 0, none⟩)), .int .i32 l]) ?_ rfl ⟨nd4, nd5, nd6, nd7, rfl, hO.sub [0] (by decide)⟩
  simp [results, Tryd.results9, go_sem, z9_1_0, z9_1_1]
end Go.Proofs.YtcbdjbjbikiaeaaDoor.Use
