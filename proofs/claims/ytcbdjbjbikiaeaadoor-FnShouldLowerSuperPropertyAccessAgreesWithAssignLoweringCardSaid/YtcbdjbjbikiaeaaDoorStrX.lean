/- A string node, made. No condition. -/
import Derived.Test.YtcbdjbjbikiaeaaDoorOwn
import Derived.Test.YtcbdjbjbikiaeaaDoorDeepCells
import Derived.Test.YtcbdjbjbikiaeaaDoorRows
import Derived.Test.YtcbdjbjbikiaeaaDoorDead
import Derived.Test.YtcbdjbjbikiaeaaDoorStr
namespace Go.Proofs.YtcbdjbjbikiaeaaDoor.Use
open Go.ChangeShapes Go.WideShapes Go.ChangeAt Go.RowKit Go.Sort Own
set_option linter.unusedVariables false
def exprStrPost (l : Int) (nm : ByteArray) (w0 : World) (X : Nat → Obj → Prop) (e : Ending) (w' : World) : Prop :=
  ∃ eb : Nat, ∃ gs : Nat, ∃ ln : Nat, ∃ cp : Nat, e = .returned (.agg #[.iface 50 (.pointer (some ⟨eb, 0, none⟩)), .int .i32 l]) ∧ Own w0 w' [row (eb) 214 #[.slice (some ⟨gs, 0, none⟩) ln cp, .int .i32 0, .bool false, .bool false, .bool false]] X
set_option maxRecDepth 100000 in
set_option maxHeartbeats 1000000 in
theorem exprStr (l : Int) (nm : ByteArray) (w0 w : World) (X : Nat → Obj → Prop) (hO : Own w0 w [] X) (hlen : nm.size ≤ 1048576) :
    Calls Tryd.prog 11 #[.int .i32 l, .string nm] w (exprStrPost l nm w0 X) := by
  go_enter Tryd.func11, Tryd.ntmps11
  go_wp2_with fail
  generalize hW : World.alloc _ _ = W2
  have hN : Own w0 W2 [row (w.heap.size) 30 #[.nilIface, .int .i32 0]] X := by
    rw [← hW]
    exact (hO).alloc' _ (w.heap.size) (by simp)
  clear hW hO
  generalize w.heap.size = B1 at hN ⊢
  have hO := hN
  clear hN
  have hL := hO.apart
  have hX := hO.apartX
  have HL := Lib.hid hL
  have HX := Lib.hid hX
  clear hL hX
  have hP9 := hO.pick [] (by decide)
  have T9 := toU16 nm _ _ _ hP9 hlen
  refine Calls.mono T9 ?_
  clear hP9 T9
  rintro e u3 ⟨nd4, nd5, nd6, rfl, hQ⟩
  have hN : Own w0 u3 [row (B1) 30 #[.nilIface, .int .i32 0]] X := hQ.back HL.out HX.out [0] (by decide) (by decide)
  clear hQ HL HX hO
  have hO := hN
  clear hN
  have c9_0_0 : u3.cell? ⟨B1, 0, none⟩ = some (.nilIface) := hO.cell 0 rfl 0 rfl
  have c9_0_1 : u3.cell? ⟨B1, 1, none⟩ = some (.int .i32 0) := hO.cell 0 rfl 1 rfl
  have lt9_0 : B1 < u3.heap.size := hO.lt 0 rfl
  have y9_0 : ∀ o, u3.frozen? ⟨B1, o, none⟩ = false := hO.free 0 rfl
  have HO := Lib.hid hO
  clear hO
  go_wp2_with fail
  have hO := HO.out
  clear HO c9_0_0 c9_0_1 lt9_0 y9_0
  generalize hW : World.alloc _ _ = W8
  have hN : Own w0 W8 [row (u3.heap.size) 214 #[.slice (some ⟨nd4, 0, none⟩) nd5 nd6, .int .i32 0, .bool false, .bool false, .bool false], row (B1) 30 #[.iface 50 (.pointer (some ⟨u3.heap.size, 0, none⟩)), .int .i32 l]] X := by
    rw [← hW]
    exact (((hO).set 0 rfl 0 _).set 0 rfl 1 _).alloc' _ (u3.heap.size) (by simp)
  clear hW hO
  generalize u3.heap.size = B7 at hN ⊢
  have hO := hN
  clear hN
  have z9_1_0 : W8.cell? ⟨B1, 0, none⟩ = some (.iface 50 (.pointer (some ⟨B7, 0, none⟩))) := hO.cell 1 rfl 0 rfl
  have z9_1_1 : W8.cell? ⟨B1, 1, none⟩ = some (.int .i32 l) := hO.cell 1 rfl 1 rfl
  refine bodyPost_ret (v := .agg #[.iface 50 (.pointer (some ⟨B7, 0, none⟩)), .int .i32 l]) ?_ rfl ⟨B7, nd4, nd5, nd6, rfl, hO.sub [0] (by decide)⟩
  simp [results, Tryd.results11, go_sem, z9_1_0, z9_1_1]
end Go.Proofs.YtcbdjbjbikiaeaaDoor.Use
