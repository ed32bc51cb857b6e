/- An assignment's target that is nil. No condition. -/
import Derived.Test.YtcbdjbjbikiaeaaDoorOwnK
import Derived.Test.YtcbdjbjbikiaeaaDoorOwn
import Derived.Test.YtcbdjbjbikiaeaaDoorDeepCells
import Derived.Test.YtcbdjbjbikiaeaaDoorRows
import Derived.Test.YtcbdjbjbikiaeaaDoorDead
import Derived.Test.YtcbdjbjbikiaeaaDoorNew
import Derived.Test.YtcbdjbjbikiaeaaDoorNewL
import Derived.Test.YtcbdjbjbikiaeaaDoorStr
import Derived.Test.YtcbdjbjbikiaeaaDoorStrX
namespace Go.Proofs.YtcbdjbjbikiaeaaDoor.Use
open Go.ChangeShapes Go.WideShapes Go.ChangeAt Go.RowKit Go.Sort Own
set_option linter.unusedVariables false
def asgDany5Post (pb : Nat) (PC : Array Value) (mp cr : Nat) (r s : Bool) (d : Nat) (loc : Int) (tv : Value) (tl : Int) (nm : ByteArray) (w0 : World) (X : Nat → Obj → Prop) (e : Ending) (w' : World) : Prop :=
  e = .returned (.tuple #[.agg #[.iface 40 (.pointer (some ⟨d, 0, none⟩)), .int .i32 loc], .bool false]) ∧ Own w0 w' [row (pb) 206 PC, row (d) 44 #[tv, .int .i32 tl, .string nm, .int .i32 loc, .int .u8 0, .bool false, .bool false, .bool false]] X
set_option maxRecDepth 100000 in
set_option maxHeartbeats 1000000 in
theorem asgDany5 (pb : Nat) (PC : Array Value) (mp cr : Nat) (r s : Bool) (d : Nat) (loc : Int) (tv : Value) (tl : Int) (nm : ByteArray) (w0 w : World) (X : Nat → Obj → Prop) (hO : Own w0 w [row (pb) 206 PC, row (d) 44 #[tv, .int .i32 tl, .string nm, .int .i32 loc, .int .u8 0, .bool false, .bool false, .bool false]] X) (hD : Dead PC mp cr r s) (hl : PC[338]? = some (.bool false)) :
    Calls Tryd.prog 35 #[.pointer (some ⟨pb, 0, none⟩), .agg #[.iface 40 (.pointer (some ⟨d, 0, none⟩)), .int .i32 loc]] w (asgDany5Post pb PC mp cr r s d loc tv tl nm w0 X) := by
  go_enter Tryd.func35, Tryd.ntmps35
  have c9_0_32 : w.cell? ⟨pb, 32, none⟩ = some (.bool false) := hO.cell 0 rfl 32 (hD.ts)
  have c9_0_95 : w.cell? ⟨pb, 95, none⟩ = some (.bool r) := hO.cell 0 rfl 95 (hD.rep)
  have c9_0_96 : w.cell? ⟨pb, 96, none⟩ = some (.bool s) := hO.cell 0 rfl 96 (hD.stat)
  have c9_0_97 : w.cell? ⟨pb, 97, none⟩ = some (.pointer (some ⟨cr, 0, none⟩)) := hO.cell 0 rfl 97 (hD.cls)
  have c9_0_117 : w.cell? ⟨pb, 117, none⟩ = some (.map (some mp)) := hO.cell 0 rfl 117 (hD.imp)
  have c9_0_338 : w.cell? ⟨pb, 338, none⟩ = some (.bool false) := hO.cell 0 rfl 338 (hl)
  have c9_0_350 : w.cell? ⟨pb, 350, none⟩ = some (.bool true) := hO.cell 0 rfl 350 (hD.dead)
  have lt9_0 : pb < w.heap.size := hO.lt 0 rfl
  have y9_0 : ∀ o, w.frozen? ⟨pb, o, none⟩ = false := hO.free 0 rfl
  obtain ⟨c9_1_0, c9_1_1, c9_1_2, c9_1_3, c9_1_4, c9_1_5, c9_1_6, c9_1_7, lt9_1, y9_1, -⟩ := hO.k8 1 rfl
  have HO := Lib.hid hO
  clear hO
  go_wp2_with (first | (go_at_call 34; go_in) | (go_at_call 30; go_in) | (go_at_call 31; go_in) | (go_at_call 32; go_in) | (go_at_call 12; go_in) | (go_at_call 10; go_in) | (go_at_call 9; go_in) | (go_at_call 7; go_in))
  have hO := HO.out
  clear HO c9_0_32 c9_0_95 c9_0_96 c9_0_97 c9_0_117 c9_0_338 c9_0_350 lt9_0 y9_0 c9_1_0 c9_1_1 c9_1_2 c9_1_3 c9_1_4 c9_1_5 c9_1_6 c9_1_7 lt9_1 y9_1
  generalize hW : World.alloc _ _ = W2
  have hN : Own w0 W2 [row (w.heap.size + 1 + 1) 30 #[tv, .int .i32 tl], row (w.heap.size + 1) 30 #[.iface 40 (.pointer (some ⟨d, 0, none⟩)), .int .i32 loc], row (w.heap.size) 30 #[.iface 40 (.pointer (some ⟨d, 0, none⟩)), .int .i32 loc], row (pb) 206 PC, row (d) 44 #[tv, .int .i32 tl, .string nm, .int .i32 loc, .int .u8 0, .bool false, .bool false, .bool false]] X := by
    rw [← hW]
    exact (((hO).alloc' _ (w.heap.size) (by simp)).alloc' _ (w.heap.size + 1) (by simp)).alloc' _ (w.heap.size + 1 + 1) (by simp)
  clear hW hO
  generalize w.heap.size + 1 + 1 = B1_2 at hN ⊢
  generalize w.heap.size + 1 = B1_1 at hN ⊢
  generalize w.heap.size = B1 at hN ⊢
  have hO := hN
  clear hN
  have z9_1_0 : W2.cell? ⟨B1_1, 0, none⟩ = some (.iface 40 (.pointer (some ⟨d, 0, none⟩))) := hO.cell 1 rfl 0 rfl
  have z9_1_1 : W2.cell? ⟨B1_1, 1, none⟩ = some (.int .i32 loc) := hO.cell 1 rfl 1 rfl
  refine bodyPost_ret (v := .tuple #[.agg #[.iface 40 (.pointer (some ⟨d, 0, none⟩)), .int .i32 loc], .bool false]) ?_ rfl ⟨rfl, hO.sub [3, 4] (by decide)⟩
  simp [results, Tryd.results35, go_sem, z9_1_0, z9_1_1]
def dasgDany5Post (pb : Nat) (PC : Array Value) (mp cr : Nat) (r s : Bool) (d : Nat) (loc : Int) (tv : Value) (tl : Int) (nm : ByteArray) (w0 : World) (X : Nat → Obj → Prop) (e : Ending) (w' : World) : Prop :=
  e = .returned (.tuple #[.agg #[.iface 40 (.pointer (some ⟨d, 0, none⟩)), .int .i32 loc], .bool false]) ∧ Own w0 w' [row (pb) 206 PC, row (d) 44 #[tv, .int .i32 tl, .string nm, .int .i32 loc, .int .u8 0, .bool false, .bool false, .bool false]] X
set_option maxRecDepth 100000 in
set_option maxHeartbeats 1000000 in
theorem dasgDany5 (pb : Nat) (PC : Array Value) (mp cr : Nat) (r s : Bool) (d : Nat) (loc : Int) (tv : Value) (tl : Int) (nm : ByteArray) (w0 w : World) (X : Nat → Obj → Prop) (hO : Own w0 w [row (pb) 206 PC, row (d) 44 #[tv, .int .i32 tl, .string nm, .int .i32 loc, .int .u8 0, .bool false, .bool false, .bool false]] X) (hD : Dead PC mp cr r s) (hl : PC[338]? = some (.bool false)) :
    Calls Tryd.prog 14 #[.pointer (some ⟨pb, 0, none⟩), .agg #[.iface 40 (.pointer (some ⟨d, 0, none⟩)), .int .i32 loc]] w (dasgDany5Post pb PC mp cr r s d loc tv tl nm w0 X) := by
  go_enter Tryd.func14, Tryd.ntmps14
  have c9_0_32 : w.cell? ⟨pb, 32, none⟩ = some (.bool false) := hO.cell 0 rfl 32 (hD.ts)
  have c9_0_95 : w.cell? ⟨pb, 95, none⟩ = some (.bool r) := hO.cell 0 rfl 95 (hD.rep)
  have c9_0_96 : w.cell? ⟨pb, 96, none⟩ = some (.bool s) := hO.cell 0 rfl 96 (hD.stat)
  have c9_0_97 : w.cell? ⟨pb, 97, none⟩ = some (.pointer (some ⟨cr, 0, none⟩)) := hO.cell 0 rfl 97 (hD.cls)
  have c9_0_117 : w.cell? ⟨pb, 117, none⟩ = some (.map (some mp)) := hO.cell 0 rfl 117 (hD.imp)
  have c9_0_338 : w.cell? ⟨pb, 338, none⟩ = some (.bool false) := hO.cell 0 rfl 338 (hl)
  have c9_0_350 : w.cell? ⟨pb, 350, none⟩ = some (.bool true) := hO.cell 0 rfl 350 (hD.dead)
  have lt9_0 : pb < w.heap.size := hO.lt 0 rfl
  have y9_0 : ∀ o, w.frozen? ⟨pb, o, none⟩ = false := hO.free 0 rfl
  obtain ⟨c9_1_0, c9_1_1, c9_1_2, c9_1_3, c9_1_4, c9_1_5, c9_1_6, c9_1_7, lt9_1, y9_1, -⟩ := hO.k8 1 rfl
  have HO := Lib.hid hO
  clear hO
  go_wp2_with (first | (go_at_call 34; go_in) | (go_at_call 30; go_in) | (go_at_call 31; go_in) | (go_at_call 32; go_in) | (go_at_call 12; go_in) | (go_at_call 10; go_in) | (go_at_call 9; go_in) | (go_at_call 7; go_in))
  have hO := HO.out
  clear HO c9_0_32 c9_0_95 c9_0_96 c9_0_97 c9_0_117 c9_0_338 c9_0_350 lt9_0 y9_0 c9_1_0 c9_1_1 c9_1_2 c9_1_3 c9_1_4 c9_1_5 c9_1_6 c9_1_7 lt9_1 y9_1
  generalize hW : World.alloc _ _ = W2
  have hN : Own w0 W2 [row (w.heap.size + 1) 30 #[.nilIface, .int .i32 0], row (w.heap.size) 30 #[.iface 40 (.pointer (some ⟨d, 0, none⟩)), .int .i32 loc], row (pb) 206 PC, row (d) 44 #[tv, .int .i32 tl, .string nm, .int .i32 loc, .int .u8 0, .bool false, .bool false, .bool false]] X := by
    rw [← hW]
    exact ((hO).alloc' _ (w.heap.size) (by simp)).alloc' _ (w.heap.size + 1) (by simp)
  clear hW hO
  generalize w.heap.size + 1 = B1_1 at hN ⊢
  generalize w.heap.size = B1 at hN ⊢
  have hO := hN
  clear hN
  have hL := hO.apart
  have hX := hO.apartX
  have HL := Lib.hid hL
  have HX := Lib.hid hX
  clear hL hX
  have hP9 := hO.pick [2, 3] (by decide)
  have T9 := asgDany5 pb PC mp cr r s d loc tv tl nm _ _ _ hP9 hD hl
  refine Calls.mono T9 ?_
  clear hP9 T9
  rintro e u3 ⟨rfl, hQ⟩
  have hN : Own w0 u3 [row (pb) 206 PC, row (d) 44 #[tv, .int .i32 tl, .string nm, .int .i32 loc, .int .u8 0, .bool false, .bool false, .bool false], row (B1_1) 30 #[.nilIface, .int .i32 0], row (B1) 30 #[.iface 40 (.pointer (some ⟨d, 0, none⟩)), .int .i32 loc]] X := hQ.back HL.out HX.out [0, 1] (by decide) (by decide)
  clear hQ HL HX hO
  have hO := hN
  clear hN
  have c9_0_32 : u3.cell? ⟨pb, 32, none⟩ = some (.bool false) := hO.cell 0 rfl 32 (hD.ts)
  have c9_0_95 : u3.cell? ⟨pb, 95, none⟩ = some (.bool r) := hO.cell 0 rfl 95 (hD.rep)
  have c9_0_96 : u3.cell? ⟨pb, 96, none⟩ = some (.bool s) := hO.cell 0 rfl 96 (hD.stat)
  have c9_0_97 : u3.cell? ⟨pb, 97, none⟩ = some (.pointer (some ⟨cr, 0, none⟩)) := hO.cell 0 rfl 97 (hD.cls)
  have c9_0_117 : u3.cell? ⟨pb, 117, none⟩ = some (.map (some mp)) := hO.cell 0 rfl 117 (hD.imp)
  have c9_0_338 : u3.cell? ⟨pb, 338, none⟩ = some (.bool false) := hO.cell 0 rfl 338 (hl)
  have c9_0_350 : u3.cell? ⟨pb, 350, none⟩ = some (.bool true) := hO.cell 0 rfl 350 (hD.dead)
  have lt9_0 : pb < u3.heap.size := hO.lt 0 rfl
  have y9_0 : ∀ o, u3.frozen? ⟨pb, o, none⟩ = false := hO.free 0 rfl
  obtain ⟨c9_1_0, c9_1_1, c9_1_2, c9_1_3, c9_1_4, c9_1_5, c9_1_6, c9_1_7, lt9_1, y9_1, -⟩ := hO.k8 1 rfl
  obtain ⟨c9_2_0, c9_2_1, lt9_2, y9_2, -⟩ := hO.k2 2 rfl
  obtain ⟨c9_3_0, c9_3_1, lt9_3, y9_3, -⟩ := hO.k2 3 rfl
  have HO := Lib.hid hO
  clear hO
  go_wp2_with (first | (go_at_call 34; go_in) | (go_at_call 30; go_in) | (go_at_call 31; go_in) | (go_at_call 32; go_in) | (go_at_call 12; go_in) | (go_at_call 10; go_in) | (go_at_call 9; go_in) | (go_at_call 7; go_in))
  have hO := HO.out
  clear HO c9_0_32 c9_0_95 c9_0_96 c9_0_97 c9_0_117 c9_0_338 c9_0_350 lt9_0 y9_0 c9_1_0 c9_1_1 c9_1_2 c9_1_3 c9_1_4 c9_1_5 c9_1_6 c9_1_7 lt9_1 y9_1 c9_2_0 c9_2_1 lt9_2 y9_2 c9_3_0 c9_3_1 lt9_3 y9_3
  generalize hW : World.setCell _ _ _ = W5
  have hN : Own w0 W5 [row (pb) 206 PC, row (d) 44 #[tv, .int .i32 tl, .string nm, .int .i32 loc, .int .u8 0, .bool false, .bool false, .bool false], row (B1_1) 30 #[.iface 40 (.pointer (some ⟨d, 0, none⟩)), .int .i32 loc], row (B1) 30 #[.iface 40 (.pointer (some ⟨d, 0, none⟩)), .int .i32 loc]] X := by
    rw [← hW]
    exact ((hO).set 2 rfl 0 _).set 2 rfl 1 _
  clear hW hO
  have hO := hN
  clear hN
  have z9_2_0 : W5.cell? ⟨B1_1, 0, none⟩ = some (.iface 40 (.pointer (some ⟨d, 0, none⟩))) := hO.cell 2 rfl 0 rfl
  have z9_2_1 : W5.cell? ⟨B1_1, 1, none⟩ = some (.int .i32 loc) := hO.cell 2 rfl 1 rfl
  refine bodyPost_ret (v := .tuple #[.agg #[.iface 40 (.pointer (some ⟨d, 0, none⟩)), .int .i32 loc], .bool false]) ?_ rfl ⟨rfl, hO.sub [0, 1] (by decide)⟩
  simp [results, Tryd.results14, go_sem, z9_2_0, z9_2_1]
def asgXany5Post (pb : Nat) (PC : Array Value) (mp cr : Nat) (r s : Bool) (d : Nat) (loc : Int) (tv : Value) (tl : Int) (gx : Nat) (w0 : World) (X : Nat → Obj → Prop) (e : Ending) (w' : World) : Prop :=
  e = .returned (.tuple #[.agg #[.iface 209 (.pointer (some ⟨d, 0, none⟩)), .int .i32 loc], .bool false]) ∧ Own w0 w' [row (pb) 206 PC, row (d) 211 #[tv, .int .i32 tl, .iface 50 (.pointer (some ⟨gx, 0, none⟩)), .int .i32 loc, .int .i32 0, .int .u8 0, .bool false, .bool false, .bool false]] X
set_option maxRecDepth 100000 in
set_option maxHeartbeats 1000000 in
theorem asgXany5 (pb : Nat) (PC : Array Value) (mp cr : Nat) (r s : Bool) (d : Nat) (loc : Int) (tv : Value) (tl : Int) (gx : Nat) (w0 w : World) (X : Nat → Obj → Prop) (hO : Own w0 w [row (pb) 206 PC, row (d) 211 #[tv, .int .i32 tl, .iface 50 (.pointer (some ⟨gx, 0, none⟩)), .int .i32 loc, .int .i32 0, .int .u8 0, .bool false, .bool false, .bool false]] X) (hD : Dead PC mp cr r s) (hl : PC[338]? = some (.bool false)) :
    Calls Tryd.prog 35 #[.pointer (some ⟨pb, 0, none⟩), .agg #[.iface 209 (.pointer (some ⟨d, 0, none⟩)), .int .i32 loc]] w (asgXany5Post pb PC mp cr r s d loc tv tl gx w0 X) := by
  go_enter Tryd.func35, Tryd.ntmps35
  have c9_0_32 : w.cell? ⟨pb, 32, none⟩ = some (.bool false) := hO.cell 0 rfl 32 (hD.ts)
  have c9_0_95 : w.cell? ⟨pb, 95, none⟩ = some (.bool r) := hO.cell 0 rfl 95 (hD.rep)
  have c9_0_96 : w.cell? ⟨pb, 96, none⟩ = some (.bool s) := hO.cell 0 rfl 96 (hD.stat)
  have c9_0_97 : w.cell? ⟨pb, 97, none⟩ = some (.pointer (some ⟨cr, 0, none⟩)) := hO.cell 0 rfl 97 (hD.cls)
  have c9_0_117 : w.cell? ⟨pb, 117, none⟩ = some (.map (some mp)) := hO.cell 0 rfl 117 (hD.imp)
  have c9_0_338 : w.cell? ⟨pb, 338, none⟩ = some (.bool false) := hO.cell 0 rfl 338 (hl)
  have c9_0_350 : w.cell? ⟨pb, 350, none⟩ = some (.bool true) := hO.cell 0 rfl 350 (hD.dead)
  have lt9_0 : pb < w.heap.size := hO.lt 0 rfl
  have y9_0 : ∀ o, w.frozen? ⟨pb, o, none⟩ = false := hO.free 0 rfl
  obtain ⟨c9_1_0, c9_1_1, c9_1_2, c9_1_3, c9_1_4, c9_1_5, c9_1_6, c9_1_7, c9_1_8, lt9_1, y9_1, -⟩ := hO.k9 1 rfl
  have HO := Lib.hid hO
  clear hO
  go_wp2_with (first | (go_at_call 34; go_in) | (go_at_call 30; go_in) | (go_at_call 31; go_in) | (go_at_call 32; go_in) | (go_at_call 12; go_in) | (go_at_call 10; go_in) | (go_at_call 9; go_in) | (go_at_call 7; go_in))
  have hO := HO.out
  clear HO c9_0_32 c9_0_95 c9_0_96 c9_0_97 c9_0_117 c9_0_338 c9_0_350 lt9_0 y9_0 c9_1_0 c9_1_1 c9_1_2 c9_1_3 c9_1_4 c9_1_5 c9_1_6 c9_1_7 c9_1_8 lt9_1 y9_1
  generalize hW : World.alloc _ _ = W2
  have hN : Own w0 W2 [row (w.heap.size + 1 + 1) 30 #[tv, .int .i32 tl], row (w.heap.size + 1) 30 #[.iface 209 (.pointer (some ⟨d, 0, none⟩)), .int .i32 loc], row (w.heap.size) 30 #[.iface 209 (.pointer (some ⟨d, 0, none⟩)), .int .i32 loc], row (pb) 206 PC, row (d) 211 #[tv, .int .i32 tl, .iface 50 (.pointer (some ⟨gx, 0, none⟩)), .int .i32 loc, .int .i32 0, .int .u8 0, .bool false, .bool false, .bool false]] X := by
    rw [← hW]
    exact (((hO).alloc' _ (w.heap.size) (by simp)).alloc' _ (w.heap.size + 1) (by simp)).alloc' _ (w.heap.size + 1 + 1) (by simp)
  clear hW hO
  generalize w.heap.size + 1 + 1 = B1_2 at hN ⊢
  generalize w.heap.size + 1 = B1_1 at hN ⊢
  generalize w.heap.size = B1 at hN ⊢
  have hO := hN
  clear hN
  have z9_1_0 : W2.cell? ⟨B1_1, 0, none⟩ = some (.iface 209 (.pointer (some ⟨d, 0, none⟩))) := hO.cell 1 rfl 0 rfl
  have z9_1_1 : W2.cell? ⟨B1_1, 1, none⟩ = some (.int .i32 loc) := hO.cell 1 rfl 1 rfl
  refine bodyPost_ret (v := .tuple #[.agg #[.iface 209 (.pointer (some ⟨d, 0, none⟩)), .int .i32 loc], .bool false]) ?_ rfl ⟨rfl, hO.sub [3, 4] (by decide)⟩
  simp [results, Tryd.results35, go_sem, z9_1_0, z9_1_1]
def dasgXany5Post (pb : Nat) (PC : Array Value) (mp cr : Nat) (r s : Bool) (d : Nat) (loc : Int) (tv : Value) (tl : Int) (gx : Nat) (w0 : World) (X : Nat → Obj → Prop) (e : Ending) (w' : World) : Prop :=
  e = .returned (.tuple #[.agg #[.iface 209 (.pointer (some ⟨d, 0, none⟩)), .int .i32 loc], .bool false]) ∧ Own w0 w' [row (pb) 206 PC, row (d) 211 #[tv, .int .i32 tl, .iface 50 (.pointer (some ⟨gx, 0, none⟩)), .int .i32 loc, .int .i32 0, .int .u8 0, .bool false, .bool false, .bool false]] X
set_option maxRecDepth 100000 in
set_option maxHeartbeats 1000000 in
theorem dasgXany5 (pb : Nat) (PC : Array Value) (mp cr : Nat) (r s : Bool) (d : Nat) (loc : Int) (tv : Value) (tl : Int) (gx : Nat) (w0 w : World) (X : Nat → Obj → Prop) (hO : Own w0 w [row (pb) 206 PC, row (d) 211 #[tv, .int .i32 tl, .iface 50 (.pointer (some ⟨gx, 0, none⟩)), .int .i32 loc, .int .i32 0, .int .u8 0, .bool false, .bool false, .bool false]] X) (hD : Dead PC mp cr r s) (hl : PC[338]? = some (.bool false)) :
    Calls Tryd.prog 14 #[.pointer (some ⟨pb, 0, none⟩), .agg #[.iface 209 (.pointer (some ⟨d, 0, none⟩)), .int .i32 loc]] w (dasgXany5Post pb PC mp cr r s d loc tv tl gx w0 X) := by
  go_enter Tryd.func14, Tryd.ntmps14
  have c9_0_32 : w.cell? ⟨pb, 32, none⟩ = some (.bool false) := hO.cell 0 rfl 32 (hD.ts)
  have c9_0_95 : w.cell? ⟨pb, 95, none⟩ = some (.bool r) := hO.cell 0 rfl 95 (hD.rep)
  have c9_0_96 : w.cell? ⟨pb, 96, none⟩ = some (.bool s) := hO.cell 0 rfl 96 (hD.stat)
  have c9_0_97 : w.cell? ⟨pb, 97, none⟩ = some (.pointer (some ⟨cr, 0, none⟩)) := hO.cell 0 rfl 97 (hD.cls)
  have c9_0_117 : w.cell? ⟨pb, 117, none⟩ = some (.map (some mp)) := hO.cell 0 rfl 117 (hD.imp)
  have c9_0_338 : w.cell? ⟨pb, 338, none⟩ = some (.bool false) := hO.cell 0 rfl 338 (hl)
  have c9_0_350 : w.cell? ⟨pb, 350, none⟩ = some (.bool true) := hO.cell 0 rfl 350 (hD.dead)
  have lt9_0 : pb < w.heap.size := hO.lt 0 rfl
  have y9_0 : ∀ o, w.frozen? ⟨pb, o, none⟩ = false := hO.free 0 rfl
  obtain ⟨c9_1_0, c9_1_1, c9_1_2, c9_1_3, c9_1_4, c9_1_5, c9_1_6, c9_1_7, c9_1_8, lt9_1, y9_1, -⟩ := hO.k9 1 rfl
  have HO := Lib.hid hO
  clear hO
  go_wp2_with (first | (go_at_call 34; go_in) | (go_at_call 30; go_in) | (go_at_call 31; go_in) | (go_at_call 32; go_in) | (go_at_call 12; go_in) | (go_at_call 10; go_in) | (go_at_call 9; go_in) | (go_at_call 7; go_in))
  have hO := HO.out
  clear HO c9_0_32 c9_0_95 c9_0_96 c9_0_97 c9_0_117 c9_0_338 c9_0_350 lt9_0 y9_0 c9_1_0 c9_1_1 c9_1_2 c9_1_3 c9_1_4 c9_1_5 c9_1_6 c9_1_7 c9_1_8 lt9_1 y9_1
  generalize hW : World.alloc _ _ = W2
  have hN : Own w0 W2 [row (w.heap.size + 1) 30 #[.nilIface, .int .i32 0], row (w.heap.size) 30 #[.iface 209 (.pointer (some ⟨d, 0, none⟩)), .int .i32 loc], row (pb) 206 PC, row (d) 211 #[tv, .int .i32 tl, .iface 50 (.pointer (some ⟨gx, 0, none⟩)), .int .i32 loc, .int .i32 0, .int .u8 0, .bool false, .bool false, .bool false]] X := by
    rw [← hW]
    exact ((hO).alloc' _ (w.heap.size) (by simp)).alloc' _ (w.heap.size + 1) (by simp)
  clear hW hO
  generalize w.heap.size + 1 = B1_1 at hN ⊢
  generalize w.heap.size = B1 at hN ⊢
  have hO := hN
  clear hN
  have hL := hO.apart
  have hX := hO.apartX
  have HL := Lib.hid hL
  have HX := Lib.hid hX
  clear hL hX
  have hP9 := hO.pick [2, 3] (by decide)
  have T9 := asgXany5 pb PC mp cr r s d loc tv tl gx _ _ _ hP9 hD hl
  refine Calls.mono T9 ?_
  clear hP9 T9
  rintro e u3 ⟨rfl, hQ⟩
  have hN : Own w0 u3 [row (pb) 206 PC, row (d) 211 #[tv, .int .i32 tl, .iface 50 (.pointer (some ⟨gx, 0, none⟩)), .int .i32 loc, .int .i32 0, .int .u8 0, .bool false, .bool false, .bool false], row (B1_1) 30 #[.nilIface, .int .i32 0], row (B1) 30 #[.iface 209 (.pointer (some ⟨d, 0, none⟩)), .int .i32 loc]] X := hQ.back HL.out HX.out [0, 1] (by decide) (by decide)
  clear hQ HL HX hO
  have hO := hN
  clear hN
  have c9_0_32 : u3.cell? ⟨pb, 32, none⟩ = some (.bool false) := hO.cell 0 rfl 32 (hD.ts)
  have c9_0_95 : u3.cell? ⟨pb, 95, none⟩ = some (.bool r) := hO.cell 0 rfl 95 (hD.rep)
  have c9_0_96 : u3.cell? ⟨pb, 96, none⟩ = some (.bool s) := hO.cell 0 rfl 96 (hD.stat)
  have c9_0_97 : u3.cell? ⟨pb, 97, none⟩ = some (.pointer (some ⟨cr, 0, none⟩)) := hO.cell 0 rfl 97 (hD.cls)
  have c9_0_117 : u3.cell? ⟨pb, 117, none⟩ = some (.map (some mp)) := hO.cell 0 rfl 117 (hD.imp)
  have c9_0_338 : u3.cell? ⟨pb, 338, none⟩ = some (.bool false) := hO.cell 0 rfl 338 (hl)
  have c9_0_350 : u3.cell? ⟨pb, 350, none⟩ = some (.bool true) := hO.cell 0 rfl 350 (hD.dead)
  have lt9_0 : pb < u3.heap.size := hO.lt 0 rfl
  have y9_0 : ∀ o, u3.frozen? ⟨pb, o, none⟩ = false := hO.free 0 rfl
  obtain ⟨c9_1_0, c9_1_1, c9_1_2, c9_1_3, c9_1_4, c9_1_5, c9_1_6, c9_1_7, c9_1_8, lt9_1, y9_1, -⟩ := hO.k9 1 rfl
  obtain ⟨c9_2_0, c9_2_1, lt9_2, y9_2, -⟩ := hO.k2 2 rfl
  obtain ⟨c9_3_0, c9_3_1, lt9_3, y9_3, -⟩ := hO.k2 3 rfl
  have HO := Lib.hid hO
  clear hO
  go_wp2_with (first | (go_at_call 34; go_in) | (go_at_call 30; go_in) | (go_at_call 31; go_in) | (go_at_call 32; go_in) | (go_at_call 12; go_in) | (go_at_call 10; go_in) | (go_at_call 9; go_in) | (go_at_call 7; go_in))
  have hO := HO.out
  clear HO c9_0_32 c9_0_95 c9_0_96 c9_0_97 c9_0_117 c9_0_338 c9_0_350 lt9_0 y9_0 c9_1_0 c9_1_1 c9_1_2 c9_1_3 c9_1_4 c9_1_5 c9_1_6 c9_1_7 c9_1_8 lt9_1 y9_1 c9_2_0 c9_2_1 lt9_2 y9_2 c9_3_0 c9_3_1 lt9_3 y9_3
  generalize hW : World.setCell _ _ _ = W5
  have hN : Own w0 W5 [row (pb) 206 PC, row (d) 211 #[tv, .int .i32 tl, .iface 50 (.pointer (some ⟨gx, 0, none⟩)), .int .i32 loc, .int .i32 0, .int .u8 0, .bool false, .bool false, .bool false], row (B1_1) 30 #[.iface 209 (.pointer (some ⟨d, 0, none⟩)), .int .i32 loc], row (B1) 30 #[.iface 209 (.pointer (some ⟨d, 0, none⟩)), .int .i32 loc]] X := by
    rw [← hW]
    exact ((hO).set 2 rfl 0 _).set 2 rfl 1 _
  clear hW hO
  have hO := hN
  clear hN
  have z9_2_0 : W5.cell? ⟨B1_1, 0, none⟩ = some (.iface 209 (.pointer (some ⟨d, 0, none⟩))) := hO.cell 2 rfl 0 rfl
  have z9_2_1 : W5.cell? ⟨B1_1, 1, none⟩ = some (.int .i32 loc) := hO.cell 2 rfl 1 rfl
  refine bodyPost_ret (v := .tuple #[.agg #[.iface 209 (.pointer (some ⟨d, 0, none⟩)), .int .i32 loc], .bool false]) ?_ rfl ⟨rfl, hO.sub [0, 1] (by decide)⟩
  simp [results, Tryd.results14, go_sem, z9_2_0, z9_2_1]
def asgDnil5Post (pb : Nat) (PC : Array Value) (mp cr : Nat) (r s : Bool) (d : Nat) (loc tl : Int) (nm : ByteArray) (w0 : World) (X : Nat → Obj → Prop) (e : Ending) (w' : World) : Prop :=
  e = .returned (.tuple #[.agg #[.iface 40 (.pointer (some ⟨d, 0, none⟩)), .int .i32 loc], .bool false]) ∧ Own w0 w' [row (pb) 206 PC, row (d) 44 #[.nilIface, .int .i32 tl, .string nm, .int .i32 loc, .int .u8 0, .bool false, .bool false, .bool false]] X
set_option maxRecDepth 100000 in
set_option maxHeartbeats 1000000 in
theorem asgDnil5 (pb : Nat) (PC : Array Value) (mp cr : Nat) (r s : Bool) (d : Nat) (loc tl : Int) (nm : ByteArray) (w0 w : World) (X : Nat → Obj → Prop) (hO : Own w0 w [row (pb) 206 PC, row (d) 44 #[.nilIface, .int .i32 tl, .string nm, .int .i32 loc, .int .u8 0, .bool false, .bool false, .bool false]] X) (hD : Dead PC mp cr r s) (hl : PC[338]? = some (.bool true)) :
    Calls Tryd.prog 35 #[.pointer (some ⟨pb, 0, none⟩), .agg #[.iface 40 (.pointer (some ⟨d, 0, none⟩)), .int .i32 loc]] w (asgDnil5Post pb PC mp cr r s d loc tl nm w0 X) := by
  go_enter Tryd.func35, Tryd.ntmps35
  have c9_0_32 : w.cell? ⟨pb, 32, none⟩ = some (.bool false) := hO.cell 0 rfl 32 (hD.ts)
  have c9_0_95 : w.cell? ⟨pb, 95, none⟩ = some (.bool r) := hO.cell 0 rfl 95 (hD.rep)
  have c9_0_96 : w.cell? ⟨pb, 96, none⟩ = some (.bool s) := hO.cell 0 rfl 96 (hD.stat)
  have c9_0_97 : w.cell? ⟨pb, 97, none⟩ = some (.pointer (some ⟨cr, 0, none⟩)) := hO.cell 0 rfl 97 (hD.cls)
  have c9_0_117 : w.cell? ⟨pb, 117, none⟩ = some (.map (some mp)) := hO.cell 0 rfl 117 (hD.imp)
  have c9_0_338 : w.cell? ⟨pb, 338, none⟩ = some (.bool true) := hO.cell 0 rfl 338 (hl)
  have c9_0_350 : w.cell? ⟨pb, 350, none⟩ = some (.bool true) := hO.cell 0 rfl 350 (hD.dead)
  have lt9_0 : pb < w.heap.size := hO.lt 0 rfl
  have y9_0 : ∀ o, w.frozen? ⟨pb, o, none⟩ = false := hO.free 0 rfl
  obtain ⟨c9_1_0, c9_1_1, c9_1_2, c9_1_3, c9_1_4, c9_1_5, c9_1_6, c9_1_7, lt9_1, y9_1, -⟩ := hO.k8 1 rfl
  have HO := Lib.hid hO
  clear hO
  go_wp2_with (first | (go_at_call 34; go_in) | (go_at_call 30; go_in) | (go_at_call 31; go_in) | (go_at_call 32; go_in) | (go_at_call 12; go_in) | (go_at_call 10; go_in) | (go_at_call 9; go_in) | (go_at_call 7; go_in))
  have hO := HO.out
  clear HO c9_0_32 c9_0_95 c9_0_96 c9_0_97 c9_0_117 c9_0_338 c9_0_350 lt9_0 y9_0 c9_1_0 c9_1_1 c9_1_2 c9_1_3 c9_1_4 c9_1_5 c9_1_6 c9_1_7 lt9_1 y9_1
  generalize hW : World.alloc _ _ = W2
  have hN : Own w0 W2 [row (w.heap.size + 1 + 1) 30 #[.nilIface, .int .i32 tl], row (w.heap.size + 1) 30 #[.iface 40 (.pointer (some ⟨d, 0, none⟩)), .int .i32 loc], row (w.heap.size) 30 #[.iface 40 (.pointer (some ⟨d, 0, none⟩)), .int .i32 loc], row (pb) 206 PC, row (d) 44 #[.nilIface, .int .i32 tl, .string nm, .int .i32 loc, .int .u8 0, .bool false, .bool false, .bool false]] X := by
    rw [← hW]
    exact (((hO).alloc' _ (w.heap.size) (by simp)).alloc' _ (w.heap.size + 1) (by simp)).alloc' _ (w.heap.size + 1 + 1) (by simp)
  clear hW hO
  generalize w.heap.size + 1 + 1 = B1_2 at hN ⊢
  generalize w.heap.size + 1 = B1_1 at hN ⊢
  generalize w.heap.size = B1 at hN ⊢
  have hO := hN
  clear hN
  have z9_1_0 : W2.cell? ⟨B1_1, 0, none⟩ = some (.iface 40 (.pointer (some ⟨d, 0, none⟩))) := hO.cell 1 rfl 0 rfl
  have z9_1_1 : W2.cell? ⟨B1_1, 1, none⟩ = some (.int .i32 loc) := hO.cell 1 rfl 1 rfl
  refine bodyPost_ret (v := .tuple #[.agg #[.iface 40 (.pointer (some ⟨d, 0, none⟩)), .int .i32 loc], .bool false]) ?_ rfl ⟨rfl, hO.sub [3, 4] (by decide)⟩
  simp [results, Tryd.results35, go_sem, z9_1_0, z9_1_1]
def dasgDnil5Post (pb : Nat) (PC : Array Value) (mp cr : Nat) (r s : Bool) (d : Nat) (loc tl : Int) (nm : ByteArray) (w0 : World) (X : Nat → Obj → Prop) (e : Ending) (w' : World) : Prop :=
  e = .returned (.tuple #[.agg #[.iface 40 (.pointer (some ⟨d, 0, none⟩)), .int .i32 loc], .bool false]) ∧ Own w0 w' [row (pb) 206 PC, row (d) 44 #[.nilIface, .int .i32 tl, .string nm, .int .i32 loc, .int .u8 0, .bool false, .bool false, .bool false]] X
set_option maxRecDepth 100000 in
set_option maxHeartbeats 1000000 in
theorem dasgDnil5 (pb : Nat) (PC : Array Value) (mp cr : Nat) (r s : Bool) (d : Nat) (loc tl : Int) (nm : ByteArray) (w0 w : World) (X : Nat → Obj → Prop) (hO : Own w0 w [row (pb) 206 PC, row (d) 44 #[.nilIface, .int .i32 tl, .string nm, .int .i32 loc, .int .u8 0, .bool false, .bool false, .bool false]] X) (hD : Dead PC mp cr r s) (hl : PC[338]? = some (.bool true)) :
    Calls Tryd.prog 14 #[.pointer (some ⟨pb, 0, none⟩), .agg #[.iface 40 (.pointer (some ⟨d, 0, none⟩)), .int .i32 loc]] w (dasgDnil5Post pb PC mp cr r s d loc tl nm w0 X) := by
  go_enter Tryd.func14, Tryd.ntmps14
  have c9_0_32 : w.cell? ⟨pb, 32, none⟩ = some (.bool false) := hO.cell 0 rfl 32 (hD.ts)
  have c9_0_95 : w.cell? ⟨pb, 95, none⟩ = some (.bool r) := hO.cell 0 rfl 95 (hD.rep)
  have c9_0_96 : w.cell? ⟨pb, 96, none⟩ = some (.bool s) := hO.cell 0 rfl 96 (hD.stat)
  have c9_0_97 : w.cell? ⟨pb, 97, none⟩ = some (.pointer (some ⟨cr, 0, none⟩)) := hO.cell 0 rfl 97 (hD.cls)
  have c9_0_117 : w.cell? ⟨pb, 117, none⟩ = some (.map (some mp)) := hO.cell 0 rfl 117 (hD.imp)
  have c9_0_338 : w.cell? ⟨pb, 338, none⟩ = some (.bool true) := hO.cell 0 rfl 338 (hl)
  have c9_0_350 : w.cell? ⟨pb, 350, none⟩ = some (.bool true) := hO.cell 0 rfl 350 (hD.dead)
  have lt9_0 : pb < w.heap.size := hO.lt 0 rfl
  have y9_0 : ∀ o, w.frozen? ⟨pb, o, none⟩ = false := hO.free 0 rfl
  obtain ⟨c9_1_0, c9_1_1, c9_1_2, c9_1_3, c9_1_4, c9_1_5, c9_1_6, c9_1_7, lt9_1, y9_1, -⟩ := hO.k8 1 rfl
  have HO := Lib.hid hO
  clear hO
  go_wp2_with (first | (go_at_call 34; go_in) | (go_at_call 30; go_in) | (go_at_call 31; go_in) | (go_at_call 32; go_in) | (go_at_call 12; go_in) | (go_at_call 10; go_in) | (go_at_call 9; go_in) | (go_at_call 7; go_in))
  have hO := HO.out
  clear HO c9_0_32 c9_0_95 c9_0_96 c9_0_97 c9_0_117 c9_0_338 c9_0_350 lt9_0 y9_0 c9_1_0 c9_1_1 c9_1_2 c9_1_3 c9_1_4 c9_1_5 c9_1_6 c9_1_7 lt9_1 y9_1
  generalize hW : World.alloc _ _ = W2
  have hN : Own w0 W2 [row (w.heap.size + 1) 30 #[.nilIface, .int .i32 0], row (w.heap.size) 30 #[.iface 40 (.pointer (some ⟨d, 0, none⟩)), .int .i32 loc], row (pb) 206 PC, row (d) 44 #[.nilIface, .int .i32 tl, .string nm, .int .i32 loc, .int .u8 0, .bool false, .bool false, .bool false]] X := by
    rw [← hW]
    exact ((hO).alloc' _ (w.heap.size) (by simp)).alloc' _ (w.heap.size + 1) (by simp)
  clear hW hO
  generalize w.heap.size + 1 = B1_1 at hN ⊢
  generalize w.heap.size = B1 at hN ⊢
  have hO := hN
  clear hN
  have hL := hO.apart
  have hX := hO.apartX
  have HL := Lib.hid hL
  have HX := Lib.hid hX
  clear hL hX
  have hP9 := hO.pick [2, 3] (by decide)
  have T9 := asgDnil5 pb PC mp cr r s d loc tl nm _ _ _ hP9 hD hl
  refine Calls.mono T9 ?_
  clear hP9 T9
  rintro e u3 ⟨rfl, hQ⟩
  have hN : Own w0 u3 [row (pb) 206 PC, row (d) 44 #[.nilIface, .int .i32 tl, .string nm, .int .i32 loc, .int .u8 0, .bool false, .bool false, .bool false], row (B1_1) 30 #[.nilIface, .int .i32 0], row (B1) 30 #[.iface 40 (.pointer (some ⟨d, 0, none⟩)), .int .i32 loc]] X := hQ.back HL.out HX.out [0, 1] (by decide) (by decide)
  clear hQ HL HX hO
  have hO := hN
  clear hN
  have c9_0_32 : u3.cell? ⟨pb, 32, none⟩ = some (.bool false) := hO.cell 0 rfl 32 (hD.ts)
  have c9_0_95 : u3.cell? ⟨pb, 95, none⟩ = some (.bool r) := hO.cell 0 rfl 95 (hD.rep)
  have c9_0_96 : u3.cell? ⟨pb, 96, none⟩ = some (.bool s) := hO.cell 0 rfl 96 (hD.stat)
  have c9_0_97 : u3.cell? ⟨pb, 97, none⟩ = some (.pointer (some ⟨cr, 0, none⟩)) := hO.cell 0 rfl 97 (hD.cls)
  have c9_0_117 : u3.cell? ⟨pb, 117, none⟩ = some (.map (some mp)) := hO.cell 0 rfl 117 (hD.imp)
  have c9_0_338 : u3.cell? ⟨pb, 338, none⟩ = some (.bool true) := hO.cell 0 rfl 338 (hl)
  have c9_0_350 : u3.cell? ⟨pb, 350, none⟩ = some (.bool true) := hO.cell 0 rfl 350 (hD.dead)
  have lt9_0 : pb < u3.heap.size := hO.lt 0 rfl
  have y9_0 : ∀ o, u3.frozen? ⟨pb, o, none⟩ = false := hO.free 0 rfl
  obtain ⟨c9_1_0, c9_1_1, c9_1_2, c9_1_3, c9_1_4, c9_1_5, c9_1_6, c9_1_7, lt9_1, y9_1, -⟩ := hO.k8 1 rfl
  obtain ⟨c9_2_0, c9_2_1, lt9_2, y9_2, -⟩ := hO.k2 2 rfl
  obtain ⟨c9_3_0, c9_3_1, lt9_3, y9_3, -⟩ := hO.k2 3 rfl
  have HO := Lib.hid hO
  clear hO
  go_wp2_with (first | (go_at_call 34; go_in) | (go_at_call 30; go_in) | (go_at_call 31; go_in) | (go_at_call 32; go_in) | (go_at_call 12; go_in) | (go_at_call 10; go_in) | (go_at_call 9; go_in) | (go_at_call 7; go_in))
  have hO := HO.out
  clear HO c9_0_32 c9_0_95 c9_0_96 c9_0_97 c9_0_117 c9_0_338 c9_0_350 lt9_0 y9_0 c9_1_0 c9_1_1 c9_1_2 c9_1_3 c9_1_4 c9_1_5 c9_1_6 c9_1_7 lt9_1 y9_1 c9_2_0 c9_2_1 lt9_2 y9_2 c9_3_0 c9_3_1 lt9_3 y9_3
  generalize hW : World.setCell _ _ _ = W5
  have hN : Own w0 W5 [row (pb) 206 PC, row (d) 44 #[.nilIface, .int .i32 tl, .string nm, .int .i32 loc, .int .u8 0, .bool false, .bool false, .bool false], row (B1_1) 30 #[.iface 40 (.pointer (some ⟨d, 0, none⟩)), .int .i32 loc], row (B1) 30 #[.iface 40 (.pointer (some ⟨d, 0, none⟩)), .int .i32 loc]] X := by
    rw [← hW]
    exact ((hO).set 2 rfl 0 _).set 2 rfl 1 _
  clear hW hO
  have hO := hN
  clear hN
  have z9_2_0 : W5.cell? ⟨B1_1, 0, none⟩ = some (.iface 40 (.pointer (some ⟨d, 0, none⟩))) := hO.cell 2 rfl 0 rfl
  have z9_2_1 : W5.cell? ⟨B1_1, 1, none⟩ = some (.int .i32 loc) := hO.cell 2 rfl 1 rfl
  refine bodyPost_ret (v := .tuple #[.agg #[.iface 40 (.pointer (some ⟨d, 0, none⟩)), .int .i32 loc], .bool false]) ?_ rfl ⟨rfl, hO.sub [0, 1] (by decide)⟩
  simp [results, Tryd.results14, go_sem, z9_2_0, z9_2_1]
def asgXnil5Post (pb : Nat) (PC : Array Value) (mp cr : Nat) (r s : Bool) (d : Nat) (loc tl : Int) (gx : Nat) (w0 : World) (X : Nat → Obj → Prop) (e : Ending) (w' : World) : Prop :=
  e = .returned (.tuple #[.agg #[.iface 209 (.pointer (some ⟨d, 0, none⟩)), .int .i32 loc], .bool false]) ∧ Own w0 w' [row (pb) 206 PC, row (d) 211 #[.nilIface, .int .i32 tl, .iface 50 (.pointer (some ⟨gx, 0, none⟩)), .int .i32 loc, .int .i32 0, .int .u8 0, .bool false, .bool false, .bool false]] X
set_option maxRecDepth 100000 in
set_option maxHeartbeats 1000000 in
theorem asgXnil5 (pb : Nat) (PC : Array Value) (mp cr : Nat) (r s : Bool) (d : Nat) (loc tl : Int) (gx : Nat) (w0 w : World) (X : Nat → Obj → Prop) (hO : Own w0 w [row (pb) 206 PC, row (d) 211 #[.nilIface, .int .i32 tl, .iface 50 (.pointer (some ⟨gx, 0, none⟩)), .int .i32 loc, .int .i32 0, .int .u8 0, .bool false, .bool false, .bool false]] X) (hD : Dead PC mp cr r s) (hl : PC[338]? = some (.bool true)) :
    Calls Tryd.prog 35 #[.pointer (some ⟨pb, 0, none⟩), .agg #[.iface 209 (.pointer (some ⟨d, 0, none⟩)), .int .i32 loc]] w (asgXnil5Post pb PC mp cr r s d loc tl gx w0 X) := by
  go_enter Tryd.func35, Tryd.ntmps35
  have c9_0_32 : w.cell? ⟨pb, 32, none⟩ = some (.bool false) := hO.cell 0 rfl 32 (hD.ts)
  have c9_0_95 : w.cell? ⟨pb, 95, none⟩ = some (.bool r) := hO.cell 0 rfl 95 (hD.rep)
  have c9_0_96 : w.cell? ⟨pb, 96, none⟩ = some (.bool s) := hO.cell 0 rfl 96 (hD.stat)
  have c9_0_97 : w.cell? ⟨pb, 97, none⟩ = some (.pointer (some ⟨cr, 0, none⟩)) := hO.cell 0 rfl 97 (hD.cls)
  have c9_0_117 : w.cell? ⟨pb, 117, none⟩ = some (.map (some mp)) := hO.cell 0 rfl 117 (hD.imp)
  have c9_0_338 : w.cell? ⟨pb, 338, none⟩ = some (.bool true) := hO.cell 0 rfl 338 (hl)
  have c9_0_350 : w.cell? ⟨pb, 350, none⟩ = some (.bool true) := hO.cell 0 rfl 350 (hD.dead)
  have lt9_0 : pb < w.heap.size := hO.lt 0 rfl
  have y9_0 : ∀ o, w.frozen? ⟨pb, o, none⟩ = false := hO.free 0 rfl
  obtain ⟨c9_1_0, c9_1_1, c9_1_2, c9_1_3, c9_1_4, c9_1_5, c9_1_6, c9_1_7, c9_1_8, lt9_1, y9_1, -⟩ := hO.k9 1 rfl
  have HO := Lib.hid hO
  clear hO
  go_wp2_with (first | (go_at_call 34; go_in) | (go_at_call 30; go_in) | (go_at_call 31; go_in) | (go_at_call 32; go_in) | (go_at_call 12; go_in) | (go_at_call 10; go_in) | (go_at_call 9; go_in) | (go_at_call 7; go_in))
  have hO := HO.out
  clear HO c9_0_32 c9_0_95 c9_0_96 c9_0_97 c9_0_117 c9_0_338 c9_0_350 lt9_0 y9_0 c9_1_0 c9_1_1 c9_1_2 c9_1_3 c9_1_4 c9_1_5 c9_1_6 c9_1_7 c9_1_8 lt9_1 y9_1
  generalize hW : World.alloc _ _ = W2
  have hN : Own w0 W2 [row (w.heap.size + 1 + 1) 30 #[.nilIface, .int .i32 tl], row (w.heap.size + 1) 30 #[.iface 209 (.pointer (some ⟨d, 0, none⟩)), .int .i32 loc], row (w.heap.size) 30 #[.iface 209 (.pointer (some ⟨d, 0, none⟩)), .int .i32 loc], row (pb) 206 PC, row (d) 211 #[.nilIface, .int .i32 tl, .iface 50 (.pointer (some ⟨gx, 0, none⟩)), .int .i32 loc, .int .i32 0, .int .u8 0, .bool false, .bool false, .bool false]] X := by
    rw [← hW]
    exact (((hO).alloc' _ (w.heap.size) (by simp)).alloc' _ (w.heap.size + 1) (by simp)).alloc' _ (w.heap.size + 1 + 1) (by simp)
  clear hW hO
  generalize w.heap.size + 1 + 1 = B1_2 at hN ⊢
  generalize w.heap.size + 1 = B1_1 at hN ⊢
  generalize w.heap.size = B1 at hN ⊢
  have hO := hN
  clear hN
  have z9_1_0 : W2.cell? ⟨B1_1, 0, none⟩ = some (.iface 209 (.pointer (some ⟨d, 0, none⟩))) := hO.cell 1 rfl 0 rfl
  have z9_1_1 : W2.cell? ⟨B1_1, 1, none⟩ = some (.int .i32 loc) := hO.cell 1 rfl 1 rfl
  refine bodyPost_ret (v := .tuple #[.agg #[.iface 209 (.pointer (some ⟨d, 0, none⟩)), .int .i32 loc], .bool false]) ?_ rfl ⟨rfl, hO.sub [3, 4] (by decide)⟩
  simp [results, Tryd.results35, go_sem, z9_1_0, z9_1_1]
def dasgXnil5Post (pb : Nat) (PC : Array Value) (mp cr : Nat) (r s : Bool) (d : Nat) (loc tl : Int) (gx : Nat) (w0 : World) (X : Nat → Obj → Prop) (e : Ending) (w' : World) : Prop :=
  e = .returned (.tuple #[.agg #[.iface 209 (.pointer (some ⟨d, 0, none⟩)), .int .i32 loc], .bool false]) ∧ Own w0 w' [row (pb) 206 PC, row (d) 211 #[.nilIface, .int .i32 tl, .iface 50 (.pointer (some ⟨gx, 0, none⟩)), .int .i32 loc, .int .i32 0, .int .u8 0, .bool false, .bool false, .bool false]] X
set_option maxRecDepth 100000 in
set_option maxHeartbeats 1000000 in
theorem dasgXnil5 (pb : Nat) (PC : Array Value) (mp cr : Nat) (r s : Bool) (d : Nat) (loc tl : Int) (gx : Nat) (w0 w : World) (X : Nat → Obj → Prop) (hO : Own w0 w [row (pb) 206 PC, row (d) 211 #[.nilIface, .int .i32 tl, .iface 50 (.pointer (some ⟨gx, 0, none⟩)), .int .i32 loc, .int .i32 0, .int .u8 0, .bool false, .bool false, .bool false]] X) (hD : Dead PC mp cr r s) (hl : PC[338]? = some (.bool true)) :
    Calls Tryd.prog 14 #[.pointer (some ⟨pb, 0, none⟩), .agg #[.iface 209 (.pointer (some ⟨d, 0, none⟩)), .int .i32 loc]] w (dasgXnil5Post pb PC mp cr r s d loc tl gx w0 X) := by
  go_enter Tryd.func14, Tryd.ntmps14
  have c9_0_32 : w.cell? ⟨pb, 32, none⟩ = some (.bool false) := hO.cell 0 rfl 32 (hD.ts)
  have c9_0_95 : w.cell? ⟨pb, 95, none⟩ = some (.bool r) := hO.cell 0 rfl 95 (hD.rep)
  have c9_0_96 : w.cell? ⟨pb, 96, none⟩ = some (.bool s) := hO.cell 0 rfl 96 (hD.stat)
  have c9_0_97 : w.cell? ⟨pb, 97, none⟩ = some (.pointer (some ⟨cr, 0, none⟩)) := hO.cell 0 rfl 97 (hD.cls)
  have c9_0_117 : w.cell? ⟨pb, 117, none⟩ = some (.map (some mp)) := hO.cell 0 rfl 117 (hD.imp)
  have c9_0_338 : w.cell? ⟨pb, 338, none⟩ = some (.bool true) := hO.cell 0 rfl 338 (hl)
  have c9_0_350 : w.cell? ⟨pb, 350, none⟩ = some (.bool true) := hO.cell 0 rfl 350 (hD.dead)
  have lt9_0 : pb < w.heap.size := hO.lt 0 rfl
  have y9_0 : ∀ o, w.frozen? ⟨pb, o, none⟩ = false := hO.free 0 rfl
  obtain ⟨c9_1_0, c9_1_1, c9_1_2, c9_1_3, c9_1_4, c9_1_5, c9_1_6, c9_1_7, c9_1_8, lt9_1, y9_1, -⟩ := hO.k9 1 rfl
  have HO := Lib.hid hO
  clear hO
  go_wp2_with (first | (go_at_call 34; go_in) | (go_at_call 30; go_in) | (go_at_call 31; go_in) | (go_at_call 32; go_in) | (go_at_call 12; go_in) | (go_at_call 10; go_in) | (go_at_call 9; go_in) | (go_at_call 7; go_in))
  have hO := HO.out
  clear HO c9_0_32 c9_0_95 c9_0_96 c9_0_97 c9_0_117 c9_0_338 c9_0_350 lt9_0 y9_0 c9_1_0 c9_1_1 c9_1_2 c9_1_3 c9_1_4 c9_1_5 c9_1_6 c9_1_7 c9_1_8 lt9_1 y9_1
  generalize hW : World.alloc _ _ = W2
  have hN : Own w0 W2 [row (w.heap.size + 1) 30 #[.nilIface, .int .i32 0], row (w.heap.size) 30 #[.iface 209 (.pointer (some ⟨d, 0, none⟩)), .int .i32 loc], row (pb) 206 PC, row (d) 211 #[.nilIface, .int .i32 tl, .iface 50 (.pointer (some ⟨gx, 0, none⟩)), .int .i32 loc, .int .i32 0, .int .u8 0, .bool false, .bool false, .bool false]] X := by
    rw [← hW]
    exact ((hO).alloc' _ (w.heap.size) (by simp)).alloc' _ (w.heap.size + 1) (by simp)
  clear hW hO
  generalize w.heap.size + 1 = B1_1 at hN ⊢
  generalize w.heap.size = B1 at hN ⊢
  have hO := hN
  clear hN
  have hL := hO.apart
  have hX := hO.apartX
  have HL := Lib.hid hL
  have HX := Lib.hid hX
  clear hL hX
  have hP9 := hO.pick [2, 3] (by decide)
  have T9 := asgXnil5 pb PC mp cr r s d loc tl gx _ _ _ hP9 hD hl
  refine Calls.mono T9 ?_
  clear hP9 T9
  rintro e u3 ⟨rfl, hQ⟩
  have hN : Own w0 u3 [row (pb) 206 PC, row (d) 211 #[.nilIface, .int .i32 tl, .iface 50 (.pointer (some ⟨gx, 0, none⟩)), .int .i32 loc, .int .i32 0, .int .u8 0, .bool false, .bool false, .bool false], row (B1_1) 30 #[.nilIface, .int .i32 0], row (B1) 30 #[.iface 209 (.pointer (some ⟨d, 0, none⟩)), .int .i32 loc]] X := hQ.back HL.out HX.out [0, 1] (by decide) (by decide)
  clear hQ HL HX hO
  have hO := hN
  clear hN
  have c9_0_32 : u3.cell? ⟨pb, 32, none⟩ = some (.bool false) := hO.cell 0 rfl 32 (hD.ts)
  have c9_0_95 : u3.cell? ⟨pb, 95, none⟩ = some (.bool r) := hO.cell 0 rfl 95 (hD.rep)
  have c9_0_96 : u3.cell? ⟨pb, 96, none⟩ = some (.bool s) := hO.cell 0 rfl 96 (hD.stat)
  have c9_0_97 : u3.cell? ⟨pb, 97, none⟩ = some (.pointer (some ⟨cr, 0, none⟩)) := hO.cell 0 rfl 97 (hD.cls)
  have c9_0_117 : u3.cell? ⟨pb, 117, none⟩ = some (.map (some mp)) := hO.cell 0 rfl 117 (hD.imp)
  have c9_0_338 : u3.cell? ⟨pb, 338, none⟩ = some (.bool true) := hO.cell 0 rfl 338 (hl)
  have c9_0_350 : u3.cell? ⟨pb, 350, none⟩ = some (.bool true) := hO.cell 0 rfl 350 (hD.dead)
  have lt9_0 : pb < u3.heap.size := hO.lt 0 rfl
  have y9_0 : ∀ o, u3.frozen? ⟨pb, o, none⟩ = false := hO.free 0 rfl
  obtain ⟨c9_1_0, c9_1_1, c9_1_2, c9_1_3, c9_1_4, c9_1_5, c9_1_6, c9_1_7, c9_1_8, lt9_1, y9_1, -⟩ := hO.k9 1 rfl
  obtain ⟨c9_2_0, c9_2_1, lt9_2, y9_2, -⟩ := hO.k2 2 rfl
  obtain ⟨c9_3_0, c9_3_1, lt9_3, y9_3, -⟩ := hO.k2 3 rfl
  have HO := Lib.hid hO
  clear hO
  go_wp2_with (first | (go_at_call 34; go_in) | (go_at_call 30; go_in) | (go_at_call 31; go_in) | (go_at_call 32; go_in) | (go_at_call 12; go_in) | (go_at_call 10; go_in) | (go_at_call 9; go_in) | (go_at_call 7; go_in))
  have hO := HO.out
  clear HO c9_0_32 c9_0_95 c9_0_96 c9_0_97 c9_0_117 c9_0_338 c9_0_350 lt9_0 y9_0 c9_1_0 c9_1_1 c9_1_2 c9_1_3 c9_1_4 c9_1_5 c9_1_6 c9_1_7 c9_1_8 lt9_1 y9_1 c9_2_0 c9_2_1 lt9_2 y9_2 c9_3_0 c9_3_1 lt9_3 y9_3
  generalize hW : World.setCell _ _ _ = W5
  have hN : Own w0 W5 [row (pb) 206 PC, row (d) 211 #[.nilIface, .int .i32 tl, .iface 50 (.pointer (some ⟨gx, 0, none⟩)), .int .i32 loc, .int .i32 0, .int .u8 0, .bool false, .bool false, .bool false], row (B1_1) 30 #[.iface 209 (.pointer (some ⟨d, 0, none⟩)), .int .i32 loc], row (B1) 30 #[.iface 209 (.pointer (some ⟨d, 0, none⟩)), .int .i32 loc]] X := by
    rw [← hW]
    exact ((hO).set 2 rfl 0 _).set 2 rfl 1 _
  clear hW hO
  have hO := hN
  clear hN
  have z9_2_0 : W5.cell? ⟨B1_1, 0, none⟩ = some (.iface 209 (.pointer (some ⟨d, 0, none⟩))) := hO.cell 2 rfl 0 rfl
  have z9_2_1 : W5.cell? ⟨B1_1, 1, none⟩ = some (.int .i32 loc) := hO.cell 2 rfl 1 rfl
  refine bodyPost_ret (v := .tuple #[.agg #[.iface 209 (.pointer (some ⟨d, 0, none⟩)), .int .i32 loc], .bool false]) ?_ rfl ⟨rfl, hO.sub [0, 1] (by decide)⟩
  simp [results, Tryd.results14, go_sem, z9_2_0, z9_2_1]
end Go.Proofs.YtcbdjbjbikiaeaaDoor.Use
