/- The doors of AsgYes. No condition. -/
import Derived.Test.YtcbdjbjbikiaeaaDoorOwnK
import Derived.Test.YtcbdjbjbikiaeaaDoorOwn
import Derived.Test.YtcbdjbjbikiaeaaDoorDeepCells
import Derived.Test.YtcbdjbjbikiaeaaDoorRows
import Derived.Test.YtcbdjbjbikiaeaaDoorDead
import Derived.Test.YtcbdjbjbikiaeaaDoorNew
import Derived.Test.YtcbdjbjbikiaeaaDoorNewL
import Derived.Test.YtcbdjbjbikiaeaaDoorStr
import Derived.Test.YtcbdjbjbikiaeaaDoorStrX
import Derived.Test.YtcbdjbjbikiaeaaDoorAsgYes0
import Derived.Test.YtcbdjbjbikiaeaaDoorAsgYes1
namespace Go.Proofs.YtcbdjbjbikiaeaaDoor.Use
open Go.ChangeShapes Go.WideShapes Go.ChangeAt Go.RowKit Go.Sort Own
set_option linter.unusedVariables false
def dasgDyniPost (pb : Nat) (PC : Array Value) (mp cr d : Nat) (loc : Int) (kx : Nat) (nm : ByteArray) (w0 : World) (X : Nat → Obj → Prop) (e : Ending) (w' : World) : Prop :=
  ∃ dd : Nat, e = .returned (.tuple #[.agg #[.iface 40 (.pointer (some ⟨dd, 0, none⟩)), .int .i32 loc], .bool true]) ∧ Own w0 w' [row (pb) 206 PC, (mp, .map map3 3), row (cr) 68 #[.int .u32 0, .int .u32 1]] X
set_option maxRecDepth 100000 in
set_option maxHeartbeats 1000000 in
theorem dasgDyni (pb : Nat) (PC : Array Value) (mp cr d : Nat) (loc : Int) (kx : Nat) (nm : ByteArray) (w0 w : World) (X : Nat → Obj → Prop) (hO : Own w0 w [row (pb) 206 PC, (mp, .map map3 3), row (cr) 68 #[.int .u32 0, .int .u32 1], row (d) 44 #[.iface 244 (.pointer (some ⟨kx, 0, none⟩)), .int .i32 loc, .string nm, .int .i32 loc, .int .u8 0, .bool false, .bool false, .bool false]] X) (hD : Dead PC mp cr false false) (hl : PC[338]? = some (.bool true)) (hlen : nm.size ≤ 1048576) :
    Calls Tryd.prog 14 #[.pointer (some ⟨pb, 0, none⟩), .agg #[.iface 40 (.pointer (some ⟨d, 0, none⟩)), .int .i32 loc]] w (dasgDyniPost pb PC mp cr d loc kx nm w0 X) := by
  go_enter Tryd.func14, Tryd.ntmps14
  have c9_0_32 : w.cell? ⟨pb, 32, none⟩ = some (.bool false) := hO.cell 0 rfl 32 (hD.ts)
  have c9_0_95 : w.cell? ⟨pb, 95, none⟩ = some (.bool false) := hO.cell 0 rfl 95 (hD.rep)
  have c9_0_96 : w.cell? ⟨pb, 96, none⟩ = some (.bool false) := hO.cell 0 rfl 96 (hD.stat)
  have c9_0_97 : w.cell? ⟨pb, 97, none⟩ = some (.pointer (some ⟨cr, 0, none⟩)) := hO.cell 0 rfl 97 (hD.cls)
  have c9_0_117 : w.cell? ⟨pb, 117, none⟩ = some (.map (some mp)) := hO.cell 0 rfl 117 (hD.imp)
  have c9_0_338 : w.cell? ⟨pb, 338, none⟩ = some (.bool true) := hO.cell 0 rfl 338 (hl)
  have c9_0_350 : w.cell? ⟨pb, 350, none⟩ = some (.bool true) := hO.cell 0 rfl 350 (hD.dead)
  have lt9_0 : pb < w.heap.size := hO.lt 0 rfl
  have y9_0 : ∀ o, w.frozen? ⟨pb, o, none⟩ = false := hO.free 0 rfl
  obtain ⟨c9_2_0, c9_2_1, lt9_2, y9_2, -⟩ := hO.k2 2 rfl
  obtain ⟨c9_3_0, c9_3_1, c9_3_2, c9_3_3, c9_3_4, c9_3_5, c9_3_6, c9_3_7, lt9_3, y9_3, -⟩ := hO.k8 3 rfl
  have HO := Lib.hid hO
  clear hO
  go_wp2_with (first | (go_at_call 34; go_in) | (go_at_call 30; go_in) | (go_at_call 31; go_in) | (go_at_call 32; go_in) | (go_at_call 12; go_in) | (go_at_call 10; go_in) | (go_at_call 9; go_in) | (go_at_call 7; go_in))
  have hO := HO.out
  clear HO c9_0_32 c9_0_95 c9_0_96 c9_0_97 c9_0_117 c9_0_338 c9_0_350 lt9_0 y9_0 c9_2_0 c9_2_1 lt9_2 y9_2 c9_3_0 c9_3_1 c9_3_2 c9_3_3 c9_3_4 c9_3_5 c9_3_6 c9_3_7 lt9_3 y9_3
  generalize hW : World.alloc _ _ = W2
  have hN : Own w0 W2 [row (w.heap.size + 1) 30 #[.nilIface, .int .i32 0], row (w.heap.size) 30 #[.iface 40 (.pointer (some ⟨d, 0, none⟩)), .int .i32 loc], row (pb) 206 PC, (mp, .map map3 3), row (cr) 68 #[.int .u32 0, .int .u32 1], row (d) 44 #[.iface 244 (.pointer (some ⟨kx, 0, none⟩)), .int .i32 loc, .string nm, .int .i32 loc, .int .u8 0, .bool false, .bool false, .bool false]] X := by
    rw [← hW]
    exact ((hO).alloc' _ (w.heap.size) (by simp)).alloc' _ (w.heap.size + 1) (by simp)
  clear hW hO
  generalize w.heap.size + 1 = B1_1 at hN ⊢
  generalize w.heap.size = B1 at hN ⊢
  have hO := hN
  clear hN
  have hL := hO.apart
  have hX := hO.apartX
  have HL := Lib.hid hL
  have HX := Lib.hid hX
  clear hL hX
  have hP9 := hO.pick [2, 3, 4, 5] (by decide)
  have T9 := asgDyni pb PC mp cr d loc kx nm _ _ _ hP9 hD hl hlen
  refine Calls.mono T9 ?_
  clear hP9 T9
  rintro e u3 ⟨nd4, rfl, hQ⟩
  have hN : Own w0 u3 [row (pb) 206 PC, (mp, .map map3 3), row (cr) 68 #[.int .u32 0, .int .u32 1], row (B1_1) 30 #[.nilIface, .int .i32 0], row (B1) 30 #[.iface 40 (.pointer (some ⟨d, 0, none⟩)), .int .i32 loc]] X := hQ.back HL.out HX.out [0, 1] (by decide) (by decide)
  clear hQ HL HX hO
  have hO := hN
  clear hN
  have c9_0_32 : u3.cell? ⟨pb, 32, none⟩ = some (.bool false) := hO.cell 0 rfl 32 (hD.ts)
  have c9_0_95 : u3.cell? ⟨pb, 95, none⟩ = some (.bool false) := hO.cell 0 rfl 95 (hD.rep)
  have c9_0_96 : u3.cell? ⟨pb, 96, none⟩ = some (.bool false) := hO.cell 0 rfl 96 (hD.stat)
  have c9_0_97 : u3.cell? ⟨pb, 97, none⟩ = some (.pointer (some ⟨cr, 0, none⟩)) := hO.cell 0 rfl 97 (hD.cls)
  have c9_0_117 : u3.cell? ⟨pb, 117, none⟩ = some (.map (some mp)) := hO.cell 0 rfl 117 (hD.imp)
  have c9_0_338 : u3.cell? ⟨pb, 338, none⟩ = some (.bool true) := hO.cell 0 rfl 338 (hl)
  have c9_0_350 : u3.cell? ⟨pb, 350, none⟩ = some (.bool true) := hO.cell 0 rfl 350 (hD.dead)
  have lt9_0 : pb < u3.heap.size := hO.lt 0 rfl
  have y9_0 : ∀ o, u3.frozen? ⟨pb, o, none⟩ = false := hO.free 0 rfl
  obtain ⟨c9_2_0, c9_2_1, lt9_2, y9_2, -⟩ := hO.k2 2 rfl
  obtain ⟨c9_3_0, c9_3_1, lt9_3, y9_3, -⟩ := hO.k2 3 rfl
  obtain ⟨c9_4_0, c9_4_1, lt9_4, y9_4, -⟩ := hO.k2 4 rfl
  have HO := Lib.hid hO
  clear hO
  go_wp2_with (first | (go_at_call 34; go_in) | (go_at_call 30; go_in) | (go_at_call 31; go_in) | (go_at_call 32; go_in) | (go_at_call 12; go_in) | (go_at_call 10; go_in) | (go_at_call 9; go_in) | (go_at_call 7; go_in))
  have hO := HO.out
  clear HO c9_0_32 c9_0_95 c9_0_96 c9_0_97 c9_0_117 c9_0_338 c9_0_350 lt9_0 y9_0 c9_2_0 c9_2_1 lt9_2 y9_2 c9_3_0 c9_3_1 lt9_3 y9_3 c9_4_0 c9_4_1 lt9_4 y9_4
  generalize hW : World.setCell _ _ _ = W6
  have hN : Own w0 W6 [row (pb) 206 PC, (mp, .map map3 3), row (cr) 68 #[.int .u32 0, .int .u32 1], row (B1_1) 30 #[.iface 40 (.pointer (some ⟨nd4, 0, none⟩)), .int .i32 loc], row (B1) 30 #[.iface 40 (.pointer (some ⟨d, 0, none⟩)), .int .i32 loc]] X := by
    rw [← hW]
    exact ((hO).set 3 rfl 0 _).set 3 rfl 1 _
  clear hW hO
  have hO := hN
  clear hN
  have z9_3_0 : W6.cell? ⟨B1_1, 0, none⟩ = some (.iface 40 (.pointer (some ⟨nd4, 0, none⟩))) := hO.cell 3 rfl 0 rfl
  have z9_3_1 : W6.cell? ⟨B1_1, 1, none⟩ = some (.int .i32 loc) := hO.cell 3 rfl 1 rfl
  refine bodyPost_ret (v := .tuple #[.agg #[.iface 40 (.pointer (some ⟨nd4, 0, none⟩)), .int .i32 loc], .bool true]) ?_ rfl ⟨nd4, rfl, hO.sub [0, 1, 2] (by decide)⟩
  simp [results, Tryd.results14, go_sem, z9_3_0, z9_3_1]
def dasgXyniPost (pb : Nat) (PC : Array Value) (mp cr d : Nat) (loc : Int) (kx gx : Nat) (w0 : World) (X : Nat → Obj → Prop) (e : Ending) (w' : World) : Prop :=
  ∃ dd : Nat, e = .returned (.tuple #[.agg #[.iface 40 (.pointer (some ⟨dd, 0, none⟩)), .int .i32 loc], .bool true]) ∧ Own w0 w' [row (pb) 206 PC, (mp, .map map3 3), row (cr) 68 #[.int .u32 0, .int .u32 1]] X
set_option maxRecDepth 100000 in
set_option maxHeartbeats 1000000 in
theorem dasgXyni (pb : Nat) (PC : Array Value) (mp cr d : Nat) (loc : Int) (kx gx : Nat) (w0 w : World) (X : Nat → Obj → Prop) (hO : Own w0 w [row (pb) 206 PC, (mp, .map map3 3), row (cr) 68 #[.int .u32 0, .int .u32 1], row (d) 211 #[.iface 244 (.pointer (some ⟨kx, 0, none⟩)), .int .i32 loc, .iface 50 (.pointer (some ⟨gx, 0, none⟩)), .int .i32 loc, .int .i32 0, .int .u8 0, .bool false, .bool false, .bool false]] X) (hD : Dead PC mp cr false false) (hl : PC[338]? = some (.bool true)) :
    Calls Tryd.prog 14 #[.pointer (some ⟨pb, 0, none⟩), .agg #[.iface 209 (.pointer (some ⟨d, 0, none⟩)), .int .i32 loc]] w (dasgXyniPost pb PC mp cr d loc kx gx w0 X) := by
  go_enter Tryd.func14, Tryd.ntmps14
  have c9_0_32 : w.cell? ⟨pb, 32, none⟩ = some (.bool false) := hO.cell 0 rfl 32 (hD.ts)
  have c9_0_95 : w.cell? ⟨pb, 95, none⟩ = some (.bool false) := hO.cell 0 rfl 95 (hD.rep)
  have c9_0_96 : w.cell? ⟨pb, 96, none⟩ = some (.bool false) := hO.cell 0 rfl 96 (hD.stat)
  have c9_0_97 : w.cell? ⟨pb, 97, none⟩ = some (.pointer (some ⟨cr, 0, none⟩)) := hO.cell 0 rfl 97 (hD.cls)
  have c9_0_117 : w.cell? ⟨pb, 117, none⟩ = some (.map (some mp)) := hO.cell 0 rfl 117 (hD.imp)
  have c9_0_338 : w.cell? ⟨pb, 338, none⟩ = some (.bool true) := hO.cell 0 rfl 338 (hl)
  have c9_0_350 : w.cell? ⟨pb, 350, none⟩ = some (.bool true) := hO.cell 0 rfl 350 (hD.dead)
  have lt9_0 : pb < w.heap.size := hO.lt 0 rfl
  have y9_0 : ∀ o, w.frozen? ⟨pb, o, none⟩ = false := hO.free 0 rfl
  obtain ⟨c9_2_0, c9_2_1, lt9_2, y9_2, -⟩ := hO.k2 2 rfl
  obtain ⟨c9_3_0, c9_3_1, c9_3_2, c9_3_3, c9_3_4, c9_3_5, c9_3_6, c9_3_7, c9_3_8, lt9_3, y9_3, -⟩ := hO.k9 3 rfl
  have HO := Lib.hid hO
  clear hO
  go_wp2_with (first | (go_at_call 34; go_in) | (go_at_call 30; go_in) | (go_at_call 31; go_in) | (go_at_call 32; go_in) | (go_at_call 12; go_in) | (go_at_call 10; go_in) | (go_at_call 9; go_in) | (go_at_call 7; go_in))
  have hO := HO.out
  clear HO c9_0_32 c9_0_95 c9_0_96 c9_0_97 c9_0_117 c9_0_338 c9_0_350 lt9_0 y9_0 c9_2_0 c9_2_1 lt9_2 y9_2 c9_3_0 c9_3_1 c9_3_2 c9_3_3 c9_3_4 c9_3_5 c9_3_6 c9_3_7 c9_3_8 lt9_3 y9_3
  generalize hW : World.alloc _ _ = W2
  have hN : Own w0 W2 [row (w.heap.size + 1) 30 #[.nilIface, .int .i32 0], row (w.heap.size) 30 #[.iface 209 (.pointer (some ⟨d, 0, none⟩)), .int .i32 loc], row (pb) 206 PC, (mp, .map map3 3), row (cr) 68 #[.int .u32 0, .int .u32 1], row (d) 211 #[.iface 244 (.pointer (some ⟨kx, 0, none⟩)), .int .i32 loc, .iface 50 (.pointer (some ⟨gx, 0, none⟩)), .int .i32 loc, .int .i32 0, .int .u8 0, .bool false, .bool false, .bool false]] X := by
    rw [← hW]
    exact ((hO).alloc' _ (w.heap.size) (by simp)).alloc' _ (w.heap.size + 1) (by simp)
  clear hW hO
  generalize w.heap.size + 1 = B1_1 at hN ⊢
  generalize w.heap.size = B1 at hN ⊢
  have hO := hN
  clear hN
  have hL := hO.apart
  have hX := hO.apartX
  have HL := Lib.hid hL
  have HX := Lib.hid hX
  clear hL hX
  have hP9 := hO.pick [2, 3, 4, 5] (by decide)
  have T9 := asgXyni pb PC mp cr d loc kx gx _ _ _ hP9 hD hl
  refine Calls.mono T9 ?_
  clear hP9 T9
  rintro e u3 ⟨nd4, rfl, hQ⟩
  have hN : Own w0 u3 [row (pb) 206 PC, (mp, .map map3 3), row (cr) 68 #[.int .u32 0, .int .u32 1], row (B1_1) 30 #[.nilIface, .int .i32 0], row (B1) 30 #[.iface 209 (.pointer (some ⟨d, 0, none⟩)), .int .i32 loc]] X := hQ.back HL.out HX.out [0, 1] (by decide) (by decide)
  clear hQ HL HX hO
  have hO := hN
  clear hN
  have c9_0_32 : u3.cell? ⟨pb, 32, none⟩ = some (.bool false) := hO.cell 0 rfl 32 (hD.ts)
  have c9_0_95 : u3.cell? ⟨pb, 95, none⟩ = some (.bool false) := hO.cell 0 rfl 95 (hD.rep)
  have c9_0_96 : u3.cell? ⟨pb, 96, none⟩ = some (.bool false) := hO.cell 0 rfl 96 (hD.stat)
  have c9_0_97 : u3.cell? ⟨pb, 97, none⟩ = some (.pointer (some ⟨cr, 0, none⟩)) := hO.cell 0 rfl 97 (hD.cls)
  have c9_0_117 : u3.cell? ⟨pb, 117, none⟩ = some (.map (some mp)) := hO.cell 0 rfl 117 (hD.imp)
  have c9_0_338 : u3.cell? ⟨pb, 338, none⟩ = some (.bool true) := hO.cell 0 rfl 338 (hl)
  have c9_0_350 : u3.cell? ⟨pb, 350, none⟩ = some (.bool true) := hO.cell 0 rfl 350 (hD.dead)
  have lt9_0 : pb < u3.heap.size := hO.lt 0 rfl
  have y9_0 : ∀ o, u3.frozen? ⟨pb, o, none⟩ = false := hO.free 0 rfl
  obtain ⟨c9_2_0, c9_2_1, lt9_2, y9_2, -⟩ := hO.k2 2 rfl
  obtain ⟨c9_3_0, c9_3_1, lt9_3, y9_3, -⟩ := hO.k2 3 rfl
  obtain ⟨c9_4_0, c9_4_1, lt9_4, y9_4, -⟩ := hO.k2 4 rfl
  have HO := Lib.hid hO
  clear hO
  go_wp2_with (first | (go_at_call 34; go_in) | (go_at_call 30; go_in) | (go_at_call 31; go_in) | (go_at_call 32; go_in) | (go_at_call 12; go_in) | (go_at_call 10; go_in) | (go_at_call 9; go_in) | (go_at_call 7; go_in))
  have hO := HO.out
  clear HO c9_0_32 c9_0_95 c9_0_96 c9_0_97 c9_0_117 c9_0_338 c9_0_350 lt9_0 y9_0 c9_2_0 c9_2_1 lt9_2 y9_2 c9_3_0 c9_3_1 lt9_3 y9_3 c9_4_0 c9_4_1 lt9_4 y9_4
  generalize hW : World.setCell _ _ _ = W6
  have hN : Own w0 W6 [row (pb) 206 PC, (mp, .map map3 3), row (cr) 68 #[.int .u32 0, .int .u32 1], row (B1_1) 30 #[.iface 40 (.pointer (some ⟨nd4, 0, none⟩)), .int .i32 loc], row (B1) 30 #[.iface 209 (.pointer (some ⟨d, 0, none⟩)), .int .i32 loc]] X := by
    rw [← hW]
    exact ((hO).set 3 rfl 0 _).set 3 rfl 1 _
  clear hW hO
  have hO := hN
  clear hN
  have z9_3_0 : W6.cell? ⟨B1_1, 0, none⟩ = some (.iface 40 (.pointer (some ⟨nd4, 0, none⟩))) := hO.cell 3 rfl 0 rfl
  have z9_3_1 : W6.cell? ⟨B1_1, 1, none⟩ = some (.int .i32 loc) := hO.cell 3 rfl 1 rfl
  refine bodyPost_ret (v := .tuple #[.agg #[.iface 40 (.pointer (some ⟨nd4, 0, none⟩)), .int .i32 loc], .bool true]) ?_ rfl ⟨nd4, rfl, hO.sub [0, 1, 2] (by decide)⟩
  simp [results, Tryd.results14, go_sem, z9_3_0, z9_3_1]
def dasgDynsPost (pb : Nat) (PC : Array Value) (mp cr d : Nat) (loc : Int) (kx : Nat) (nm : ByteArray) (w0 : World) (X : Nat → Obj → Prop) (e : Ending) (w' : World) : Prop :=
  ∃ dd : Nat, e = .returned (.tuple #[.agg #[.iface 40 (.pointer (some ⟨dd, 0, none⟩)), .int .i32 loc], .bool true]) ∧ Own w0 w' [row (pb) 206 PC, (mp, .map map3 3), row (cr) 68 #[.int .u32 0, .int .u32 1]] X
set_option maxRecDepth 100000 in
set_option maxHeartbeats 1000000 in
theorem dasgDyns (pb : Nat) (PC : Array Value) (mp cr d : Nat) (loc : Int) (kx : Nat) (nm : ByteArray) (w0 w : World) (X : Nat → Obj → Prop) (hO : Own w0 w [row (pb) 206 PC, (mp, .map map3 3), row (cr) 68 #[.int .u32 0, .int .u32 1], row (d) 44 #[.iface 244 (.pointer (some ⟨kx, 0, none⟩)), .int .i32 loc, .string nm, .int .i32 loc, .int .u8 0, .bool false, .bool false, .bool false]] X) (hD : Dead PC mp cr false true) (hl : PC[338]? = some (.bool true)) (hlen : nm.size ≤ 1048576) :
    Calls Tryd.prog 14 #[.pointer (some ⟨pb, 0, none⟩), .agg #[.iface 40 (.pointer (some ⟨d, 0, none⟩)), .int .i32 loc]] w (dasgDynsPost pb PC mp cr d loc kx nm w0 X) := by
  go_enter Tryd.func14, Tryd.ntmps14
  have c9_0_32 : w.cell? ⟨pb, 32, none⟩ = some (.bool false) := hO.cell 0 rfl 32 (hD.ts)
  have c9_0_95 : w.cell? ⟨pb, 95, none⟩ = some (.bool false) := hO.cell 0 rfl 95 (hD.rep)
  have c9_0_96 : w.cell? ⟨pb, 96, none⟩ = some (.bool true) := hO.cell 0 rfl 96 (hD.stat)
  have c9_0_97 : w.cell? ⟨pb, 97, none⟩ = some (.pointer (some ⟨cr, 0, none⟩)) := hO.cell 0 rfl 97 (hD.cls)
  have c9_0_117 : w.cell? ⟨pb, 117, none⟩ = some (.map (some mp)) := hO.cell 0 rfl 117 (hD.imp)
  have c9_0_338 : w.cell? ⟨pb, 338, none⟩ = some (.bool true) := hO.cell 0 rfl 338 (hl)
  have c9_0_350 : w.cell? ⟨pb, 350, none⟩ = some (.bool true) := hO.cell 0 rfl 350 (hD.dead)
  have lt9_0 : pb < w.heap.size := hO.lt 0 rfl
  have y9_0 : ∀ o, w.frozen? ⟨pb, o, none⟩ = false := hO.free 0 rfl
  obtain ⟨c9_2_0, c9_2_1, lt9_2, y9_2, -⟩ := hO.k2 2 rfl
  obtain ⟨c9_3_0, c9_3_1, c9_3_2, c9_3_3, c9_3_4, c9_3_5, c9_3_6, c9_3_7, lt9_3, y9_3, -⟩ := hO.k8 3 rfl
  have HO := Lib.hid hO
  clear hO
  go_wp2_with (first | (go_at_call 34; go_in) | (go_at_call 30; go_in) | (go_at_call 31; go_in) | (go_at_call 32; go_in) | (go_at_call 12; go_in) | (go_at_call 10; go_in) | (go_at_call 9; go_in) | (go_at_call 7; go_in))
  have hO := HO.out
  clear HO c9_0_32 c9_0_95 c9_0_96 c9_0_97 c9_0_117 c9_0_338 c9_0_350 lt9_0 y9_0 c9_2_0 c9_2_1 lt9_2 y9_2 c9_3_0 c9_3_1 c9_3_2 c9_3_3 c9_3_4 c9_3_5 c9_3_6 c9_3_7 lt9_3 y9_3
  generalize hW : World.alloc _ _ = W2
  have hN : Own w0 W2 [row (w.heap.size + 1) 30 #[.nilIface, .int .i32 0], row (w.heap.size) 30 #[.iface 40 (.pointer (some ⟨d, 0, none⟩)), .int .i32 loc], row (pb) 206 PC, (mp, .map map3 3), row (cr) 68 #[.int .u32 0, .int .u32 1], row (d) 44 #[.iface 244 (.pointer (some ⟨kx, 0, none⟩)), .int .i32 loc, .string nm, .int .i32 loc, .int .u8 0, .bool false, .bool false, .bool false]] X := by
    rw [← hW]
    exact ((hO).alloc' _ (w.heap.size) (by simp)).alloc' _ (w.heap.size + 1) (by simp)
  clear hW hO
  generalize w.heap.size + 1 = B1_1 at hN ⊢
  generalize w.heap.size = B1 at hN ⊢
  have hO := hN
  clear hN
  have hL := hO.apart
  have hX := hO.apartX
  have HL := Lib.hid hL
  have HX := Lib.hid hX
  clear hL hX
  have hP9 := hO.pick [2, 3, 4, 5] (by decide)
  have T9 := asgDyns pb PC mp cr d loc kx nm _ _ _ hP9 hD hl hlen
  refine Calls.mono T9 ?_
  clear hP9 T9
  rintro e u3 ⟨nd4, rfl, hQ⟩
  have hN : Own w0 u3 [row (pb) 206 PC, (mp, .map map3 3), row (cr) 68 #[.int .u32 0, .int .u32 1], row (B1_1) 30 #[.nilIface, .int .i32 0], row (B1) 30 #[.iface 40 (.pointer (some ⟨d, 0, none⟩)), .int .i32 loc]] X := hQ.back HL.out HX.out [0, 1] (by decide) (by decide)
  clear hQ HL HX hO
  have hO := hN
  clear hN
  have c9_0_32 : u3.cell? ⟨pb, 32, none⟩ = some (.bool false) := hO.cell 0 rfl 32 (hD.ts)
  have c9_0_95 : u3.cell? ⟨pb, 95, none⟩ = some (.bool false) := hO.cell 0 rfl 95 (hD.rep)
  have c9_0_96 : u3.cell? ⟨pb, 96, none⟩ = some (.bool true) := hO.cell 0 rfl 96 (hD.stat)
  have c9_0_97 : u3.cell? ⟨pb, 97, none⟩ = some (.pointer (some ⟨cr, 0, none⟩)) := hO.cell 0 rfl 97 (hD.cls)
  have c9_0_117 : u3.cell? ⟨pb, 117, none⟩ = some (.map (some mp)) := hO.cell 0 rfl 117 (hD.imp)
  have c9_0_338 : u3.cell? ⟨pb, 338, none⟩ = some (.bool true) := hO.cell 0 rfl 338 (hl)
  have c9_0_350 : u3.cell? ⟨pb, 350, none⟩ = some (.bool true) := hO.cell 0 rfl 350 (hD.dead)
  have lt9_0 : pb < u3.heap.size := hO.lt 0 rfl
  have y9_0 : ∀ o, u3.frozen? ⟨pb, o, none⟩ = false := hO.free 0 rfl
  obtain ⟨c9_2_0, c9_2_1, lt9_2, y9_2, -⟩ := hO.k2 2 rfl
  obtain ⟨c9_3_0, c9_3_1, lt9_3, y9_3, -⟩ := hO.k2 3 rfl
  obtain ⟨c9_4_0, c9_4_1, lt9_4, y9_4, -⟩ := hO.k2 4 rfl
  have HO := Lib.hid hO
  clear hO
  go_wp2_with (first | (go_at_call 34; go_in) | (go_at_call 30; go_in) | (go_at_call 31; go_in) | (go_at_call 32; go_in) | (go_at_call 12; go_in) | (go_at_call 10; go_in) | (go_at_call 9; go_in) | (go_at_call 7; go_in))
  have hO := HO.out
  clear HO c9_0_32 c9_0_95 c9_0_96 c9_0_97 c9_0_117 c9_0_338 c9_0_350 lt9_0 y9_0 c9_2_0 c9_2_1 lt9_2 y9_2 c9_3_0 c9_3_1 lt9_3 y9_3 c9_4_0 c9_4_1 lt9_4 y9_4
  generalize hW : World.setCell _ _ _ = W6
  have hN : Own w0 W6 [row (pb) 206 PC, (mp, .map map3 3), row (cr) 68 #[.int .u32 0, .int .u32 1], row (B1_1) 30 #[.iface 40 (.pointer (some ⟨nd4, 0, none⟩)), .int .i32 loc], row (B1) 30 #[.iface 40 (.pointer (some ⟨d, 0, none⟩)), .int .i32 loc]] X := by
    rw [← hW]
    exact ((hO).set 3 rfl 0 _).set 3 rfl 1 _
  clear hW hO
  have hO := hN
  clear hN
  have z9_3_0 : W6.cell? ⟨B1_1, 0, none⟩ = some (.iface 40 (.pointer (some ⟨nd4, 0, none⟩))) := hO.cell 3 rfl 0 rfl
  have z9_3_1 : W6.cell? ⟨B1_1, 1, none⟩ = some (.int .i32 loc) := hO.cell 3 rfl 1 rfl
  refine bodyPost_ret (v := .tuple #[.agg #[.iface 40 (.pointer (some ⟨nd4, 0, none⟩)), .int .i32 loc], .bool true]) ?_ rfl ⟨nd4, rfl, hO.sub [0, 1, 2] (by decide)⟩
  simp [results, Tryd.results14, go_sem, z9_3_0, z9_3_1]
def dasgXynsPost (pb : Nat) (PC : Array Value) (mp cr d : Nat) (loc : Int) (kx gx : Nat) (w0 : World) (X : Nat → Obj → Prop) (e : Ending) (w' : World) : Prop :=
  ∃ dd : Nat, e = .returned (.tuple #[.agg #[.iface 40 (.pointer (some ⟨dd, 0, none⟩)), .int .i32 loc], .bool true]) ∧ Own w0 w' [row (pb) 206 PC, (mp, .map map3 3), row (cr) 68 #[.int .u32 0, .int .u32 1]] X
set_option maxRecDepth 100000 in
set_option maxHeartbeats 1000000 in
theorem dasgXyns (pb : Nat) (PC : Array Value) (mp cr d : Nat) (loc : Int) (kx gx : Nat) (w0 w : World) (X : Nat → Obj → Prop) (hO : Own w0 w [row (pb) 206 PC, (mp, .map map3 3), row (cr) 68 #[.int .u32 0, .int .u32 1], row (d) 211 #[.iface 244 (.pointer (some ⟨kx, 0, none⟩)), .int .i32 loc, .iface 50 (.pointer (some ⟨gx, 0, none⟩)), .int .i32 loc, .int .i32 0, .int .u8 0, .bool false, .bool false, .bool false]] X) (hD : Dead PC mp cr false true) (hl : PC[338]? = some (.bool true)) :
    Calls Tryd.prog 14 #[.pointer (some ⟨pb, 0, none⟩), .agg #[.iface 209 (.pointer (some ⟨d, 0, none⟩)), .int .i32 loc]] w (dasgXynsPost pb PC mp cr d loc kx gx w0 X) := by
  go_enter Tryd.func14, Tryd.ntmps14
  have c9_0_32 : w.cell? ⟨pb, 32, none⟩ = some (.bool false) := hO.cell 0 rfl 32 (hD.ts)
  have c9_0_95 : w.cell? ⟨pb, 95, none⟩ = some (.bool false) := hO.cell 0 rfl 95 (hD.rep)
  have c9_0_96 : w.cell? ⟨pb, 96, none⟩ = some (.bool true) := hO.cell 0 rfl 96 (hD.stat)
  have c9_0_97 : w.cell? ⟨pb, 97, none⟩ = some (.pointer (some ⟨cr, 0, none⟩)) := hO.cell 0 rfl 97 (hD.cls)
  have c9_0_117 : w.cell? ⟨pb, 117, none⟩ = some (.map (some mp)) := hO.cell 0 rfl 117 (hD.imp)
  have c9_0_338 : w.cell? ⟨pb, 338, none⟩ = some (.bool true) := hO.cell 0 rfl 338 (hl)
  have c9_0_350 : w.cell? ⟨pb, 350, none⟩ = some (.bool true) := hO.cell 0 rfl 350 (hD.dead)
  have lt9_0 : pb < w.heap.size := hO.lt 0 rfl
  have y9_0 : ∀ o, w.frozen? ⟨pb, o, none⟩ = false := hO.free 0 rfl
  obtain ⟨c9_2_0, c9_2_1, lt9_2, y9_2, -⟩ := hO.k2 2 rfl
  obtain ⟨c9_3_0, c9_3_1, c9_3_2, c9_3_3, c9_3_4, c9_3_5, c9_3_6, c9_3_7, c9_3_8, lt9_3, y9_3, -⟩ := hO.k9 3 rfl
  have HO := Lib.hid hO
  clear hO
  go_wp2_with (first | (go_at_call 34; go_in) | (go_at_call 30; go_in) | (go_at_call 31; go_in) | (go_at_call 32; go_in) | (go_at_call 12; go_in) | (go_at_call 10; go_in) | (go_at_call 9; go_in) | (go_at_call 7; go_in))
  have hO := HO.out
  clear HO c9_0_32 c9_0_95 c9_0_96 c9_0_97 c9_0_117 c9_0_338 c9_0_350 lt9_0 y9_0 c9_2_0 c9_2_1 lt9_2 y9_2 c9_3_0 c9_3_1 c9_3_2 c9_3_3 c9_3_4 c9_3_5 c9_3_6 c9_3_7 c9_3_8 lt9_3 y9_3
  generalize hW : World.alloc _ _ = W2
  have hN : Own w0 W2 [row (w.heap.size + 1) 30 #[.nilIface, .int .i32 0], row (w.heap.size) 30 #[.iface 209 (.pointer (some ⟨d, 0, none⟩)), .int .i32 loc], row (pb) 206 PC, (mp, .map map3 3), row (cr) 68 #[.int .u32 0, .int .u32 1], row (d) 211 #[.iface 244 (.pointer (some ⟨kx, 0, none⟩)), .int .i32 loc, .iface 50 (.pointer (some ⟨gx, 0, none⟩)), .int .i32 loc, .int .i32 0, .int .u8 0, .bool false, .bool false, .bool false]] X := by
    rw [← hW]
    exact ((hO).alloc' _ (w.heap.size) (by simp)).alloc' _ (w.heap.size + 1) (by simp)
  clear hW hO
  generalize w.heap.size + 1 = B1_1 at hN ⊢
  generalize w.heap.size = B1 at hN ⊢
  have hO := hN
  clear hN
  have hL := hO.apart
  have hX := hO.apartX
  have HL := Lib.hid hL
  have HX := Lib.hid hX
  clear hL hX
  have hP9 := hO.pick [2, 3, 4, 5] (by decide)
  have T9 := asgXyns pb PC mp cr d loc kx gx _ _ _ hP9 hD hl
  refine Calls.mono T9 ?_
  clear hP9 T9
  rintro e u3 ⟨nd4, rfl, hQ⟩
  have hN : Own w0 u3 [row (pb) 206 PC, (mp, .map map3 3), row (cr) 68 #[.int .u32 0, .int .u32 1], row (B1_1) 30 #[.nilIface, .int .i32 0], row (B1) 30 #[.iface 209 (.pointer (some ⟨d, 0, none⟩)), .int .i32 loc]] X := hQ.back HL.out HX.out [0, 1] (by decide) (by decide)
  clear hQ HL HX hO
  have hO := hN
  clear hN
  have c9_0_32 : u3.cell? ⟨pb, 32, none⟩ = some (.bool false) := hO.cell 0 rfl 32 (hD.ts)
  have c9_0_95 : u3.cell? ⟨pb, 95, none⟩ = some (.bool false) := hO.cell 0 rfl 95 (hD.rep)
  have c9_0_96 : u3.cell? ⟨pb, 96, none⟩ = some (.bool true) := hO.cell 0 rfl 96 (hD.stat)
  have c9_0_97 : u3.cell? ⟨pb, 97, none⟩ = some (.pointer (some ⟨cr, 0, none⟩)) := hO.cell 0 rfl 97 (hD.cls)
  have c9_0_117 : u3.cell? ⟨pb, 117, none⟩ = some (.map (some mp)) := hO.cell 0 rfl 117 (hD.imp)
  have c9_0_338 : u3.cell? ⟨pb, 338, none⟩ = some (.bool true) := hO.cell 0 rfl 338 (hl)
  have c9_0_350 : u3.cell? ⟨pb, 350, none⟩ = some (.bool true) := hO.cell 0 rfl 350 (hD.dead)
  have lt9_0 : pb < u3.heap.size := hO.lt 0 rfl
  have y9_0 : ∀ o, u3.frozen? ⟨pb, o, none⟩ = false := hO.free 0 rfl
  obtain ⟨c9_2_0, c9_2_1, lt9_2, y9_2, -⟩ := hO.k2 2 rfl
  obtain ⟨c9_3_0, c9_3_1, lt9_3, y9_3, -⟩ := hO.k2 3 rfl
  obtain ⟨c9_4_0, c9_4_1, lt9_4, y9_4, -⟩ := hO.k2 4 rfl
  have HO := Lib.hid hO
  clear hO
  go_wp2_with (first | (go_at_call 34; go_in) | (go_at_call 30; go_in) | (go_at_call 31; go_in) | (go_at_call 32; go_in) | (go_at_call 12; go_in) | (go_at_call 10; go_in) | (go_at_call 9; go_in) | (go_at_call 7; go_in))
  have hO := HO.out
  clear HO c9_0_32 c9_0_95 c9_0_96 c9_0_97 c9_0_117 c9_0_338 c9_0_350 lt9_0 y9_0 c9_2_0 c9_2_1 lt9_2 y9_2 c9_3_0 c9_3_1 lt9_3 y9_3 c9_4_0 c9_4_1 lt9_4 y9_4
  generalize hW : World.setCell _ _ _ = W6
  have hN : Own w0 W6 [row (pb) 206 PC, (mp, .map map3 3), row (cr) 68 #[.int .u32 0, .int .u32 1], row (B1_1) 30 #[.iface 40 (.pointer (some ⟨nd4, 0, none⟩)), .int .i32 loc], row (B1) 30 #[.iface 209 (.pointer (some ⟨d, 0, none⟩)), .int .i32 loc]] X := by
    rw [← hW]
    exact ((hO).set 3 rfl 0 _).set 3 rfl 1 _
  clear hW hO
  have hO := hN
  clear hN
  have z9_3_0 : W6.cell? ⟨B1_1, 0, none⟩ = some (.iface 40 (.pointer (some ⟨nd4, 0, none⟩))) := hO.cell 3 rfl 0 rfl
  have z9_3_1 : W6.cell? ⟨B1_1, 1, none⟩ = some (.int .i32 loc) := hO.cell 3 rfl 1 rfl
  refine bodyPost_ret (v := .tuple #[.agg #[.iface 40 (.pointer (some ⟨nd4, 0, none⟩)), .int .i32 loc], .bool true]) ?_ rfl ⟨nd4, rfl, hO.sub [0, 1, 2] (by decide)⟩
  simp [results, Tryd.results14, go_sem, z9_3_0, z9_3_1]
def dasgDyriPost (pb : Nat) (PC : Array Value) (mp cr d : Nat) (loc : Int) (kx : Nat) (nm : ByteArray) (w0 : World) (X : Nat → Obj → Prop) (e : Ending) (w' : World) : Prop :=
  ∃ dd : Nat, e = .returned (.tuple #[.agg #[.iface 40 (.pointer (some ⟨dd, 0, none⟩)), .int .i32 loc], .bool true]) ∧ Own w0 w' [row (pb) 206 PC, (mp, .map map3 3), row (cr) 68 #[.int .u32 0, .int .u32 1]] X
set_option maxRecDepth 100000 in
set_option maxHeartbeats 1000000 in
theorem dasgDyri (pb : Nat) (PC : Array Value) (mp cr d : Nat) (loc : Int) (kx : Nat) (nm : ByteArray) (w0 w : World) (X : Nat → Obj → Prop) (hO : Own w0 w [row (pb) 206 PC, (mp, .map map3 3), row (cr) 68 #[.int .u32 0, .int .u32 1], row (d) 44 #[.iface 244 (.pointer (some ⟨kx, 0, none⟩)), .int .i32 loc, .string nm, .int .i32 loc, .int .u8 0, .bool false, .bool false, .bool false]] X) (hD : Dead PC mp cr true false) (hl : PC[338]? = some (.bool true)) (hlen : nm.size ≤ 1048576) :
    Calls Tryd.prog 14 #[.pointer (some ⟨pb, 0, none⟩), .agg #[.iface 40 (.pointer (some ⟨d, 0, none⟩)), .int .i32 loc]] w (dasgDyriPost pb PC mp cr d loc kx nm w0 X) := by
  go_enter Tryd.func14, Tryd.ntmps14
  have c9_0_32 : w.cell? ⟨pb, 32, none⟩ = some (.bool false) := hO.cell 0 rfl 32 (hD.ts)
  have c9_0_95 : w.cell? ⟨pb, 95, none⟩ = some (.bool true) := hO.cell 0 rfl 95 (hD.rep)
  have c9_0_96 : w.cell? ⟨pb, 96, none⟩ = some (.bool false) := hO.cell 0 rfl 96 (hD.stat)
  have c9_0_97 : w.cell? ⟨pb, 97, none⟩ = some (.pointer (some ⟨cr, 0, none⟩)) := hO.cell 0 rfl 97 (hD.cls)
  have c9_0_117 : w.cell? ⟨pb, 117, none⟩ = some (.map (some mp)) := hO.cell 0 rfl 117 (hD.imp)
  have c9_0_338 : w.cell? ⟨pb, 338, none⟩ = some (.bool true) := hO.cell 0 rfl 338 (hl)
  have c9_0_350 : w.cell? ⟨pb, 350, none⟩ = some (.bool true) := hO.cell 0 rfl 350 (hD.dead)
  have lt9_0 : pb < w.heap.size := hO.lt 0 rfl
  have y9_0 : ∀ o, w.frozen? ⟨pb, o, none⟩ = false := hO.free 0 rfl
  obtain ⟨c9_2_0, c9_2_1, lt9_2, y9_2, -⟩ := hO.k2 2 rfl
  obtain ⟨c9_3_0, c9_3_1, c9_3_2, c9_3_3, c9_3_4, c9_3_5, c9_3_6, c9_3_7, lt9_3, y9_3, -⟩ := hO.k8 3 rfl
  have HO := Lib.hid hO
  clear hO
  go_wp2_with (first | (go_at_call 34; go_in) | (go_at_call 30; go_in) | (go_at_call 31; go_in) | (go_at_call 32; go_in) | (go_at_call 12; go_in) | (go_at_call 10; go_in) | (go_at_call 9; go_in) | (go_at_call 7; go_in))
  have hO := HO.out
  clear HO c9_0_32 c9_0_95 c9_0_96 c9_0_97 c9_0_117 c9_0_338 c9_0_350 lt9_0 y9_0 c9_2_0 c9_2_1 lt9_2 y9_2 c9_3_0 c9_3_1 c9_3_2 c9_3_3 c9_3_4 c9_3_5 c9_3_6 c9_3_7 lt9_3 y9_3
  generalize hW : World.alloc _ _ = W2
  have hN : Own w0 W2 [row (w.heap.size + 1) 30 #[.nilIface, .int .i32 0], row (w.heap.size) 30 #[.iface 40 (.pointer (some ⟨d, 0, none⟩)), .int .i32 loc], row (pb) 206 PC, (mp, .map map3 3), row (cr) 68 #[.int .u32 0, .int .u32 1], row (d) 44 #[.iface 244 (.pointer (some ⟨kx, 0, none⟩)), .int .i32 loc, .string nm, .int .i32 loc, .int .u8 0, .bool false, .bool false, .bool false]] X := by
    rw [← hW]
    exact ((hO).alloc' _ (w.heap.size) (by simp)).alloc' _ (w.heap.size + 1) (by simp)
  clear hW hO
  generalize w.heap.size + 1 = B1_1 at hN ⊢
  generalize w.heap.size = B1 at hN ⊢
  have hO := hN
  clear hN
  have hL := hO.apart
  have hX := hO.apartX
  have HL := Lib.hid hL
  have HX := Lib.hid hX
  clear hL hX
  have hP9 := hO.pick [2, 3, 4, 5] (by decide)
  have T9 := asgDyri pb PC mp cr d loc kx nm _ _ _ hP9 hD hl hlen
  refine Calls.mono T9 ?_
  clear hP9 T9
  rintro e u3 ⟨nd4, rfl, hQ⟩
  have hN : Own w0 u3 [row (pb) 206 PC, (mp, .map map3 3), row (cr) 68 #[.int .u32 0, .int .u32 1], row (B1_1) 30 #[.nilIface, .int .i32 0], row (B1) 30 #[.iface 40 (.pointer (some ⟨d, 0, none⟩)), .int .i32 loc]] X := hQ.back HL.out HX.out [0, 1] (by decide) (by decide)
  clear hQ HL HX hO
  have hO := hN
  clear hN
  have c9_0_32 : u3.cell? ⟨pb, 32, none⟩ = some (.bool false) := hO.cell 0 rfl 32 (hD.ts)
  have c9_0_95 : u3.cell? ⟨pb, 95, none⟩ = some (.bool true) := hO.cell 0 rfl 95 (hD.rep)
  have c9_0_96 : u3.cell? ⟨pb, 96, none⟩ = some (.bool false) := hO.cell 0 rfl 96 (hD.stat)
  have c9_0_97 : u3.cell? ⟨pb, 97, none⟩ = some (.pointer (some ⟨cr, 0, none⟩)) := hO.cell 0 rfl 97 (hD.cls)
  have c9_0_117 : u3.cell? ⟨pb, 117, none⟩ = some (.map (some mp)) := hO.cell 0 rfl 117 (hD.imp)
  have c9_0_338 : u3.cell? ⟨pb, 338, none⟩ = some (.bool true) := hO.cell 0 rfl 338 (hl)
  have c9_0_350 : u3.cell? ⟨pb, 350, none⟩ = some (.bool true) := hO.cell 0 rfl 350 (hD.dead)
  have lt9_0 : pb < u3.heap.size := hO.lt 0 rfl
  have y9_0 : ∀ o, u3.frozen? ⟨pb, o, none⟩ = false := hO.free 0 rfl
  obtain ⟨c9_2_0, c9_2_1, lt9_2, y9_2, -⟩ := hO.k2 2 rfl
  obtain ⟨c9_3_0, c9_3_1, lt9_3, y9_3, -⟩ := hO.k2 3 rfl
  obtain ⟨c9_4_0, c9_4_1, lt9_4, y9_4, -⟩ := hO.k2 4 rfl
  have HO := Lib.hid hO
  clear hO
  go_wp2_with (first | (go_at_call 34; go_in) | (go_at_call 30; go_in) | (go_at_call 31; go_in) | (go_at_call 32; go_in) | (go_at_call 12; go_in) | (go_at_call 10; go_in) | (go_at_call 9; go_in) | (go_at_call 7; go_in))
  have hO := HO.out
  clear HO c9_0_32 c9_0_95 c9_0_96 c9_0_97 c9_0_117 c9_0_338 c9_0_350 lt9_0 y9_0 c9_2_0 c9_2_1 lt9_2 y9_2 c9_3_0 c9_3_1 lt9_3 y9_3 c9_4_0 c9_4_1 lt9_4 y9_4
  generalize hW : World.setCell _ _ _ = W6
  have hN : Own w0 W6 [row (pb) 206 PC, (mp, .map map3 3), row (cr) 68 #[.int .u32 0, .int .u32 1], row (B1_1) 30 #[.iface 40 (.pointer (some ⟨nd4, 0, none⟩)), .int .i32 loc], row (B1) 30 #[.iface 40 (.pointer (some ⟨d, 0, none⟩)), .int .i32 loc]] X := by
    rw [← hW]
    exact ((hO).set 3 rfl 0 _).set 3 rfl 1 _
  clear hW hO
  have hO := hN
  clear hN
  have z9_3_0 : W6.cell? ⟨B1_1, 0, none⟩ = some (.iface 40 (.pointer (some ⟨nd4, 0, none⟩))) := hO.cell 3 rfl 0 rfl
  have z9_3_1 : W6.cell? ⟨B1_1, 1, none⟩ = some (.int .i32 loc) := hO.cell 3 rfl 1 rfl
  refine bodyPost_ret (v := .tuple #[.agg #[.iface 40 (.pointer (some ⟨nd4, 0, none⟩)), .int .i32 loc], .bool true]) ?_ rfl ⟨nd4, rfl, hO.sub [0, 1, 2] (by decide)⟩
  simp [results, Tryd.results14, go_sem, z9_3_0, z9_3_1]
def dasgXyriPost (pb : Nat) (PC : Array Value) (mp cr d : Nat) (loc : Int) (kx gx : Nat) (w0 : World) (X : Nat → Obj → Prop) (e : Ending) (w' : World) : Prop :=
  ∃ dd : Nat, e = .returned (.tuple #[.agg #[.iface 40 (.pointer (some ⟨dd, 0, none⟩)), .int .i32 loc], .bool true]) ∧ Own w0 w' [row (pb) 206 PC, (mp, .map map3 3), row (cr) 68 #[.int .u32 0, .int .u32 1]] X
set_option maxRecDepth 100000 in
set_option maxHeartbeats 1000000 in
theorem dasgXyri (pb : Nat) (PC : Array Value) (mp cr d : Nat) (loc : Int) (kx gx : Nat) (w0 w : World) (X : Nat → Obj → Prop) (hO : Own w0 w [row (pb) 206 PC, (mp, .map map3 3), row (cr) 68 #[.int .u32 0, .int .u32 1], row (d) 211 #[.iface 244 (.pointer (some ⟨kx, 0, none⟩)), .int .i32 loc, .iface 50 (.pointer (some ⟨gx, 0, none⟩)), .int .i32 loc, .int .i32 0, .int .u8 0, .bool false, .bool false, .bool false]] X) (hD : Dead PC mp cr true false) (hl : PC[338]? = some (.bool true)) :
    Calls Tryd.prog 14 #[.pointer (some ⟨pb, 0, none⟩), .agg #[.iface 209 (.pointer (some ⟨d, 0, none⟩)), .int .i32 loc]] w (dasgXyriPost pb PC mp cr d loc kx gx w0 X) := by
  go_enter Tryd.func14, Tryd.ntmps14
  have c9_0_32 : w.cell? ⟨pb, 32, none⟩ = some (.bool false) := hO.cell 0 rfl 32 (hD.ts)
  have c9_0_95 : w.cell? ⟨pb, 95, none⟩ = some (.bool true) := hO.cell 0 rfl 95 (hD.rep)
  have c9_0_96 : w.cell? ⟨pb, 96, none⟩ = some (.bool false) := hO.cell 0 rfl 96 (hD.stat)
  have c9_0_97 : w.cell? ⟨pb, 97, none⟩ = some (.pointer (some ⟨cr, 0, none⟩)) := hO.cell 0 rfl 97 (hD.cls)
  have c9_0_117 : w.cell? ⟨pb, 117, none⟩ = some (.map (some mp)) := hO.cell 0 rfl 117 (hD.imp)
  have c9_0_338 : w.cell? ⟨pb, 338, none⟩ = some (.bool true) := hO.cell 0 rfl 338 (hl)
  have c9_0_350 : w.cell? ⟨pb, 350, none⟩ = some (.bool true) := hO.cell 0 rfl 350 (hD.dead)
  have lt9_0 : pb < w.heap.size := hO.lt 0 rfl
  have y9_0 : ∀ o, w.frozen? ⟨pb, o, none⟩ = false := hO.free 0 rfl
  obtain ⟨c9_2_0, c9_2_1, lt9_2, y9_2, -⟩ := hO.k2 2 rfl
  obtain ⟨c9_3_0, c9_3_1, c9_3_2, c9_3_3, c9_3_4, c9_3_5, c9_3_6, c9_3_7, c9_3_8, lt9_3, y9_3, -⟩ := hO.k9 3 rfl
  have HO := Lib.hid hO
  clear hO
  go_wp2_with (first | (go_at_call 34; go_in) | (go_at_call 30; go_in) | (go_at_call 31; go_in) | (go_at_call 32; go_in) | (go_at_call 12; go_in) | (go_at_call 10; go_in) | (go_at_call 9; go_in) | (go_at_call 7; go_in))
  have hO := HO.out
  clear HO c9_0_32 c9_0_95 c9_0_96 c9_0_97 c9_0_117 c9_0_338 c9_0_350 lt9_0 y9_0 c9_2_0 c9_2_1 lt9_2 y9_2 c9_3_0 c9_3_1 c9_3_2 c9_3_3 c9_3_4 c9_3_5 c9_3_6 c9_3_7 c9_3_8 lt9_3 y9_3
  generalize hW : World.alloc _ _ = W2
  have hN : Own w0 W2 [row (w.heap.size + 1) 30 #[.nilIface, .int .i32 0], row (w.heap.size) 30 #[.iface 209 (.pointer (some ⟨d, 0, none⟩)), .int .i32 loc], row (pb) 206 PC, (mp, .map map3 3), row (cr) 68 #[.int .u32 0, .int .u32 1], row (d) 211 #[.iface 244 (.pointer (some ⟨kx, 0, none⟩)), .int .i32 loc, .iface 50 (.pointer (some ⟨gx, 0, none⟩)), .int .i32 loc, .int .i32 0, .int .u8 0, .bool false, .bool false, .bool false]] X := by
    rw [← hW]
    exact ((hO).alloc' _ (w.heap.size) (by simp)).alloc' _ (w.heap.size + 1) (by simp)
  clear hW hO
  generalize w.heap.size + 1 = B1_1 at hN ⊢
  generalize w.heap.size = B1 at hN ⊢
  have hO := hN
  clear hN
  have hL := hO.apart
  have hX := hO.apartX
  have HL := Lib.hid hL
  have HX := Lib.hid hX
  clear hL hX
  have hP9 := hO.pick [2, 3, 4, 5] (by decide)
  have T9 := asgXyri pb PC mp cr d loc kx gx _ _ _ hP9 hD hl
  refine Calls.mono T9 ?_
  clear hP9 T9
  rintro e u3 ⟨nd4, rfl, hQ⟩
  have hN : Own w0 u3 [row (pb) 206 PC, (mp, .map map3 3), row (cr) 68 #[.int .u32 0, .int .u32 1], row (B1_1) 30 #[.nilIface, .int .i32 0], row (B1) 30 #[.iface 209 (.pointer (some ⟨d, 0, none⟩)), .int .i32 loc]] X := hQ.back HL.out HX.out [0, 1] (by decide) (by decide)
  clear hQ HL HX hO
  have hO := hN
  clear hN
  have c9_0_32 : u3.cell? ⟨pb, 32, none⟩ = some (.bool false) := hO.cell 0 rfl 32 (hD.ts)
  have c9_0_95 : u3.cell? ⟨pb, 95, none⟩ = some (.bool true) := hO.cell 0 rfl 95 (hD.rep)
  have c9_0_96 : u3.cell? ⟨pb, 96, none⟩ = some (.bool false) := hO.cell 0 rfl 96 (hD.stat)
  have c9_0_97 : u3.cell? ⟨pb, 97, none⟩ = some (.pointer (some ⟨cr, 0, none⟩)) := hO.cell 0 rfl 97 (hD.cls)
  have c9_0_117 : u3.cell? ⟨pb, 117, none⟩ = some (.map (some mp)) := hO.cell 0 rfl 117 (hD.imp)
  have c9_0_338 : u3.cell? ⟨pb, 338, none⟩ = some (.bool true) := hO.cell 0 rfl 338 (hl)
  have c9_0_350 : u3.cell? ⟨pb, 350, none⟩ = some (.bool true) := hO.cell 0 rfl 350 (hD.dead)
  have lt9_0 : pb < u3.heap.size := hO.lt 0 rfl
  have y9_0 : ∀ o, u3.frozen? ⟨pb, o, none⟩ = false := hO.free 0 rfl
  obtain ⟨c9_2_0, c9_2_1, lt9_2, y9_2, -⟩ := hO.k2 2 rfl
  obtain ⟨c9_3_0, c9_3_1, lt9_3, y9_3, -⟩ := hO.k2 3 rfl
  obtain ⟨c9_4_0, c9_4_1, lt9_4, y9_4, -⟩ := hO.k2 4 rfl
  have HO := Lib.hid hO
  clear hO
  go_wp2_with (first | (go_at_call 34; go_in) | (go_at_call 30; go_in) | (go_at_call 31; go_in) | (go_at_call 32; go_in) | (go_at_call 12; go_in) | (go_at_call 10; go_in) | (go_at_call 9; go_in) | (go_at_call 7; go_in))
  have hO := HO.out
  clear HO c9_0_32 c9_0_95 c9_0_96 c9_0_97 c9_0_117 c9_0_338 c9_0_350 lt9_0 y9_0 c9_2_0 c9_2_1 lt9_2 y9_2 c9_3_0 c9_3_1 lt9_3 y9_3 c9_4_0 c9_4_1 lt9_4 y9_4
  generalize hW : World.setCell _ _ _ = W6
  have hN : Own w0 W6 [row (pb) 206 PC, (mp, .map map3 3), row (cr) 68 #[.int .u32 0, .int .u32 1], row (B1_1) 30 #[.iface 40 (.pointer (some ⟨nd4, 0, none⟩)), .int .i32 loc], row (B1) 30 #[.iface 209 (.pointer (some ⟨d, 0, none⟩)), .int .i32 loc]] X := by
    rw [← hW]
    exact ((hO).set 3 rfl 0 _).set 3 rfl 1 _
  clear hW hO
  have hO := hN
  clear hN
  have z9_3_0 : W6.cell? ⟨B1_1, 0, none⟩ = some (.iface 40 (.pointer (some ⟨nd4, 0, none⟩))) := hO.cell 3 rfl 0 rfl
  have z9_3_1 : W6.cell? ⟨B1_1, 1, none⟩ = some (.int .i32 loc) := hO.cell 3 rfl 1 rfl
  refine bodyPost_ret (v := .tuple #[.agg #[.iface 40 (.pointer (some ⟨nd4, 0, none⟩)), .int .i32 loc], .bool true]) ?_ rfl ⟨nd4, rfl, hO.sub [0, 1, 2] (by decide)⟩
  simp [results, Tryd.results14, go_sem, z9_3_0, z9_3_1]
def dasgDyrsPost (pb : Nat) (PC : Array Value) (mp cr d : Nat) (loc : Int) (kx : Nat) (nm : ByteArray) (w0 : World) (X : Nat → Obj → Prop) (e : Ending) (w' : World) : Prop :=
  ∃ dd : Nat, e = .returned (.tuple #[.agg #[.iface 40 (.pointer (some ⟨dd, 0, none⟩)), .int .i32 loc], .bool true]) ∧ Own w0 w' [row (pb) 206 PC, (mp, .map map3 3), row (cr) 68 #[.int .u32 0, .int .u32 1]] X
set_option maxRecDepth 100000 in
set_option maxHeartbeats 1000000 in
theorem dasgDyrs (pb : Nat) (PC : Array Value) (mp cr d : Nat) (loc : Int) (kx : Nat) (nm : ByteArray) (w0 w : World) (X : Nat → Obj → Prop) (hO : Own w0 w [row (pb) 206 PC, (mp, .map map3 3), row (cr) 68 #[.int .u32 0, .int .u32 1], row (d) 44 #[.iface 244 (.pointer (some ⟨kx, 0, none⟩)), .int .i32 loc, .string nm, .int .i32 loc, .int .u8 0, .bool false, .bool false, .bool false]] X) (hD : Dead PC mp cr true true) (hl : PC[338]? = some (.bool true)) (hlen : nm.size ≤ 1048576) :
    Calls Tryd.prog 14 #[.pointer (some ⟨pb, 0, none⟩), .agg #[.iface 40 (.pointer (some ⟨d, 0, none⟩)), .int .i32 loc]] w (dasgDyrsPost pb PC mp cr d loc kx nm w0 X) := by
  go_enter Tryd.func14, Tryd.ntmps14
  have c9_0_32 : w.cell? ⟨pb, 32, none⟩ = some (.bool false) := hO.cell 0 rfl 32 (hD.ts)
  have c9_0_95 : w.cell? ⟨pb, 95, none⟩ = some (.bool true) := hO.cell 0 rfl 95 (hD.rep)
  have c9_0_96 : w.cell? ⟨pb, 96, none⟩ = some (.bool true) := hO.cell 0 rfl 96 (hD.stat)
  have c9_0_97 : w.cell? ⟨pb, 97, none⟩ = some (.pointer (some ⟨cr, 0, none⟩)) := hO.cell 0 rfl 97 (hD.cls)
  have c9_0_117 : w.cell? ⟨pb, 117, none⟩ = some (.map (some mp)) := hO.cell 0 rfl 117 (hD.imp)
  have c9_0_338 : w.cell? ⟨pb, 338, none⟩ = some (.bool true) := hO.cell 0 rfl 338 (hl)
  have c9_0_350 : w.cell? ⟨pb, 350, none⟩ = some (.bool true) := hO.cell 0 rfl 350 (hD.dead)
  have lt9_0 : pb < w.heap.size := hO.lt 0 rfl
  have y9_0 : ∀ o, w.frozen? ⟨pb, o, none⟩ = false := hO.free 0 rfl
  obtain ⟨c9_2_0, c9_2_1, lt9_2, y9_2, -⟩ := hO.k2 2 rfl
  obtain ⟨c9_3_0, c9_3_1, c9_3_2, c9_3_3, c9_3_4, c9_3_5, c9_3_6, c9_3_7, lt9_3, y9_3, -⟩ := hO.k8 3 rfl
  have HO := Lib.hid hO
  clear hO
  go_wp2_with (first | (go_at_call 34; go_in) | (go_at_call 30; go_in) | (go_at_call 31; go_in) | (go_at_call 32; go_in) | (go_at_call 12; go_in) | (go_at_call 10; go_in) | (go_at_call 9; go_in) | (go_at_call 7; go_in))
  have hO := HO.out
  clear HO c9_0_32 c9_0_95 c9_0_96 c9_0_97 c9_0_117 c9_0_338 c9_0_350 lt9_0 y9_0 c9_2_0 c9_2_1 lt9_2 y9_2 c9_3_0 c9_3_1 c9_3_2 c9_3_3 c9_3_4 c9_3_5 c9_3_6 c9_3_7 lt9_3 y9_3
  generalize hW : World.alloc _ _ = W2
  have hN : Own w0 W2 [row (w.heap.size + 1) 30 #[.nilIface, .int .i32 0], row (w.heap.size) 30 #[.iface 40 (.pointer (some ⟨d, 0, none⟩)), .int .i32 loc], row (pb) 206 PC, (mp, .map map3 3), row (cr) 68 #[.int .u32 0, .int .u32 1], row (d) 44 #[.iface 244 (.pointer (some ⟨kx, 0, none⟩)), .int .i32 loc, .string nm, .int .i32 loc, .int .u8 0, .bool false, .bool false, .bool false]] X := by
    rw [← hW]
    exact ((hO).alloc' _ (w.heap.size) (by simp)).alloc' _ (w.heap.size + 1) (by simp)
  clear hW hO
  generalize w.heap.size + 1 = B1_1 at hN ⊢
  generalize w.heap.size = B1 at hN ⊢
  have hO := hN
  clear hN
  have hL := hO.apart
  have hX := hO.apartX
  have HL := Lib.hid hL
  have HX := Lib.hid hX
  clear hL hX
  have hP9 := hO.pick [2, 3, 4, 5] (by decide)
  have T9 := asgDyrs pb PC mp cr d loc kx nm _ _ _ hP9 hD hl hlen
  refine Calls.mono T9 ?_
  clear hP9 T9
  rintro e u3 ⟨nd4, rfl, hQ⟩
  have hN : Own w0 u3 [row (pb) 206 PC, (mp, .map map3 3), row (cr) 68 #[.int .u32 0, .int .u32 1], row (B1_1) 30 #[.nilIface, .int .i32 0], row (B1) 30 #[.iface 40 (.pointer (some ⟨d, 0, none⟩)), .int .i32 loc]] X := hQ.back HL.out HX.out [0, 1] (by decide) (by decide)
  clear hQ HL HX hO
  have hO := hN
  clear hN
  have c9_0_32 : u3.cell? ⟨pb, 32, none⟩ = some (.bool false) := hO.cell 0 rfl 32 (hD.ts)
  have c9_0_95 : u3.cell? ⟨pb, 95, none⟩ = some (.bool true) := hO.cell 0 rfl 95 (hD.rep)
  have c9_0_96 : u3.cell? ⟨pb, 96, none⟩ = some (.bool true) := hO.cell 0 rfl 96 (hD.stat)
  have c9_0_97 : u3.cell? ⟨pb, 97, none⟩ = some (.pointer (some ⟨cr, 0, none⟩)) := hO.cell 0 rfl 97 (hD.cls)
  have c9_0_117 : u3.cell? ⟨pb, 117, none⟩ = some (.map (some mp)) := hO.cell 0 rfl 117 (hD.imp)
  have c9_0_338 : u3.cell? ⟨pb, 338, none⟩ = some (.bool true) := hO.cell 0 rfl 338 (hl)
  have c9_0_350 : u3.cell? ⟨pb, 350, none⟩ = some (.bool true) := hO.cell 0 rfl 350 (hD.dead)
  have lt9_0 : pb < u3.heap.size := hO.lt 0 rfl
  have y9_0 : ∀ o, u3.frozen? ⟨pb, o, none⟩ = false := hO.free 0 rfl
  obtain ⟨c9_2_0, c9_2_1, lt9_2, y9_2, -⟩ := hO.k2 2 rfl
  obtain ⟨c9_3_0, c9_3_1, lt9_3, y9_3, -⟩ := hO.k2 3 rfl
  obtain ⟨c9_4_0, c9_4_1, lt9_4, y9_4, -⟩ := hO.k2 4 rfl
  have HO := Lib.hid hO
  clear hO
  go_wp2_with (first | (go_at_call 34; go_in) | (go_at_call 30; go_in) | (go_at_call 31; go_in) | (go_at_call 32; go_in) | (go_at_call 12; go_in) | (go_at_call 10; go_in) | (go_at_call 9; go_in) | (go_at_call 7; go_in))
  have hO := HO.out
  clear HO c9_0_32 c9_0_95 c9_0_96 c9_0_97 c9_0_117 c9_0_338 c9_0_350 lt9_0 y9_0 c9_2_0 c9_2_1 lt9_2 y9_2 c9_3_0 c9_3_1 lt9_3 y9_3 c9_4_0 c9_4_1 lt9_4 y9_4
  generalize hW : World.setCell _ _ _ = W6
  have hN : Own w0 W6 [row (pb) 206 PC, (mp, .map map3 3), row (cr) 68 #[.int .u32 0, .int .u32 1], row (B1_1) 30 #[.iface 40 (.pointer (some ⟨nd4, 0, none⟩)), .int .i32 loc], row (B1) 30 #[.iface 40 (.pointer (some ⟨d, 0, none⟩)), .int .i32 loc]] X := by
    rw [← hW]
    exact ((hO).set 3 rfl 0 _).set 3 rfl 1 _
  clear hW hO
  have hO := hN
  clear hN
  have z9_3_0 : W6.cell? ⟨B1_1, 0, none⟩ = some (.iface 40 (.pointer (some ⟨nd4, 0, none⟩))) := hO.cell 3 rfl 0 rfl
  have z9_3_1 : W6.cell? ⟨B1_1, 1, none⟩ = some (.int .i32 loc) := hO.cell 3 rfl 1 rfl
  refine bodyPost_ret (v := .tuple #[.agg #[.iface 40 (.pointer (some ⟨nd4, 0, none⟩)), .int .i32 loc], .bool true]) ?_ rfl ⟨nd4, rfl, hO.sub [0, 1, 2] (by decide)⟩
  simp [results, Tryd.results14, go_sem, z9_3_0, z9_3_1]
def dasgXyrsPost (pb : Nat) (PC : Array Value) (mp cr d : Nat) (loc : Int) (kx gx : Nat) (w0 : World) (X : Nat → Obj → Prop) (e : Ending) (w' : World) : Prop :=
  ∃ dd : Nat, e = .returned (.tuple #[.agg #[.iface 40 (.pointer (some ⟨dd, 0, none⟩)), .int .i32 loc], .bool true]) ∧ Own w0 w' [row (pb) 206 PC, (mp, .map map3 3), row (cr) 68 #[.int .u32 0, .int .u32 1]] X
set_option maxRecDepth 100000 in
set_option maxHeartbeats 1000000 in
theorem dasgXyrs (pb : Nat) (PC : Array Value) (mp cr d : Nat) (loc : Int) (kx gx : Nat) (w0 w : World) (X : Nat → Obj → Prop) (hO : Own w0 w [row (pb) 206 PC, (mp, .map map3 3), row (cr) 68 #[.int .u32 0, .int .u32 1], row (d) 211 #[.iface 244 (.pointer (some ⟨kx, 0, none⟩)), .int .i32 loc, .iface 50 (.pointer (some ⟨gx, 0, none⟩)), .int .i32 loc, .int .i32 0, .int .u8 0, .bool false, .bool false, .bool false]] X) (hD : Dead PC mp cr true true) (hl : PC[338]? = some (.bool true)) :
    Calls Tryd.prog 14 #[.pointer (some ⟨pb, 0, none⟩), .agg #[.iface 209 (.pointer (some ⟨d, 0, none⟩)), .int .i32 loc]] w (dasgXyrsPost pb PC mp cr d loc kx gx w0 X) := by
  go_enter Tryd.func14, Tryd.ntmps14
  have c9_0_32 : w.cell? ⟨pb, 32, none⟩ = some (.bool false) := hO.cell 0 rfl 32 (hD.ts)
  have c9_0_95 : w.cell? ⟨pb, 95, none⟩ = some (.bool true) := hO.cell 0 rfl 95 (hD.rep)
  have c9_0_96 : w.cell? ⟨pb, 96, none⟩ = some (.bool true) := hO.cell 0 rfl 96 (hD.stat)
  have c9_0_97 : w.cell? ⟨pb, 97, none⟩ = some (.pointer (some ⟨cr, 0, none⟩)) := hO.cell 0 rfl 97 (hD.cls)
  have c9_0_117 : w.cell? ⟨pb, 117, none⟩ = some (.map (some mp)) := hO.cell 0 rfl 117 (hD.imp)
  have c9_0_338 : w.cell? ⟨pb, 338, none⟩ = some (.bool true) := hO.cell 0 rfl 338 (hl)
  have c9_0_350 : w.cell? ⟨pb, 350, none⟩ = some (.bool true) := hO.cell 0 rfl 350 (hD.dead)
  have lt9_0 : pb < w.heap.size := hO.lt 0 rfl
  have y9_0 : ∀ o, w.frozen? ⟨pb, o, none⟩ = false := hO.free 0 rfl
  obtain ⟨c9_2_0, c9_2_1, lt9_2, y9_2, -⟩ := hO.k2 2 rfl
  obtain ⟨c9_3_0, c9_3_1, c9_3_2, c9_3_3, c9_3_4, c9_3_5, c9_3_6, c9_3_7, c9_3_8, lt9_3, y9_3, -⟩ := hO.k9 3 rfl
  have HO := Lib.hid hO
  clear hO
  go_wp2_with (first | (go_at_call 34; go_in) | (go_at_call 30; go_in) | (go_at_call 31; go_in) | (go_at_call 32; go_in) | (go_at_call 12; go_in) | (go_at_call 10; go_in) | (go_at_call 9; go_in) | (go_at_call 7; go_in))
  have hO := HO.out
  clear HO c9_0_32 c9_0_95 c9_0_96 c9_0_97 c9_0_117 c9_0_338 c9_0_350 lt9_0 y9_0 c9_2_0 c9_2_1 lt9_2 y9_2 c9_3_0 c9_3_1 c9_3_2 c9_3_3 c9_3_4 c9_3_5 c9_3_6 c9_3_7 c9_3_8 lt9_3 y9_3
  generalize hW : World.alloc _ _ = W2
  have hN : Own w0 W2 [row (w.heap.size + 1) 30 #[.nilIface, .int .i32 0], row (w.heap.size) 30 #[.iface 209 (.pointer (some ⟨d, 0, none⟩)), .int .i32 loc], row (pb) 206 PC, (mp, .map map3 3), row (cr) 68 #[.int .u32 0, .int .u32 1], row (d) 211 #[.iface 244 (.pointer (some ⟨kx, 0, none⟩)), .int .i32 loc, .iface 50 (.pointer (some ⟨gx, 0, none⟩)), .int .i32 loc, .int .i32 0, .int .u8 0, .bool false, .bool false, .bool false]] X := by
    rw [← hW]
    exact ((hO).alloc' _ (w.heap.size) (by simp)).alloc' _ (w.heap.size + 1) (by simp)
  clear hW hO
  generalize w.heap.size + 1 = B1_1 at hN ⊢
  generalize w.heap.size = B1 at hN ⊢
  have hO := hN
  clear hN
  have hL := hO.apart
  have hX := hO.apartX
  have HL := Lib.hid hL
  have HX := Lib.hid hX
  clear hL hX
  have hP9 := hO.pick [2, 3, 4, 5] (by decide)
  have T9 := asgXyrs pb PC mp cr d loc kx gx _ _ _ hP9 hD hl
  refine Calls.mono T9 ?_
  clear hP9 T9
  rintro e u3 ⟨nd4, rfl, hQ⟩
  have hN : Own w0 u3 [row (pb) 206 PC, (mp, .map map3 3), row (cr) 68 #[.int .u32 0, .int .u32 1], row (B1_1) 30 #[.nilIface, .int .i32 0], row (B1) 30 #[.iface 209 (.pointer (some ⟨d, 0, none⟩)), .int .i32 loc]] X := hQ.back HL.out HX.out [0, 1] (by decide) (by decide)
  clear hQ HL HX hO
  have hO := hN
  clear hN
  have c9_0_32 : u3.cell? ⟨pb, 32, none⟩ = some (.bool false) := hO.cell 0 rfl 32 (hD.ts)
  have c9_0_95 : u3.cell? ⟨pb, 95, none⟩ = some (.bool true) := hO.cell 0 rfl 95 (hD.rep)
  have c9_0_96 : u3.cell? ⟨pb, 96, none⟩ = some (.bool true) := hO.cell 0 rfl 96 (hD.stat)
  have c9_0_97 : u3.cell? ⟨pb, 97, none⟩ = some (.pointer (some ⟨cr, 0, none⟩)) := hO.cell 0 rfl 97 (hD.cls)
  have c9_0_117 : u3.cell? ⟨pb, 117, none⟩ = some (.map (some mp)) := hO.cell 0 rfl 117 (hD.imp)
  have c9_0_338 : u3.cell? ⟨pb, 338, none⟩ = some (.bool true) := hO.cell 0 rfl 338 (hl)
  have c9_0_350 : u3.cell? ⟨pb, 350, none⟩ = some (.bool true) := hO.cell 0 rfl 350 (hD.dead)
  have lt9_0 : pb < u3.heap.size := hO.lt 0 rfl
  have y9_0 : ∀ o, u3.frozen? ⟨pb, o, none⟩ = false := hO.free 0 rfl
  obtain ⟨c9_2_0, c9_2_1, lt9_2, y9_2, -⟩ := hO.k2 2 rfl
  obtain ⟨c9_3_0, c9_3_1, lt9_3, y9_3, -⟩ := hO.k2 3 rfl
  obtain ⟨c9_4_0, c9_4_1, lt9_4, y9_4, -⟩ := hO.k2 4 rfl
  have HO := Lib.hid hO
  clear hO
  go_wp2_with (first | (go_at_call 34; go_in) | (go_at_call 30; go_in) | (go_at_call 31; go_in) | (go_at_call 32; go_in) | (go_at_call 12; go_in) | (go_at_call 10; go_in) | (go_at_call 9; go_in) | (go_at_call 7; go_in))
  have hO := HO.out
  clear HO c9_0_32 c9_0_95 c9_0_96 c9_0_97 c9_0_117 c9_0_338 c9_0_350 lt9_0 y9_0 c9_2_0 c9_2_1 lt9_2 y9_2 c9_3_0 c9_3_1 lt9_3 y9_3 c9_4_0 c9_4_1 lt9_4 y9_4
  generalize hW : World.setCell _ _ _ = W6
  have hN : Own w0 W6 [row (pb) 206 PC, (mp, .map map3 3), row (cr) 68 #[.int .u32 0, .int .u32 1], row (B1_1) 30 #[.iface 40 (.pointer (some ⟨nd4, 0, none⟩)), .int .i32 loc], row (B1) 30 #[.iface 209 (.pointer (some ⟨d, 0, none⟩)), .int .i32 loc]] X := by
    rw [← hW]
    exact ((hO).set 3 rfl 0 _).set 3 rfl 1 _
  clear hW hO
  have hO := hN
  clear hN
  have z9_3_0 : W6.cell? ⟨B1_1, 0, none⟩ = some (.iface 40 (.pointer (some ⟨nd4, 0, none⟩))) := hO.cell 3 rfl 0 rfl
  have z9_3_1 : W6.cell? ⟨B1_1, 1, none⟩ = some (.int .i32 loc) := hO.cell 3 rfl 1 rfl
  refine bodyPost_ret (v := .tuple #[.agg #[.iface 40 (.pointer (some ⟨nd4, 0, none⟩)), .int .i32 loc], .bool true]) ?_ rfl ⟨nd4, rfl, hO.sub [0, 1, 2] (by decide)⟩
  simp [results, Tryd.results14, go_sem, z9_3_0, z9_3_1]
end Go.Proofs.YtcbdjbjbikiaeaaDoor.Use
