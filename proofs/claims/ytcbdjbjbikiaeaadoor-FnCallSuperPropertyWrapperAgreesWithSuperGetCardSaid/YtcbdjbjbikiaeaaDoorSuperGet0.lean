/- A super property lowered. No condition. -/
import Derived.Test.YtcbdjbjbikiaeaaDoorOwnK
import Derived.Test.YtcbdjbjbikiaeaaDoorOwn
import Derived.Test.YtcbdjbjbikiaeaaDoorDeepCells
import Derived.Test.YtcbdjbjbikiaeaaDoorRows
import Derived.Test.YtcbdjbjbikiaeaaDoorDead
namespace Go.Proofs.YtcbdjbjbikiaeaaDoor.Use
open Go.ChangeShapes Go.WideShapes Go.ChangeAt Go.RowKit Go.Sort Own
set_option linter.unusedVariables false
def supGetnsPost (pb : Nat) (PC : Array Value) (mp cr : Nat) (loc : Int) (kT kx : Nat) (kl : Int) (w0 : World) (X : Nat → Obj → Prop) (e : Ending) (w' : World) : Prop :=
  ∃ ca : Nat, ∃ b : Nat, ∃ sx : Nat, ∃ i1 : Nat, ∃ th : Nat, e = .returned (.agg #[.iface 52 (.pointer (some ⟨ca, 0, none⟩)), .int .i32 loc]) ∧ Own w0 w' [row (pb) 206 PC, (mp, .map #[⟨.string ⟨#[95, 95, 115, 117, 112, 101, 114, 87, 114, 97, 112, 112, 101, 114]⟩, .agg #[.int .i32 0, .int .u32 0, .int .u32 2], 0⟩, ⟨.string ⟨#[95, 95, 115, 117, 112, 101, 114, 71, 101, 116]⟩, .agg #[.int .i32 0, .int .u32 0, .int .u32 3], 1⟩, ⟨.string ⟨#[95, 95, 112, 114, 105, 118, 97, 116, 101, 87, 114, 97, 112, 112, 101, 114]⟩, .agg #[.int .i32 0, .int .u32 0, .int .u32 4], 2⟩] 3), row (cr) 68 #[.int .u32 0, .int .u32 1], row (b) 223 #[.int .u32 0, .int .u32 3, .bool false, .bool false, .bool false], row (ca) 56 #[.iface 220 (.pointer (some ⟨b, 0, none⟩)), .int .i32 loc, .slice (some ⟨sx, 0, none⟩) 3 3, .int .i32 0, .int .u8 0, .int .u8 0, .bool false, .bool false], row (sx) 30 #[.iface 220 (.pointer (some ⟨i1, 0, none⟩)), .int .i32 loc, .iface 247 (.pointer (some ⟨th, 0, none⟩)), .int .i32 loc, .iface kT (.pointer (some ⟨kx, 0, none⟩)), .int .i32 kl], row (i1) 223 #[.int .u32 0, .int .u32 1, .bool false, .bool false, .bool false], row (th) 248 #[]] X
set_option maxRecDepth 100000 in
set_option maxHeartbeats 1000000 in
theorem supGetns (pb : Nat) (PC : Array Value) (mp cr : Nat) (loc : Int) (kT kx : Nat) (kl : Int) (w0 w : World) (X : Nat → Obj → Prop) (hO : Own w0 w [row (pb) 206 PC, (mp, .map #[⟨.string ⟨#[95, 95, 115, 117, 112, 101, 114, 87, 114, 97, 112, 112, 101, 114]⟩, .agg #[.int .i32 0, .int .u32 0, .int .u32 2], 0⟩, ⟨.string ⟨#[95, 95, 115, 117, 112, 101, 114, 71, 101, 116]⟩, .agg #[.int .i32 0, .int .u32 0, .int .u32 3], 1⟩, ⟨.string ⟨#[95, 95, 112, 114, 105, 118, 97, 116, 101, 87, 114, 97, 112, 112, 101, 114]⟩, .agg #[.int .i32 0, .int .u32 0, .int .u32 4], 2⟩] 3), row (cr) 68 #[.int .u32 0, .int .u32 1]] X) (hD : Dead PC mp cr false true) :
    Calls Tryd.prog 37 #[.pointer (some ⟨pb, 0, none⟩), .agg #[.int .i32 loc], .agg #[.iface kT (.pointer (some ⟨kx, 0, none⟩)), .int .i32 kl]] w (supGetnsPost pb PC mp cr loc kT kx kl w0 X) := by
  go_enter Tryd.func37, Tryd.ntmps37
  have c9_0_32 : w.cell? ⟨pb, 32, none⟩ = some (.bool false) := hO.cell 0 rfl 32 (hD.ts)
  have c9_0_95 : w.cell? ⟨pb, 95, none⟩ = some (.bool false) := hO.cell 0 rfl 95 (hD.rep)
  have c9_0_96 : w.cell? ⟨pb, 96, none⟩ = some (.bool true) := hO.cell 0 rfl 96 (hD.stat)
  have c9_0_97 : w.cell? ⟨pb, 97, none⟩ = some (.pointer (some ⟨cr, 0, none⟩)) := hO.cell 0 rfl 97 (hD.cls)
  have c9_0_117 : w.cell? ⟨pb, 117, none⟩ = some (.map (some mp)) := hO.cell 0 rfl 117 (hD.imp)
  have c9_0_350 : w.cell? ⟨pb, 350, none⟩ = some (.bool true) := hO.cell 0 rfl 350 (hD.dead)
  have lt9_0 : pb < w.heap.size := hO.lt 0 rfl
  have y9_0 : ∀ o, w.frozen? ⟨pb, o, none⟩ = false := hO.free 0 rfl
  obtain ⟨c9_2_0, c9_2_1, lt9_2, y9_2, -⟩ := hO.k2 2 rfl
  have HO := Lib.hid hO
  clear hO
  go_wp2_with fail
  have hO := HO.out
  clear HO c9_0_32 c9_0_95 c9_0_96 c9_0_97 c9_0_117 c9_0_350 lt9_0 y9_0 c9_2_0 c9_2_1 lt9_2 y9_2
  generalize hW : World.alloc _ _ = W2
  have hN : Own w0 W2 [row (w.heap.size + 1 + 1 + 1) 68 #[.int .u32 0, .int .u32 1], row (w.heap.size + 1 + 1) 30 #[.nilIface, .int .i32 0], row (w.heap.size + 1) 30 #[.iface kT (.pointer (some ⟨kx, 0, none⟩)), .int .i32 kl], row (w.heap.size) 28 #[.int .i32 loc], row (pb) 206 PC, (mp, .map #[⟨.string ⟨#[95, 95, 115, 117, 112, 101, 114, 87, 114, 97, 112, 112, 101, 114]⟩, .agg #[.int .i32 0, .int .u32 0, .int .u32 2], 0⟩, ⟨.string ⟨#[95, 95, 115, 117, 112, 101, 114, 71, 101, 116]⟩, .agg #[.int .i32 0, .int .u32 0, .int .u32 3], 1⟩, ⟨.string ⟨#[95, 95, 112, 114, 105, 118, 97, 116, 101, 87, 114, 97, 112, 112, 101, 114]⟩, .agg #[.int .i32 0, .int .u32 0, .int .u32 4], 2⟩] 3), row (cr) 68 #[.int .u32 0, .int .u32 1]] X := by
    rw [← hW]
    exact ((((hO).alloc' _ (w.heap.size) (by simp)).alloc' _ (w.heap.size + 1) (by simp)).alloc' _ (w.heap.size + 1 + 1) (by simp)).alloc' _ (w.heap.size + 1 + 1 + 1) (by simp)
  clear hW hO
  generalize w.heap.size + 1 + 1 + 1 = B1_3 at hN ⊢
  generalize w.heap.size + 1 + 1 = B1_2 at hN ⊢
  generalize w.heap.size + 1 = B1_1 at hN ⊢
  generalize w.heap.size = B1 at hN ⊢
  have hO := hN
  clear hN
  have hL := hO.apart
  have hX := hO.apartX
  have HL := Lib.hid hL
  have HX := Lib.hid hX
  clear hL hX
  have hP9 := hO.pick [4] (by decide)
  have T9 := usageDead pb PC mp cr false true 0 1 _ _ _ hP9 hD
  refine Calls.mono T9 ?_
  clear hP9 T9
  rintro e u3 ⟨rfl, hQ⟩
  have hN : Own w0 u3 [row (pb) 206 PC, row (B1_3) 68 #[.int .u32 0, .int .u32 1], row (B1_2) 30 #[.nilIface, .int .i32 0], row (B1_1) 30 #[.iface kT (.pointer (some ⟨kx, 0, none⟩)), .int .i32 kl], row (B1) 28 #[.int .i32 loc], (mp, .map #[⟨.string ⟨#[95, 95, 115, 117, 112, 101, 114, 87, 114, 97, 112, 112, 101, 114]⟩, .agg #[.int .i32 0, .int .u32 0, .int .u32 2], 0⟩, ⟨.string ⟨#[95, 95, 115, 117, 112, 101, 114, 71, 101, 116]⟩, .agg #[.int .i32 0, .int .u32 0, .int .u32 3], 1⟩, ⟨.string ⟨#[95, 95, 112, 114, 105, 118, 97, 116, 101, 87, 114, 97, 112, 112, 101, 114]⟩, .agg #[.int .i32 0, .int .u32 0, .int .u32 4], 2⟩] 3), row (cr) 68 #[.int .u32 0, .int .u32 1]] X := hQ.back HL.out HX.out [0, 1, 2, 3, 5, 6] (by decide) (by decide)
  clear hQ HL HX hO
  have hO := hN
  clear hN
  have ne9_1_6 : ¬ B1_3 = cr := hO.ne 1 6 rfl rfl (by decide)
  have ne9_2_3 : ¬ B1_2 = B1_1 := hO.ne 2 3 rfl rfl (by decide)
  have ne9_2_4 : ¬ B1_2 = B1 := hO.ne 2 4 rfl rfl (by decide)
  have ne9_3_2 : ¬ B1_1 = B1_2 := hO.ne 3 2 rfl rfl (by decide)
  have ne9_3_4 : ¬ B1_1 = B1 := hO.ne 3 4 rfl rfl (by decide)
  have ne9_4_2 : ¬ B1 = B1_2 := hO.ne 4 2 rfl rfl (by decide)
  have ne9_4_3 : ¬ B1 = B1_1 := hO.ne 4 3 rfl rfl (by decide)
  have ne9_6_1 : ¬ cr = B1_3 := hO.ne 6 1 rfl rfl (by decide)
  have c9_0_32 : u3.cell? ⟨pb, 32, none⟩ = some (.bool false) := hO.cell 0 rfl 32 (hD.ts)
  have c9_0_95 : u3.cell? ⟨pb, 95, none⟩ = some (.bool false) := hO.cell 0 rfl 95 (hD.rep)
  have c9_0_96 : u3.cell? ⟨pb, 96, none⟩ = some (.bool true) := hO.cell 0 rfl 96 (hD.stat)
  have c9_0_97 : u3.cell? ⟨pb, 97, none⟩ = some (.pointer (some ⟨cr, 0, none⟩)) := hO.cell 0 rfl 97 (hD.cls)
  have c9_0_117 : u3.cell? ⟨pb, 117, none⟩ = some (.map (some mp)) := hO.cell 0 rfl 117 (hD.imp)
  have c9_0_350 : u3.cell? ⟨pb, 350, none⟩ = some (.bool true) := hO.cell 0 rfl 350 (hD.dead)
  have lt9_0 : pb < u3.heap.size := hO.lt 0 rfl
  have y9_0 : ∀ o, u3.frozen? ⟨pb, o, none⟩ = false := hO.free 0 rfl
  obtain ⟨c9_1_0, c9_1_1, lt9_1, y9_1, pl9_1⟩ := hO.k2 1 rfl
  obtain ⟨c9_2_0, c9_2_1, lt9_2, y9_2, pl9_2⟩ := hO.k2 2 rfl
  obtain ⟨c9_3_0, c9_3_1, lt9_3, y9_3, pl9_3⟩ := hO.k2 3 rfl
  obtain ⟨c9_4_0, lt9_4, y9_4, pl9_4⟩ := hO.k1 4 rfl
  obtain ⟨c9_6_0, c9_6_1, lt9_6, y9_6, pl9_6⟩ := hO.k2 6 rfl
  have HO := Lib.hid hO
  clear hO
  go_wp2_with fail
  have hO := HO.out
  clear HO ne9_1_6 ne9_2_3 ne9_2_4 ne9_3_2 ne9_3_4 ne9_4_2 ne9_4_3 ne9_6_1 c9_0_32 c9_0_95 c9_0_96 c9_0_97 c9_0_117 c9_0_350 lt9_0 y9_0 c9_1_0 c9_1_1 lt9_1 y9_1 pl9_1 c9_2_0 c9_2_1 lt9_2 y9_2 pl9_2 c9_3_0 c9_3_1 lt9_3 y9_3 pl9_3 c9_4_0 lt9_4 y9_4 pl9_4 c9_6_0 c9_6_1 lt9_6 y9_6 pl9_6
  generalize hW : World.alloc _ _ = W5
  have hN : Own w0 W5 [row (u3.heap.size + 1 + 1 + 1 + 1) 30 #[.iface 220 (.pointer (some ⟨u3.heap.size, 0, none⟩)), .int .i32 loc, .iface 247 (.pointer (some ⟨u3.heap.size + 1 + 1, 0, none⟩)), .int .i32 loc, .iface kT (.pointer (some ⟨kx, 0, none⟩)), .int .i32 kl], row (u3.heap.size + 1 + 1 + 1) 30 #[.iface 247 (.pointer (some ⟨u3.heap.size + 1 + 1, 0, none⟩)), .int .i32 loc], row (u3.heap.size + 1 + 1) 248 #[], row (u3.heap.size + 1) 30 #[.iface 220 (.pointer (some ⟨u3.heap.size, 0, none⟩)), .int .i32 loc], row (u3.heap.size) 223 #[.int .u32 0, .int .u32 1, .bool false, .bool false, .bool false], row (pb) 206 PC, row (B1_3) 68 #[.int .u32 0, .int .u32 1], row (B1_2) 30 #[.nilIface, .int .i32 0], row (B1_1) 30 #[.iface kT (.pointer (some ⟨kx, 0, none⟩)), .int .i32 kl], row (B1) 28 #[.int .i32 loc], (mp, .map #[⟨.string ⟨#[95, 95, 115, 117, 112, 101, 114, 87, 114, 97, 112, 112, 101, 114]⟩, .agg #[.int .i32 0, .int .u32 0, .int .u32 2], 0⟩, ⟨.string ⟨#[95, 95, 115, 117, 112, 101, 114, 71, 101, 116]⟩, .agg #[.int .i32 0, .int .u32 0, .int .u32 3], 1⟩, ⟨.string ⟨#[95, 95, 112, 114, 105, 118, 97, 116, 101, 87, 114, 97, 112, 112, 101, 114]⟩, .agg #[.int .i32 0, .int .u32 0, .int .u32 4], 2⟩] 3), row (cr) 68 #[.int .u32 0, .int .u32 1]] X := by
    rw [← hW]
    exact (((((hO).alloc' _ (u3.heap.size) (by simp)).alloc' _ (u3.heap.size + 1) (by simp)).alloc' _ (u3.heap.size + 1 + 1) (by simp)).alloc' _ (u3.heap.size + 1 + 1 + 1) (by simp)).alloc' _ (u3.heap.size + 1 + 1 + 1 + 1) (by simp)
  clear hW hO
  generalize u3.heap.size + 1 + 1 + 1 + 1 = B4_4 at hN ⊢
  generalize u3.heap.size + 1 + 1 + 1 = B4_3 at hN ⊢
  generalize u3.heap.size + 1 + 1 = B4_2 at hN ⊢
  generalize u3.heap.size + 1 = B4_1 at hN ⊢
  generalize u3.heap.size = B4 at hN ⊢
  have hO := hN
  clear hN
  have hL := hO.apart
  have hX := hO.apartX
  have HL := Lib.hid hL
  have HX := Lib.hid hX
  clear hL hX
  have hP9 := hO.pick [5, 10] (by decide)
  have T9 := callRG pb PC mp cr false true loc B4_4 3 3 _ _ _ hP9 hD
  refine Calls.mono T9 ?_
  clear hP9 T9
  rintro e u6 ⟨nd7, nd8, rfl, hQ⟩
  have hN : Own w0 u6 [row (pb) 206 PC, (mp, .map #[⟨.string ⟨#[95, 95, 115, 117, 112, 101, 114, 87, 114, 97, 112, 112, 101, 114]⟩, .agg #[.int .i32 0, .int .u32 0, .int .u32 2], 0⟩, ⟨.string ⟨#[95, 95, 115, 117, 112, 101, 114, 71, 101, 116]⟩, .agg #[.int .i32 0, .int .u32 0, .int .u32 3], 1⟩, ⟨.string ⟨#[95, 95, 112, 114, 105, 118, 97, 116, 101, 87, 114, 97, 112, 112, 101, 114]⟩, .agg #[.int .i32 0, .int .u32 0, .int .u32 4], 2⟩] 3), row (nd8) 223 #[.int .u32 0, .int .u32 3, .bool false, .bool false, .bool false], row (nd7) 56 #[.iface 220 (.pointer (some ⟨nd8, 0, none⟩)), .int .i32 loc, .slice (some ⟨B4_4, 0, none⟩) 3 3, .int .i32 0, .int .u8 0, .int .u8 0, .bool false, .bool false], row (B4_4) 30 #[.iface 220 (.pointer (some ⟨B4, 0, none⟩)), .int .i32 loc, .iface 247 (.pointer (some ⟨B4_2, 0, none⟩)), .int .i32 loc, .iface kT (.pointer (some ⟨kx, 0, none⟩)), .int .i32 kl], row (B4_3) 30 #[.iface 247 (.pointer (some ⟨B4_2, 0, none⟩)), .int .i32 loc], row (B4_2) 248 #[], row (B4_1) 30 #[.iface 220 (.pointer (some ⟨B4, 0, none⟩)), .int .i32 loc], row (B4) 223 #[.int .u32 0, .int .u32 1, .bool false, .bool false, .bool false], row (B1_3) 68 #[.int .u32 0, .int .u32 1], row (B1_2) 30 #[.nilIface, .int .i32 0], row (B1_1) 30 #[.iface kT (.pointer (some ⟨kx, 0, none⟩)), .int .i32 kl], row (B1) 28 #[.int .i32 loc], row (cr) 68 #[.int .u32 0, .int .u32 1]] X := hQ.back HL.out HX.out [0, 1, 2, 3, 4, 6, 7, 8, 9, 11] (by decide) (by decide)
  clear hQ HL HX hO
  have hO := hN
  clear hN
  have ne9_2_8 : ¬ nd8 = B4 := hO.ne 2 8 rfl rfl (by decide)
  have ne9_4_5 : ¬ B4_4 = B4_3 := hO.ne 4 5 rfl rfl (by decide)
  have ne9_4_7 : ¬ B4_4 = B4_1 := hO.ne 4 7 rfl rfl (by decide)
  have ne9_4_10 : ¬ B4_4 = B1_2 := hO.ne 4 10 rfl rfl (by decide)
  have ne9_4_11 : ¬ B4_4 = B1_1 := hO.ne 4 11 rfl rfl (by decide)
  have ne9_4_12 : ¬ B4_4 = B1 := hO.ne 4 12 rfl rfl (by decide)
  have ne9_5_4 : ¬ B4_3 = B4_4 := hO.ne 5 4 rfl rfl (by decide)
  have ne9_5_7 : ¬ B4_3 = B4_1 := hO.ne 5 7 rfl rfl (by decide)
  have ne9_5_10 : ¬ B4_3 = B1_2 := hO.ne 5 10 rfl rfl (by decide)
  have ne9_5_11 : ¬ B4_3 = B1_1 := hO.ne 5 11 rfl rfl (by decide)
  have ne9_5_12 : ¬ B4_3 = B1 := hO.ne 5 12 rfl rfl (by decide)
  have ne9_7_4 : ¬ B4_1 = B4_4 := hO.ne 7 4 rfl rfl (by decide)
  have ne9_7_5 : ¬ B4_1 = B4_3 := hO.ne 7 5 rfl rfl (by decide)
  have ne9_7_10 : ¬ B4_1 = B1_2 := hO.ne 7 10 rfl rfl (by decide)
  have ne9_7_11 : ¬ B4_1 = B1_1 := hO.ne 7 11 rfl rfl (by decide)
  have ne9_7_12 : ¬ B4_1 = B1 := hO.ne 7 12 rfl rfl (by decide)
  have ne9_8_2 : ¬ B4 = nd8 := hO.ne 8 2 rfl rfl (by decide)
  have ne9_9_13 : ¬ B1_3 = cr := hO.ne 9 13 rfl rfl (by decide)
  have ne9_10_4 : ¬ B1_2 = B4_4 := hO.ne 10 4 rfl rfl (by decide)
  have ne9_10_5 : ¬ B1_2 = B4_3 := hO.ne 10 5 rfl rfl (by decide)
  have ne9_10_7 : ¬ B1_2 = B4_1 := hO.ne 10 7 rfl rfl (by decide)
  have ne9_10_11 : ¬ B1_2 = B1_1 := hO.ne 10 11 rfl rfl (by decide)
  have ne9_10_12 : ¬ B1_2 = B1 := hO.ne 10 12 rfl rfl (by decide)
  have ne9_11_4 : ¬ B1_1 = B4_4 := hO.ne 11 4 rfl rfl (by decide)
  have ne9_11_5 : ¬ B1_1 = B4_3 := hO.ne 11 5 rfl rfl (by decide)
  have ne9_11_7 : ¬ B1_1 = B4_1 := hO.ne 11 7 rfl rfl (by decide)
  have ne9_11_10 : ¬ B1_1 = B1_2 := hO.ne 11 10 rfl rfl (by decide)
  have ne9_11_12 : ¬ B1_1 = B1 := hO.ne 11 12 rfl rfl (by decide)
  have ne9_12_4 : ¬ B1 = B4_4 := hO.ne 12 4 rfl rfl (by decide)
  have ne9_12_5 : ¬ B1 = B4_3 := hO.ne 12 5 rfl rfl (by decide)
  have ne9_12_7 : ¬ B1 = B4_1 := hO.ne 12 7 rfl rfl (by decide)
  have ne9_12_10 : ¬ B1 = B1_2 := hO.ne 12 10 rfl rfl (by decide)
  have ne9_12_11 : ¬ B1 = B1_1 := hO.ne 12 11 rfl rfl (by decide)
  have ne9_13_9 : ¬ cr = B1_3 := hO.ne 13 9 rfl rfl (by decide)
  have c9_0_32 : u6.cell? ⟨pb, 32, none⟩ = some (.bool false) := hO.cell 0 rfl 32 (hD.ts)
  have c9_0_95 : u6.cell? ⟨pb, 95, none⟩ = some (.bool false) := hO.cell 0 rfl 95 (hD.rep)
  have c9_0_96 : u6.cell? ⟨pb, 96, none⟩ = some (.bool true) := hO.cell 0 rfl 96 (hD.stat)
  have c9_0_97 : u6.cell? ⟨pb, 97, none⟩ = some (.pointer (some ⟨cr, 0, none⟩)) := hO.cell 0 rfl 97 (hD.cls)
  have c9_0_117 : u6.cell? ⟨pb, 117, none⟩ = some (.map (some mp)) := hO.cell 0 rfl 117 (hD.imp)
  have c9_0_350 : u6.cell? ⟨pb, 350, none⟩ = some (.bool true) := hO.cell 0 rfl 350 (hD.dead)
  have lt9_0 : pb < u6.heap.size := hO.lt 0 rfl
  have y9_0 : ∀ o, u6.frozen? ⟨pb, o, none⟩ = false := hO.free 0 rfl
  obtain ⟨c9_2_0, c9_2_1, c9_2_2, c9_2_3, c9_2_4, lt9_2, y9_2, pl9_2⟩ := hO.k5 2 rfl
  obtain ⟨c9_3_0, c9_3_1, c9_3_2, c9_3_3, c9_3_4, c9_3_5, c9_3_6, c9_3_7, lt9_3, y9_3, -⟩ := hO.k8 3 rfl
  obtain ⟨c9_4_0, c9_4_1, c9_4_2, c9_4_3, c9_4_4, c9_4_5, lt9_4, y9_4, pl9_4⟩ := hO.k6 4 rfl
  obtain ⟨c9_5_0, c9_5_1, lt9_5, y9_5, pl9_5⟩ := hO.k2 5 rfl
  obtain ⟨lt9_6, y9_6, -⟩ := hO.k0 6 rfl
  obtain ⟨c9_7_0, c9_7_1, lt9_7, y9_7, pl9_7⟩ := hO.k2 7 rfl
  obtain ⟨c9_8_0, c9_8_1, c9_8_2, c9_8_3, c9_8_4, lt9_8, y9_8, pl9_8⟩ := hO.k5 8 rfl
  obtain ⟨c9_9_0, c9_9_1, lt9_9, y9_9, pl9_9⟩ := hO.k2 9 rfl
  obtain ⟨c9_10_0, c9_10_1, lt9_10, y9_10, pl9_10⟩ := hO.k2 10 rfl
  obtain ⟨c9_11_0, c9_11_1, lt9_11, y9_11, pl9_11⟩ := hO.k2 11 rfl
  obtain ⟨c9_12_0, lt9_12, y9_12, pl9_12⟩ := hO.k1 12 rfl
  obtain ⟨c9_13_0, c9_13_1, lt9_13, y9_13, pl9_13⟩ := hO.k2 13 rfl
  have HO := Lib.hid hO
  clear hO
  go_wp2_with fail
  have hO := HO.out
  clear HO ne9_2_8 ne9_4_5 ne9_4_7 ne9_4_10 ne9_4_11 ne9_4_12 ne9_5_4 ne9_5_7 ne9_5_10 ne9_5_11 ne9_5_12 ne9_7_4 ne9_7_5 ne9_7_10 ne9_7_11 ne9_7_12 ne9_8_2 ne9_9_13 ne9_10_4 ne9_10_5 ne9_10_7 ne9_10_11 ne9_10_12 ne9_11_4 ne9_11_5 ne9_11_7 ne9_11_10 ne9_11_12 ne9_12_4 ne9_12_5 ne9_12_7 ne9_12_10 ne9_12_11 ne9_13_9 c9_0_32 c9_0_95 c9_0_96 c9_0_97 c9_0_117 c9_0_350 lt9_0 y9_0 c9_2_0 c9_2_1 c9_2_2 c9_2_3 c9_2_4 lt9_2 y9_2 pl9_2 c9_3_0 c9_3_1 c9_3_2 c9_3_3 c9_3_4 c9_3_5 c9_3_6 c9_3_7 lt9_3 y9_3 c9_4_0 c9_4_1 c9_4_2 c9_4_3 c9_4_4 c9_4_5 lt9_4 y9_4 pl9_4 c9_5_0 c9_5_1 lt9_5 y9_5 pl9_5 lt9_6 y9_6 c9_7_0 c9_7_1 lt9_7 y9_7 pl9_7 c9_8_0 c9_8_1 c9_8_2 c9_8_3 c9_8_4 lt9_8 y9_8 pl9_8 c9_9_0 c9_9_1 lt9_9 y9_9 pl9_9 c9_10_0 c9_10_1 lt9_10 y9_10 pl9_10 c9_11_0 c9_11_1 lt9_11 y9_11 pl9_11 c9_12_0 lt9_12 y9_12 pl9_12 c9_13_0 c9_13_1 lt9_13 y9_13 pl9_13
  generalize hW : World.setCell _ _ _ = W10
  have hN : Own w0 W10 [row (pb) 206 PC, (mp, .map #[⟨.string ⟨#[95, 95, 115, 117, 112, 101, 114, 87, 114, 97, 112, 112, 101, 114]⟩, .agg #[.int .i32 0, .int .u32 0, .int .u32 2], 0⟩, ⟨.string ⟨#[95, 95, 115, 117, 112, 101, 114, 71, 101, 116]⟩, .agg #[.int .i32 0, .int .u32 0, .int .u32 3], 1⟩, ⟨.string ⟨#[95, 95, 112, 114, 105, 118, 97, 116, 101, 87, 114, 97, 112, 112, 101, 114]⟩, .agg #[.int .i32 0, .int .u32 0, .int .u32 4], 2⟩] 3), row (nd8) 223 #[.int .u32 0, .int .u32 3, .bool false, .bool false, .bool false], row (nd7) 56 #[.iface 220 (.pointer (some ⟨nd8, 0, none⟩)), .int .i32 loc, .slice (some ⟨B4_4, 0, none⟩) 3 3, .int .i32 0, .int .u8 0, .int .u8 0, .bool false, .bool false], row (B4_4) 30 #[.iface 220 (.pointer (some ⟨B4, 0, none⟩)), .int .i32 loc, .iface 247 (.pointer (some ⟨B4_2, 0, none⟩)), .int .i32 loc, .iface kT (.pointer (some ⟨kx, 0, none⟩)), .int .i32 kl], row (B4_3) 30 #[.iface 247 (.pointer (some ⟨B4_2, 0, none⟩)), .int .i32 loc], row (B4_2) 248 #[], row (B4_1) 30 #[.iface 220 (.pointer (some ⟨B4, 0, none⟩)), .int .i32 loc], row (B4) 223 #[.int .u32 0, .int .u32 1, .bool false, .bool false, .bool false], row (B1_3) 68 #[.int .u32 0, .int .u32 1], row (B1_2) 30 #[.iface 52 (.pointer (some ⟨nd7, 0, none⟩)), .int .i32 loc], row (B1_1) 30 #[.iface kT (.pointer (some ⟨kx, 0, none⟩)), .int .i32 kl], row (B1) 28 #[.int .i32 loc], row (cr) 68 #[.int .u32 0, .int .u32 1]] X := by
    rw [← hW]
    exact ((hO).set 10 rfl 0 _).set 10 rfl 1 _
  clear hW hO
  have hO := hN
  clear hN
  have z9_10_0 : W10.cell? ⟨B1_2, 0, none⟩ = some (.iface 52 (.pointer (some ⟨nd7, 0, none⟩))) := hO.cell 10 rfl 0 rfl
  have z9_10_1 : W10.cell? ⟨B1_2, 1, none⟩ = some (.int .i32 loc) := hO.cell 10 rfl 1 rfl
  refine bodyPost_ret (v := .agg #[.iface 52 (.pointer (some ⟨nd7, 0, none⟩)), .int .i32 loc]) ?_ rfl ⟨nd7, nd8, B4_4, B4, B4_2, rfl, hO.sub [0, 1, 13, 2, 3, 4, 8, 6] (by decide)⟩
  simp [results, Tryd.results37, go_sem, z9_10_0, z9_10_1]
def supGetniPost (pb : Nat) (PC : Array Value) (mp cr : Nat) (loc : Int) (kT kx : Nat) (kl : Int) (w0 : World) (X : Nat → Obj → Prop) (e : Ending) (w' : World) : Prop :=
  ∃ ca : Nat, ∃ b : Nat, ∃ sx : Nat, ∃ i1 : Nat, ∃ th : Nat, ∃ d1 : Nat, e = .returned (.agg #[.iface 52 (.pointer (some ⟨ca, 0, none⟩)), .int .i32 loc]) ∧ Own w0 w' [row (pb) 206 PC, (mp, .map #[⟨.string ⟨#[95, 95, 115, 117, 112, 101, 114, 87, 114, 97, 112, 112, 101, 114]⟩, .agg #[.int .i32 0, .int .u32 0, .int .u32 2], 0⟩, ⟨.string ⟨#[95, 95, 115, 117, 112, 101, 114, 71, 101, 116]⟩, .agg #[.int .i32 0, .int .u32 0, .int .u32 3], 1⟩, ⟨.string ⟨#[95, 95, 112, 114, 105, 118, 97, 116, 101, 87, 114, 97, 112, 112, 101, 114]⟩, .agg #[.int .i32 0, .int .u32 0, .int .u32 4], 2⟩] 3), row (cr) 68 #[.int .u32 0, .int .u32 1], row (b) 223 #[.int .u32 0, .int .u32 3, .bool false, .bool false, .bool false], row (ca) 56 #[.iface 220 (.pointer (some ⟨b, 0, none⟩)), .int .i32 loc, .slice (some ⟨sx, 0, none⟩) 3 3, .int .i32 0, .int .u8 0, .int .u8 0, .bool false, .bool false], row (sx) 30 #[.iface 40 (.pointer (some ⟨d1, 0, none⟩)), .int .i32 loc, .iface 247 (.pointer (some ⟨th, 0, none⟩)), .int .i32 loc, .iface kT (.pointer (some ⟨kx, 0, none⟩)), .int .i32 kl], row (i1) 223 #[.int .u32 0, .int .u32 1, .bool false, .bool false, .bool false], row (th) 248 #[], row (d1) 44 #[.iface 220 (.pointer (some ⟨i1, 0, none⟩)), .int .i32 loc, .string ⟨#[112, 114, 111, 116, 111, 116, 121, 112, 101]⟩, .int .i32 loc, .int .u8 0, .bool false, .bool false, .bool false]] X
set_option maxRecDepth 100000 in
set_option maxHeartbeats 1000000 in
theorem supGetni (pb : Nat) (PC : Array Value) (mp cr : Nat) (loc : Int) (kT kx : Nat) (kl : Int) (w0 w : World) (X : Nat → Obj → Prop) (hO : Own w0 w [row (pb) 206 PC, (mp, .map #[⟨.string ⟨#[95, 95, 115, 117, 112, 101, 114, 87, 114, 97, 112, 112, 101, 114]⟩, .agg #[.int .i32 0, .int .u32 0, .int .u32 2], 0⟩, ⟨.string ⟨#[95, 95, 115, 117, 112, 101, 114, 71, 101, 116]⟩, .agg #[.int .i32 0, .int .u32 0, .int .u32 3], 1⟩, ⟨.string ⟨#[95, 95, 112, 114, 105, 118, 97, 116, 101, 87, 114, 97, 112, 112, 101, 114]⟩, .agg #[.int .i32 0, .int .u32 0, .int .u32 4], 2⟩] 3), row (cr) 68 #[.int .u32 0, .int .u32 1]] X) (hD : Dead PC mp cr false false) :
    Calls Tryd.prog 37 #[.pointer (some ⟨pb, 0, none⟩), .agg #[.int .i32 loc], .agg #[.iface kT (.pointer (some ⟨kx, 0, none⟩)), .int .i32 kl]] w (supGetniPost pb PC mp cr loc kT kx kl w0 X) := by
  go_enter Tryd.func37, Tryd.ntmps37
  have c9_0_32 : w.cell? ⟨pb, 32, none⟩ = some (.bool false) := hO.cell 0 rfl 32 (hD.ts)
  have c9_0_95 : w.cell? ⟨pb, 95, none⟩ = some (.bool false) := hO.cell 0 rfl 95 (hD.rep)
  have c9_0_96 : w.cell? ⟨pb, 96, none⟩ = some (.bool false) := hO.cell 0 rfl 96 (hD.stat)
  have c9_0_97 : w.cell? ⟨pb, 97, none⟩ = some (.pointer (some ⟨cr, 0, none⟩)) := hO.cell 0 rfl 97 (hD.cls)
  have c9_0_117 : w.cell? ⟨pb, 117, none⟩ = some (.map (some mp)) := hO.cell 0 rfl 117 (hD.imp)
  have c9_0_350 : w.cell? ⟨pb, 350, none⟩ = some (.bool true) := hO.cell 0 rfl 350 (hD.dead)
  have lt9_0 : pb < w.heap.size := hO.lt 0 rfl
  have y9_0 : ∀ o, w.frozen? ⟨pb, o, none⟩ = false := hO.free 0 rfl
  obtain ⟨c9_2_0, c9_2_1, lt9_2, y9_2, -⟩ := hO.k2 2 rfl
  have HO := Lib.hid hO
  clear hO
  go_wp2_with fail
  have hO := HO.out
  clear HO c9_0_32 c9_0_95 c9_0_96 c9_0_97 c9_0_117 c9_0_350 lt9_0 y9_0 c9_2_0 c9_2_1 lt9_2 y9_2
  generalize hW : World.alloc _ _ = W2
  have hN : Own w0 W2 [row (w.heap.size + 1 + 1 + 1) 68 #[.int .u32 0, .int .u32 1], row (w.heap.size + 1 + 1) 30 #[.nilIface, .int .i32 0], row (w.heap.size + 1) 30 #[.iface kT (.pointer (some ⟨kx, 0, none⟩)), .int .i32 kl], row (w.heap.size) 28 #[.int .i32 loc], row (pb) 206 PC, (mp, .map #[⟨.string ⟨#[95, 95, 115, 117, 112, 101, 114, 87, 114, 97, 112, 112, 101, 114]⟩, .agg #[.int .i32 0, .int .u32 0, .int .u32 2], 0⟩, ⟨.string ⟨#[95, 95, 115, 117, 112, 101, 114, 71, 101, 116]⟩, .agg #[.int .i32 0, .int .u32 0, .int .u32 3], 1⟩, ⟨.string ⟨#[95, 95, 112, 114, 105, 118, 97, 116, 101, 87, 114, 97, 112, 112, 101, 114]⟩, .agg #[.int .i32 0, .int .u32 0, .int .u32 4], 2⟩] 3), row (cr) 68 #[.int .u32 0, .int .u32 1]] X := by
    rw [← hW]
    exact ((((hO).alloc' _ (w.heap.size) (by simp)).alloc' _ (w.heap.size + 1) (by simp)).alloc' _ (w.heap.size + 1 + 1) (by simp)).alloc' _ (w.heap.size + 1 + 1 + 1) (by simp)
  clear hW hO
  generalize w.heap.size + 1 + 1 + 1 = B1_3 at hN ⊢
  generalize w.heap.size + 1 + 1 = B1_2 at hN ⊢
  generalize w.heap.size + 1 = B1_1 at hN ⊢
  generalize w.heap.size = B1 at hN ⊢
  have hO := hN
  clear hN
  have hL := hO.apart
  have hX := hO.apartX
  have HL := Lib.hid hL
  have HX := Lib.hid hX
  clear hL hX
  have hP9 := hO.pick [4] (by decide)
  have T9 := usageDead pb PC mp cr false false 0 1 _ _ _ hP9 hD
  refine Calls.mono T9 ?_
  clear hP9 T9
  rintro e u3 ⟨rfl, hQ⟩
  have hN : Own w0 u3 [row (pb) 206 PC, row (B1_3) 68 #[.int .u32 0, .int .u32 1], row (B1_2) 30 #[.nilIface, .int .i32 0], row (B1_1) 30 #[.iface kT (.pointer (some ⟨kx, 0, none⟩)), .int .i32 kl], row (B1) 28 #[.int .i32 loc], (mp, .map #[⟨.string ⟨#[95, 95, 115, 117, 112, 101, 114, 87, 114, 97, 112, 112, 101, 114]⟩, .agg #[.int .i32 0, .int .u32 0, .int .u32 2], 0⟩, ⟨.string ⟨#[95, 95, 115, 117, 112, 101, 114, 71, 101, 116]⟩, .agg #[.int .i32 0, .int .u32 0, .int .u32 3], 1⟩, ⟨.string ⟨#[95, 95, 112, 114, 105, 118, 97, 116, 101, 87, 114, 97, 112, 112, 101, 114]⟩, .agg #[.int .i32 0, .int .u32 0, .int .u32 4], 2⟩] 3), row (cr) 68 #[.int .u32 0, .int .u32 1]] X := hQ.back HL.out HX.out [0, 1, 2, 3, 5, 6] (by decide) (by decide)
  clear hQ HL HX hO
  have hO := hN
  clear hN
  have ne9_1_6 : ¬ B1_3 = cr := hO.ne 1 6 rfl rfl (by decide)
  have ne9_2_3 : ¬ B1_2 = B1_1 := hO.ne 2 3 rfl rfl (by decide)
  have ne9_2_4 : ¬ B1_2 = B1 := hO.ne 2 4 rfl rfl (by decide)
  have ne9_3_2 : ¬ B1_1 = B1_2 := hO.ne 3 2 rfl rfl (by decide)
  have ne9_3_4 : ¬ B1_1 = B1 := hO.ne 3 4 rfl rfl (by decide)
  have ne9_4_2 : ¬ B1 = B1_2 := hO.ne 4 2 rfl rfl (by decide)
  have ne9_4_3 : ¬ B1 = B1_1 := hO.ne 4 3 rfl rfl (by decide)
  have ne9_6_1 : ¬ cr = B1_3 := hO.ne 6 1 rfl rfl (by decide)
  have c9_0_32 : u3.cell? ⟨pb, 32, none⟩ = some (.bool false) := hO.cell 0 rfl 32 (hD.ts)
  have c9_0_95 : u3.cell? ⟨pb, 95, none⟩ = some (.bool false) := hO.cell 0 rfl 95 (hD.rep)
  have c9_0_96 : u3.cell? ⟨pb, 96, none⟩ = some (.bool false) := hO.cell 0 rfl 96 (hD.stat)
  have c9_0_97 : u3.cell? ⟨pb, 97, none⟩ = some (.pointer (some ⟨cr, 0, none⟩)) := hO.cell 0 rfl 97 (hD.cls)
  have c9_0_117 : u3.cell? ⟨pb, 117, none⟩ = some (.map (some mp)) := hO.cell 0 rfl 117 (hD.imp)
  have c9_0_350 : u3.cell? ⟨pb, 350, none⟩ = some (.bool true) := hO.cell 0 rfl 350 (hD.dead)
  have lt9_0 : pb < u3.heap.size := hO.lt 0 rfl
  have y9_0 : ∀ o, u3.frozen? ⟨pb, o, none⟩ = false := hO.free 0 rfl
  obtain ⟨c9_1_0, c9_1_1, lt9_1, y9_1, pl9_1⟩ := hO.k2 1 rfl
  obtain ⟨c9_2_0, c9_2_1, lt9_2, y9_2, pl9_2⟩ := hO.k2 2 rfl
  obtain ⟨c9_3_0, c9_3_1, lt9_3, y9_3, pl9_3⟩ := hO.k2 3 rfl
  obtain ⟨c9_4_0, lt9_4, y9_4, pl9_4⟩ := hO.k1 4 rfl
  obtain ⟨c9_6_0, c9_6_1, lt9_6, y9_6, pl9_6⟩ := hO.k2 6 rfl
  have HO := Lib.hid hO
  clear hO
  go_wp2_with fail
  have hO := HO.out
  clear HO ne9_1_6 ne9_2_3 ne9_2_4 ne9_3_2 ne9_3_4 ne9_4_2 ne9_4_3 ne9_6_1 c9_0_32 c9_0_95 c9_0_96 c9_0_97 c9_0_117 c9_0_350 lt9_0 y9_0 c9_1_0 c9_1_1 lt9_1 y9_1 pl9_1 c9_2_0 c9_2_1 lt9_2 y9_2 pl9_2 c9_3_0 c9_3_1 lt9_3 y9_3 pl9_3 c9_4_0 lt9_4 y9_4 pl9_4 c9_6_0 c9_6_1 lt9_6 y9_6 pl9_6
  generalize hW : World.alloc _ _ = W5
  have hN : Own w0 W5 [row (u3.heap.size + 1 + 1 + 1 + 1 + 1) 30 #[.iface 40 (.pointer (some ⟨u3.heap.size + 1 + 1 + 1 + 1, 0, none⟩)), .int .i32 loc, .iface 247 (.pointer (some ⟨u3.heap.size + 1 + 1, 0, none⟩)), .int .i32 loc, .iface kT (.pointer (some ⟨kx, 0, none⟩)), .int .i32 kl], row (u3.heap.size + 1 + 1 + 1 + 1) 44 #[.iface 220 (.pointer (some ⟨u3.heap.size, 0, none⟩)), .int .i32 loc, .string ⟨#[112, 114, 111, 116, 111, 116, 121, 112, 101]⟩, .int .i32 loc, .int .u8 0, .bool false, .bool false, .bool false], row (u3.heap.size + 1 + 1 + 1) 30 #[.iface 247 (.pointer (some ⟨u3.heap.size + 1 + 1, 0, none⟩)), .int .i32 loc], row (u3.heap.size + 1 + 1) 248 #[], row (u3.heap.size + 1) 30 #[.iface 40 (.pointer (some ⟨u3.heap.size + 1 + 1 + 1 + 1, 0, none⟩)), .int .i32 loc], row (u3.heap.size) 223 #[.int .u32 0, .int .u32 1, .bool false, .bool false, .bool false], row (pb) 206 PC, row (B1_3) 68 #[.int .u32 0, .int .u32 1], row (B1_2) 30 #[.nilIface, .int .i32 0], row (B1_1) 30 #[.iface kT (.pointer (some ⟨kx, 0, none⟩)), .int .i32 kl], row (B1) 28 #[.int .i32 loc], (mp, .map #[⟨.string ⟨#[95, 95, 115, 117, 112, 101, 114, 87, 114, 97, 112, 112, 101, 114]⟩, .agg #[.int .i32 0, .int .u32 0, .int .u32 2], 0⟩, ⟨.string ⟨#[95, 95, 115, 117, 112, 101, 114, 71, 101, 116]⟩, .agg #[.int .i32 0, .int .u32 0, .int .u32 3], 1⟩, ⟨.string ⟨#[95, 95, 112, 114, 105, 118, 97, 116, 101, 87, 114, 97, 112, 112, 101, 114]⟩, .agg #[.int .i32 0, .int .u32 0, .int .u32 4], 2⟩] 3), row (cr) 68 #[.int .u32 0, .int .u32 1]] X := by
    rw [← hW]
    exact ((((((hO).alloc' _ (u3.heap.size) (by simp)).alloc' _ (u3.heap.size + 1) (by simp)).alloc' _ (u3.heap.size + 1 + 1) (by simp)).alloc' _ (u3.heap.size + 1 + 1 + 1) (by simp)).alloc' _ (u3.heap.size + 1 + 1 + 1 + 1) (by simp)).alloc' _ (u3.heap.size + 1 + 1 + 1 + 1 + 1) (by simp)
  clear hW hO
  generalize u3.heap.size + 1 + 1 + 1 + 1 + 1 = B4_5 at hN ⊢
  generalize u3.heap.size + 1 + 1 + 1 + 1 = B4_4 at hN ⊢
  generalize u3.heap.size + 1 + 1 + 1 = B4_3 at hN ⊢
  generalize u3.heap.size + 1 + 1 = B4_2 at hN ⊢
  generalize u3.heap.size + 1 = B4_1 at hN ⊢
  generalize u3.heap.size = B4 at hN ⊢
  have hO := hN
  clear hN
  have hL := hO.apart
  have hX := hO.apartX
  have HL := Lib.hid hL
  have HX := Lib.hid hX
  clear hL hX
  have hP9 := hO.pick [6, 11] (by decide)
  have T9 := callRG pb PC mp cr false false loc B4_5 3 3 _ _ _ hP9 hD
  refine Calls.mono T9 ?_
  clear hP9 T9
  rintro e u6 ⟨nd7, nd8, rfl, hQ⟩
  have hN : Own w0 u6 [row (pb) 206 PC, (mp, .map #[⟨.string ⟨#[95, 95, 115, 117, 112, 101, 114, 87, 114, 97, 112, 112, 101, 114]⟩, .agg #[.int .i32 0, .int .u32 0, .int .u32 2], 0⟩, ⟨.string ⟨#[95, 95, 115, 117, 112, 101, 114, 71, 101, 116]⟩, .agg #[.int .i32 0, .int .u32 0, .int .u32 3], 1⟩, ⟨.string ⟨#[95, 95, 112, 114, 105, 118, 97, 116, 101, 87, 114, 97, 112, 112, 101, 114]⟩, .agg #[.int .i32 0, .int .u32 0, .int .u32 4], 2⟩] 3), row (nd8) 223 #[.int .u32 0, .int .u32 3, .bool false, .bool false, .bool false], row (nd7) 56 #[.iface 220 (.pointer (some ⟨nd8, 0, none⟩)), .int .i32 loc, .slice (some ⟨B4_5, 0, none⟩) 3 3, .int .i32 0, .int .u8 0, .int .u8 0, .bool false, .bool false], row (B4_5) 30 #[.iface 40 (.pointer (some ⟨B4_4, 0, none⟩)), .int .i32 loc, .iface 247 (.pointer (some ⟨B4_2, 0, none⟩)), .int .i32 loc, .iface kT (.pointer (some ⟨kx, 0, none⟩)), .int .i32 kl], row (B4_4) 44 #[.iface 220 (.pointer (some ⟨B4, 0, none⟩)), .int .i32 loc, .string ⟨#[112, 114, 111, 116, 111, 116, 121, 112, 101]⟩, .int .i32 loc, .int .u8 0, .bool false, .bool false, .bool false], row (B4_3) 30 #[.iface 247 (.pointer (some ⟨B4_2, 0, none⟩)), .int .i32 loc], row (B4_2) 248 #[], row (B4_1) 30 #[.iface 40 (.pointer (some ⟨B4_4, 0, none⟩)), .int .i32 loc], row (B4) 223 #[.int .u32 0, .int .u32 1, .bool false, .bool false, .bool false], row (B1_3) 68 #[.int .u32 0, .int .u32 1], row (B1_2) 30 #[.nilIface, .int .i32 0], row (B1_1) 30 #[.iface kT (.pointer (some ⟨kx, 0, none⟩)), .int .i32 kl], row (B1) 28 #[.int .i32 loc], row (cr) 68 #[.int .u32 0, .int .u32 1]] X := hQ.back HL.out HX.out [0, 1, 2, 3, 4, 5, 7, 8, 9, 10, 12] (by decide) (by decide)
  clear hQ HL HX hO
  have hO := hN
  clear hN
  have ne9_2_9 : ¬ nd8 = B4 := hO.ne 2 9 rfl rfl (by decide)
  have ne9_4_6 : ¬ B4_5 = B4_3 := hO.ne 4 6 rfl rfl (by decide)
  have ne9_4_8 : ¬ B4_5 = B4_1 := hO.ne 4 8 rfl rfl (by decide)
  have ne9_4_11 : ¬ B4_5 = B1_2 := hO.ne 4 11 rfl rfl (by decide)
  have ne9_4_12 : ¬ B4_5 = B1_1 := hO.ne 4 12 rfl rfl (by decide)
  have ne9_4_13 : ¬ B4_5 = B1 := hO.ne 4 13 rfl rfl (by decide)
  have ne9_6_4 : ¬ B4_3 = B4_5 := hO.ne 6 4 rfl rfl (by decide)
  have ne9_6_8 : ¬ B4_3 = B4_1 := hO.ne 6 8 rfl rfl (by decide)
  have ne9_6_11 : ¬ B4_3 = B1_2 := hO.ne 6 11 rfl rfl (by decide)
  have ne9_6_12 : ¬ B4_3 = B1_1 := hO.ne 6 12 rfl rfl (by decide)
  have ne9_6_13 : ¬ B4_3 = B1 := hO.ne 6 13 rfl rfl (by decide)
  have ne9_8_4 : ¬ B4_1 = B4_5 := hO.ne 8 4 rfl rfl (by decide)
  have ne9_8_6 : ¬ B4_1 = B4_3 := hO.ne 8 6 rfl rfl (by decide)
  have ne9_8_11 : ¬ B4_1 = B1_2 := hO.ne 8 11 rfl rfl (by decide)
  have ne9_8_12 : ¬ B4_1 = B1_1 := hO.ne 8 12 rfl rfl (by decide)
  have ne9_8_13 : ¬ B4_1 = B1 := hO.ne 8 13 rfl rfl (by decide)
  have ne9_9_2 : ¬ B4 = nd8 := hO.ne 9 2 rfl rfl (by decide)
  have ne9_10_14 : ¬ B1_3 = cr := hO.ne 10 14 rfl rfl (by decide)
  have ne9_11_4 : ¬ B1_2 = B4_5 := hO.ne 11 4 rfl rfl (by decide)
  have ne9_11_6 : ¬ B1_2 = B4_3 := hO.ne 11 6 rfl rfl (by decide)
  have ne9_11_8 : ¬ B1_2 = B4_1 := hO.ne 11 8 rfl rfl (by decide)
  have ne9_11_12 : ¬ B1_2 = B1_1 := hO.ne 11 12 rfl rfl (by decide)
  have ne9_11_13 : ¬ B1_2 = B1 := hO.ne 11 13 rfl rfl (by decide)
  have ne9_12_4 : ¬ B1_1 = B4_5 := hO.ne 12 4 rfl rfl (by decide)
  have ne9_12_6 : ¬ B1_1 = B4_3 := hO.ne 12 6 rfl rfl (by decide)
  have ne9_12_8 : ¬ B1_1 = B4_1 := hO.ne 12 8 rfl rfl (by decide)
  have ne9_12_11 : ¬ B1_1 = B1_2 := hO.ne 12 11 rfl rfl (by decide)
  have ne9_12_13 : ¬ B1_1 = B1 := hO.ne 12 13 rfl rfl (by decide)
  have ne9_13_4 : ¬ B1 = B4_5 := hO.ne 13 4 rfl rfl (by decide)
  have ne9_13_6 : ¬ B1 = B4_3 := hO.ne 13 6 rfl rfl (by decide)
  have ne9_13_8 : ¬ B1 = B4_1 := hO.ne 13 8 rfl rfl (by decide)
  have ne9_13_11 : ¬ B1 = B1_2 := hO.ne 13 11 rfl rfl (by decide)
  have ne9_13_12 : ¬ B1 = B1_1 := hO.ne 13 12 rfl rfl (by decide)
  have ne9_14_10 : ¬ cr = B1_3 := hO.ne 14 10 rfl rfl (by decide)
  have c9_0_32 : u6.cell? ⟨pb, 32, none⟩ = some (.bool false) := hO.cell 0 rfl 32 (hD.ts)
  have c9_0_95 : u6.cell? ⟨pb, 95, none⟩ = some (.bool false) := hO.cell 0 rfl 95 (hD.rep)
  have c9_0_96 : u6.cell? ⟨pb, 96, none⟩ = some (.bool false) := hO.cell 0 rfl 96 (hD.stat)
  have c9_0_97 : u6.cell? ⟨pb, 97, none⟩ = some (.pointer (some ⟨cr, 0, none⟩)) := hO.cell 0 rfl 97 (hD.cls)
  have c9_0_117 : u6.cell? ⟨pb, 117, none⟩ = some (.map (some mp)) := hO.cell 0 rfl 117 (hD.imp)
  have c9_0_350 : u6.cell? ⟨pb, 350, none⟩ = some (.bool true) := hO.cell 0 rfl 350 (hD.dead)
  have lt9_0 : pb < u6.heap.size := hO.lt 0 rfl
  have y9_0 : ∀ o, u6.frozen? ⟨pb, o, none⟩ = false := hO.free 0 rfl
  obtain ⟨c9_2_0, c9_2_1, c9_2_2, c9_2_3, c9_2_4, lt9_2, y9_2, pl9_2⟩ := hO.k5 2 rfl
  obtain ⟨c9_3_0, c9_3_1, c9_3_2, c9_3_3, c9_3_4, c9_3_5, c9_3_6, c9_3_7, lt9_3, y9_3, -⟩ := hO.k8 3 rfl
  obtain ⟨c9_4_0, c9_4_1, c9_4_2, c9_4_3, c9_4_4, c9_4_5, lt9_4, y9_4, pl9_4⟩ := hO.k6 4 rfl
  obtain ⟨c9_5_0, c9_5_1, c9_5_2, c9_5_3, c9_5_4, c9_5_5, c9_5_6, c9_5_7, lt9_5, y9_5, -⟩ := hO.k8 5 rfl
  obtain ⟨c9_6_0, c9_6_1, lt9_6, y9_6, pl9_6⟩ := hO.k2 6 rfl
  obtain ⟨lt9_7, y9_7, -⟩ := hO.k0 7 rfl
  obtain ⟨c9_8_0, c9_8_1, lt9_8, y9_8, pl9_8⟩ := hO.k2 8 rfl
  obtain ⟨c9_9_0, c9_9_1, c9_9_2, c9_9_3, c9_9_4, lt9_9, y9_9, pl9_9⟩ := hO.k5 9 rfl
  obtain ⟨c9_10_0, c9_10_1, lt9_10, y9_10, pl9_10⟩ := hO.k2 10 rfl
  obtain ⟨c9_11_0, c9_11_1, lt9_11, y9_11, pl9_11⟩ := hO.k2 11 rfl
  obtain ⟨c9_12_0, c9_12_1, lt9_12, y9_12, pl9_12⟩ := hO.k2 12 rfl
  obtain ⟨c9_13_0, lt9_13, y9_13, pl9_13⟩ := hO.k1 13 rfl
  obtain ⟨c9_14_0, c9_14_1, lt9_14, y9_14, pl9_14⟩ := hO.k2 14 rfl
  have HO := Lib.hid hO
  clear hO
  go_wp2_with fail
  have hO := HO.out
  clear HO ne9_2_9 ne9_4_6 ne9_4_8 ne9_4_11 ne9_4_12 ne9_4_13 ne9_6_4 ne9_6_8 ne9_6_11 ne9_6_12 ne9_6_13 ne9_8_4 ne9_8_6 ne9_8_11 ne9_8_12 ne9_8_13 ne9_9_2 ne9_10_14 ne9_11_4 ne9_11_6 ne9_11_8 ne9_11_12 ne9_11_13 ne9_12_4 ne9_12_6 ne9_12_8 ne9_12_11 ne9_12_13 ne9_13_4 ne9_13_6 ne9_13_8 ne9_13_11 ne9_13_12 ne9_14_10 c9_0_32 c9_0_95 c9_0_96 c9_0_97 c9_0_117 c9_0_350 lt9_0 y9_0 c9_2_0 c9_2_1 c9_2_2 c9_2_3 c9_2_4 lt9_2 y9_2 pl9_2 c9_3_0 c9_3_1 c9_3_2 c9_3_3 c9_3_4 c9_3_5 c9_3_6 c9_3_7 lt9_3 y9_3 c9_4_0 c9_4_1 c9_4_2 c9_4_3 c9_4_4 c9_4_5 lt9_4 y9_4 pl9_4 c9_5_0 c9_5_1 c9_5_2 c9_5_3 c9_5_4 c9_5_5 c9_5_6 c9_5_7 lt9_5 y9_5 c9_6_0 c9_6_1 lt9_6 y9_6 pl9_6 lt9_7 y9_7 c9_8_0 c9_8_1 lt9_8 y9_8 pl9_8 c9_9_0 c9_9_1 c9_9_2 c9_9_3 c9_9_4 lt9_9 y9_9 pl9_9 c9_10_0 c9_10_1 lt9_10 y9_10 pl9_10 c9_11_0 c9_11_1 lt9_11 y9_11 pl9_11 c9_12_0 c9_12_1 lt9_12 y9_12 pl9_12 c9_13_0 lt9_13 y9_13 pl9_13 c9_14_0 c9_14_1 lt9_14 y9_14 pl9_14
  generalize hW : World.setCell _ _ _ = W10
  have hN : Own w0 W10 [row (pb) 206 PC, (mp, .map #[⟨.string ⟨#[95, 95, 115, 117, 112, 101, 114, 87, 114, 97, 112, 112, 101, 114]⟩, .agg #[.int .i32 0, .int .u32 0, .int .u32 2], 0⟩, ⟨.string ⟨#[95, 95, 115, 117, 112, 101, 114, 71, 101, 116]⟩, .agg #[.int .i32 0, .int .u32 0, .int .u32 3], 1⟩, ⟨.string ⟨#[95, 95, 112, 114, 105, 118, 97, 116, 101, 87, 114, 97, 112, 112, 101, 114]⟩, .agg #[.int .i32 0, .int .u32 0, .int .u32 4], 2⟩] 3), row (nd8) 223 #[.int .u32 0, .int .u32 3, .bool false, .bool false, .bool false], row (nd7) 56 #[.iface 220 (.pointer (some ⟨nd8, 0, none⟩)), .int .i32 loc, .slice (some ⟨B4_5, 0, none⟩) 3 3, .int .i32 0, .int .u8 0, .int .u8 0, .bool false, .bool false], row (B4_5) 30 #[.iface 40 (.pointer (some ⟨B4_4, 0, none⟩)), .int .i32 loc, .iface 247 (.pointer (some ⟨B4_2, 0, none⟩)), .int .i32 loc, .iface kT (.pointer (some ⟨kx, 0, none⟩)), .int .i32 kl], row (B4_4) 44 #[.iface 220 (.pointer (some ⟨B4, 0, none⟩)), .int .i32 loc, .string ⟨#[112, 114, 111, 116, 111, 116, 121, 112, 101]⟩, .int .i32 loc, .int .u8 0, .bool false, .bool false, .bool false], row (B4_3) 30 #[.iface 247 (.pointer (some ⟨B4_2, 0, none⟩)), .int .i32 loc], row (B4_2) 248 #[], row (B4_1) 30 #[.iface 40 (.pointer (some ⟨B4_4, 0, none⟩)), .int .i32 loc], row (B4) 223 #[.int .u32 0, .int .u32 1, .bool false, .bool false, .bool false], row (B1_3) 68 #[.int .u32 0, .int .u32 1], row (B1_2) 30 #[.iface 52 (.pointer (some ⟨nd7, 0, none⟩)), .int .i32 loc], row (B1_1) 30 #[.iface kT (.pointer (some ⟨kx, 0, none⟩)), .int .i32 kl], row (B1) 28 #[.int .i32 loc], row (cr) 68 #[.int .u32 0, .int .u32 1]] X := by
    rw [← hW]
    exact ((hO).set 11 rfl 0 _).set 11 rfl 1 _
  clear hW hO
  have hO := hN
  clear hN
  have z9_11_0 : W10.cell? ⟨B1_2, 0, none⟩ = some (.iface 52 (.pointer (some ⟨nd7, 0, none⟩))) := hO.cell 11 rfl 0 rfl
  have z9_11_1 : W10.cell? ⟨B1_2, 1, none⟩ = some (.int .i32 loc) := hO.cell 11 rfl 1 rfl
  refine bodyPost_ret (v := .agg #[.iface 52 (.pointer (some ⟨nd7, 0, none⟩)), .int .i32 loc]) ?_ rfl ⟨nd7, nd8, B4_5, B4, B4_2, B4_4, rfl, hO.sub [0, 1, 14, 2, 3, 4, 9, 7, 5] (by decide)⟩
  simp [results, Tryd.results37, go_sem, z9_11_0, z9_11_1]
end Go.Proofs.YtcbdjbjbikiaeaaDoor.Use
