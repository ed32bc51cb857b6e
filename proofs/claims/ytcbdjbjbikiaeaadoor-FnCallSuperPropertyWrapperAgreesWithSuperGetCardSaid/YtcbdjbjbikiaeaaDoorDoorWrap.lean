/- The doors of a super property. No condition. -/
import Derived.Test.YtcbdjbjbikiaeaaDoorOwnK
import Derived.Test.YtcbdjbjbikiaeaaDoorOwn
import Derived.Test.YtcbdjbjbikiaeaaDoorDeepCells
import Derived.Test.YtcbdjbjbikiaeaaDoorRows
import Derived.Test.YtcbdjbjbikiaeaaDoorDead
import Derived.Test.YtcbdjbjbikiaeaaDoorSuperWrap0
import Derived.Test.YtcbdjbjbikiaeaaDoorSuperWrap1
namespace Go.Proofs.YtcbdjbjbikiaeaaDoor.Use
open Go.ChangeShapes Go.WideShapes Go.ChangeAt Go.RowKit Go.Sort Own
set_option linter.unusedVariables false
def dsupWraprsPost (pb : Nat) (PC : Array Value) (mp cr : Nat) (loc : Int) (kT kx : Nat) (kl : Int) (w0 : World) (X : Nat → Obj → Prop) (e : Ending) (w' : World) : Prop :=
  ∃ ca : Nat, ∃ b : Nat, ∃ sx : Nat, ∃ i1 : Nat, ∃ i2 : Nat, ∃ dd : Nat, e = .returned (.agg #[.iface 40 (.pointer (some ⟨dd, 0, none⟩)), .int .i32 loc]) ∧ Own w0 w' [row (pb) 206 PC, (mp, .map #[⟨.string ⟨#[95, 95, 115, 117, 112, 101, 114, 87, 114, 97, 112, 112, 101, 114]⟩, .agg #[.int .i32 0, .int .u32 0, .int .u32 2], 0⟩, ⟨.string ⟨#[95, 95, 115, 117, 112, 101, 114, 71, 101, 116]⟩, .agg #[.int .i32 0, .int .u32 0, .int .u32 3], 1⟩, ⟨.string ⟨#[95, 95, 112, 114, 105, 118, 97, 116, 101, 87, 114, 97, 112, 112, 101, 114]⟩, .agg #[.int .i32 0, .int .u32 0, .int .u32 4], 2⟩] 3), row (cr) 68 #[.int .u32 0, .int .u32 1], row (b) 223 #[.int .u32 0, .int .u32 2, .bool false, .bool false, .bool false], row (ca) 56 #[.iface 220 (.pointer (some ⟨b, 0, none⟩)), .int .i32 loc, .slice (some ⟨sx, 0, none⟩) 3 3, .int .i32 0, .int .u8 0, .int .u8 0, .bool false, .bool false], row (sx) 30 #[.iface 220 (.pointer (some ⟨i1, 0, none⟩)), .int .i32 loc, .iface 220 (.pointer (some ⟨i2, 0, none⟩)), .int .i32 loc, .iface kT (.pointer (some ⟨kx, 0, none⟩)), .int .i32 kl], row (i1) 223 #[.int .u32 0, .int .u32 1, .bool false, .bool false, .bool false], row (i2) 223 #[.int .u32 0, .int .u32 1, .bool false, .bool false, .bool false], row (dd) 44 #[.iface 52 (.pointer (some ⟨ca, 0, none⟩)), .int .i32 loc, .string ⟨#[95]⟩, .int .i32 loc, .int .u8 0, .bool false, .bool false, .bool false]] X
set_option maxRecDepth 100000 in
set_option maxHeartbeats 1000000 in
theorem dsupWraprs (pb : Nat) (PC : Array Value) (mp cr : Nat) (loc : Int) (kT kx : Nat) (kl : Int) (w0 w : World) (X : Nat → Obj → Prop) (hO : Own w0 w [row (pb) 206 PC, (mp, .map #[⟨.string ⟨#[95, 95, 115, 117, 112, 101, 114, 87, 114, 97, 112, 112, 101, 114]⟩, .agg #[.int .i32 0, .int .u32 0, .int .u32 2], 0⟩, ⟨.string ⟨#[95, 95, 115, 117, 112, 101, 114, 71, 101, 116]⟩, .agg #[.int .i32 0, .int .u32 0, .int .u32 3], 1⟩, ⟨.string ⟨#[95, 95, 112, 114, 105, 118, 97, 116, 101, 87, 114, 97, 112, 112, 101, 114]⟩, .agg #[.int .i32 0, .int .u32 0, .int .u32 4], 2⟩] 3), row (cr) 68 #[.int .u32 0, .int .u32 1]] X) (hD : Dead PC mp cr true true) :
    Calls Tryd.prog 16 #[.pointer (some ⟨pb, 0, none⟩), .int .i32 loc, .agg #[.iface kT (.pointer (some ⟨kx, 0, none⟩)), .int .i32 kl]] w (dsupWraprsPost pb PC mp cr loc kT kx kl w0 X) := by
  go_enter Tryd.func16, Tryd.ntmps16
  obtain ⟨c9_2_0, c9_2_1, lt9_2, y9_2, -⟩ := hO.k2 2 rfl
  have HO := Lib.hid hO
  clear hO
  go_wp2_with fail
  have hO := HO.out
  clear HO c9_2_0 c9_2_1 lt9_2 y9_2
  generalize hW : World.alloc _ _ = W2
  have hN : Own w0 W2 [row (w.heap.size + 1) 30 #[.nilIface, .int .i32 0], row (w.heap.size) 30 #[.iface kT (.pointer (some ⟨kx, 0, none⟩)), .int .i32 kl], row (pb) 206 PC, (mp, .map #[⟨.string ⟨#[95, 95, 115, 117, 112, 101, 114, 87, 114, 97, 112, 112, 101, 114]⟩, .agg #[.int .i32 0, .int .u32 0, .int .u32 2], 0⟩, ⟨.string ⟨#[95, 95, 115, 117, 112, 101, 114, 71, 101, 116]⟩, .agg #[.int .i32 0, .int .u32 0, .int .u32 3], 1⟩, ⟨.string ⟨#[95, 95, 112, 114, 105, 118, 97, 116, 101, 87, 114, 97, 112, 112, 101, 114]⟩, .agg #[.int .i32 0, .int .u32 0, .int .u32 4], 2⟩] 3), row (cr) 68 #[.int .u32 0, .int .u32 1]] X := by
    rw [← hW]
    exact ((hO).alloc' _ (w.heap.size) (by simp)).alloc' _ (w.heap.size + 1) (by simp)
  clear hW hO
  generalize w.heap.size + 1 = B1_1 at hN ⊢
  generalize w.heap.size = B1 at hN ⊢
  have hO := hN
  clear hN
  have hL := hO.apart
  have hX := hO.apartX
  have HL := Lib.hid hL
  have HX := Lib.hid hX
  clear hL hX
  have hP9 := hO.pick [2, 3, 4] (by decide)
  have T9 := supWraprs pb PC mp cr loc kT kx kl _ _ _ hP9 hD
  refine Calls.mono T9 ?_
  clear hP9 T9
  rintro e u3 ⟨nd4, nd5, nd6, nd7, nd8, nd9, rfl, hQ⟩
  have hN : Own w0 u3 [row (pb) 206 PC, (mp, .map #[⟨.string ⟨#[95, 95, 115, 117, 112, 101, 114, 87, 114, 97, 112, 112, 101, 114]⟩, .agg #[.int .i32 0, .int .u32 0, .int .u32 2], 0⟩, ⟨.string ⟨#[95, 95, 115, 117, 112, 101, 114, 71, 101, 116]⟩, .agg #[.int .i32 0, .int .u32 0, .int .u32 3], 1⟩, ⟨.string ⟨#[95, 95, 112, 114, 105, 118, 97, 116, 101, 87, 114, 97, 112, 112, 101, 114]⟩, .agg #[.int .i32 0, .int .u32 0, .int .u32 4], 2⟩] 3), row (cr) 68 #[.int .u32 0, .int .u32 1], row (nd5) 223 #[.int .u32 0, .int .u32 2, .bool false, .bool false, .bool false], row (nd4) 56 #[.iface 220 (.pointer (some ⟨nd5, 0, none⟩)), .int .i32 loc, .slice (some ⟨nd6, 0, none⟩) 3 3, .int .i32 0, .int .u8 0, .int .u8 0, .bool false, .bool false], row (nd6) 30 #[.iface 220 (.pointer (some ⟨nd7, 0, none⟩)), .int .i32 loc, .iface 220 (.pointer (some ⟨nd8, 0, none⟩)), .int .i32 loc, .iface kT (.pointer (some ⟨kx, 0, none⟩)), .int .i32 kl], row (nd7) 223 #[.int .u32 0, .int .u32 1, .bool false, .bool false, .bool false], row (nd8) 223 #[.int .u32 0, .int .u32 1, .bool false, .bool false, .bool false], row (nd9) 44 #[.iface 52 (.pointer (some ⟨nd4, 0, none⟩)), .int .i32 loc, .string ⟨#[95]⟩, .int .i32 loc, .int .u8 0, .bool false, .bool false, .bool false], row (B1_1) 30 #[.nilIface, .int .i32 0], row (B1) 30 #[.iface kT (.pointer (some ⟨kx, 0, none⟩)), .int .i32 kl]] X := hQ.back HL.out HX.out [0, 1] (by decide) (by decide)
  clear hQ HL HX hO
  have hO := hN
  clear hN
  obtain ⟨c9_2_0, c9_2_1, lt9_2, y9_2, -⟩ := hO.k2 2 rfl
  obtain ⟨c9_3_0, c9_3_1, c9_3_2, c9_3_3, c9_3_4, lt9_3, y9_3, -⟩ := hO.k5 3 rfl
  obtain ⟨c9_4_0, c9_4_1, c9_4_2, c9_4_3, c9_4_4, c9_4_5, c9_4_6, c9_4_7, lt9_4, y9_4, -⟩ := hO.k8 4 rfl
  obtain ⟨c9_5_0, c9_5_1, c9_5_2, c9_5_3, c9_5_4, c9_5_5, lt9_5, y9_5, -⟩ := hO.k6 5 rfl
  obtain ⟨c9_6_0, c9_6_1, c9_6_2, c9_6_3, c9_6_4, lt9_6, y9_6, -⟩ := hO.k5 6 rfl
  obtain ⟨c9_7_0, c9_7_1, c9_7_2, c9_7_3, c9_7_4, lt9_7, y9_7, -⟩ := hO.k5 7 rfl
  obtain ⟨c9_8_0, c9_8_1, c9_8_2, c9_8_3, c9_8_4, c9_8_5, c9_8_6, c9_8_7, lt9_8, y9_8, -⟩ := hO.k8 8 rfl
  obtain ⟨c9_9_0, c9_9_1, lt9_9, y9_9, -⟩ := hO.k2 9 rfl
  obtain ⟨c9_10_0, c9_10_1, lt9_10, y9_10, -⟩ := hO.k2 10 rfl
  have HO := Lib.hid hO
  clear hO
  go_wp2_with fail
  have hO := HO.out
  clear HO c9_2_0 c9_2_1 lt9_2 y9_2 c9_3_0 c9_3_1 c9_3_2 c9_3_3 c9_3_4 lt9_3 y9_3 c9_4_0 c9_4_1 c9_4_2 c9_4_3 c9_4_4 c9_4_5 c9_4_6 c9_4_7 lt9_4 y9_4 c9_5_0 c9_5_1 c9_5_2 c9_5_3 c9_5_4 c9_5_5 lt9_5 y9_5 c9_6_0 c9_6_1 c9_6_2 c9_6_3 c9_6_4 lt9_6 y9_6 c9_7_0 c9_7_1 c9_7_2 c9_7_3 c9_7_4 lt9_7 y9_7 c9_8_0 c9_8_1 c9_8_2 c9_8_3 c9_8_4 c9_8_5 c9_8_6 c9_8_7 lt9_8 y9_8 c9_9_0 c9_9_1 lt9_9 y9_9 c9_10_0 c9_10_1 lt9_10 y9_10
  generalize hW : World.setCell _ _ _ = W11
  have hN : Own w0 W11 [row (pb) 206 PC, (mp, .map #[⟨.string ⟨#[95, 95, 115, 117, 112, 101, 114, 87, 114, 97, 112, 112, 101, 114]⟩, .agg #[.int .i32 0, .int .u32 0, .int .u32 2], 0⟩, ⟨.string ⟨#[95, 95, 115, 117, 112, 101, 114, 71, 101, 116]⟩, .agg #[.int .i32 0, .int .u32 0, .int .u32 3], 1⟩, ⟨.string ⟨#[95, 95, 112, 114, 105, 118, 97, 116, 101, 87, 114, 97, 112, 112, 101, 114]⟩, .agg #[.int .i32 0, .int .u32 0, .int .u32 4], 2⟩] 3), row (cr) 68 #[.int .u32 0, .int .u32 1], row (nd5) 223 #[.int .u32 0, .int .u32 2, .bool false, .bool false, .bool false], row (nd4) 56 #[.iface 220 (.pointer (some ⟨nd5, 0, none⟩)), .int .i32 loc, .slice (some ⟨nd6, 0, none⟩) 3 3, .int .i32 0, .int .u8 0, .int .u8 0, .bool false, .bool false], row (nd6) 30 #[.iface 220 (.pointer (some ⟨nd7, 0, none⟩)), .int .i32 loc, .iface 220 (.pointer (some ⟨nd8, 0, none⟩)), .int .i32 loc, .iface kT (.pointer (some ⟨kx, 0, none⟩)), .int .i32 kl], row (nd7) 223 #[.int .u32 0, .int .u32 1, .bool false, .bool false, .bool false], row (nd8) 223 #[.int .u32 0, .int .u32 1, .bool false, .bool false, .bool false], row (nd9) 44 #[.iface 52 (.pointer (some ⟨nd4, 0, none⟩)), .int .i32 loc, .string ⟨#[95]⟩, .int .i32 loc, .int .u8 0, .bool false, .bool false, .bool false], row (B1_1) 30 #[.iface 40 (.pointer (some ⟨nd9, 0, none⟩)), .int .i32 loc], row (B1) 30 #[.iface kT (.pointer (some ⟨kx, 0, none⟩)), .int .i32 kl]] X := by
    rw [← hW]
    exact ((hO).set 9 rfl 0 _).set 9 rfl 1 _
  clear hW hO
  have hO := hN
  clear hN
  have z9_9_0 : W11.cell? ⟨B1_1, 0, none⟩ = some (.iface 40 (.pointer (some ⟨nd9, 0, none⟩))) := hO.cell 9 rfl 0 rfl
  have z9_9_1 : W11.cell? ⟨B1_1, 1, none⟩ = some (.int .i32 loc) := hO.cell 9 rfl 1 rfl
  refine bodyPost_ret (v := .agg #[.iface 40 (.pointer (some ⟨nd9, 0, none⟩)), .int .i32 loc]) ?_ rfl ⟨nd4, nd5, nd6, nd7, nd8, nd9, rfl, hO.sub [0, 1, 2, 3, 4, 5, 6, 7, 8] (by decide)⟩
  simp [results, Tryd.results16, go_sem, z9_9_0, z9_9_1]
def dsupWrapriPost (pb : Nat) (PC : Array Value) (mp cr : Nat) (loc : Int) (kT kx : Nat) (kl : Int) (w0 : World) (X : Nat → Obj → Prop) (e : Ending) (w' : World) : Prop :=
  ∃ ca : Nat, ∃ b : Nat, ∃ sx : Nat, ∃ i1 : Nat, ∃ i2 : Nat, ∃ d1 : Nat, ∃ dd : Nat, e = .returned (.agg #[.iface 40 (.pointer (some ⟨dd, 0, none⟩)), .int .i32 loc]) ∧ Own w0 w' [row (pb) 206 PC, (mp, .map #[⟨.string ⟨#[95, 95, 115, 117, 112, 101, 114, 87, 114, 97, 112, 112, 101, 114]⟩, .agg #[.int .i32 0, .int .u32 0, .int .u32 2], 0⟩, ⟨.string ⟨#[95, 95, 115, 117, 112, 101, 114, 71, 101, 116]⟩, .agg #[.int .i32 0, .int .u32 0, .int .u32 3], 1⟩, ⟨.string ⟨#[95, 95, 112, 114, 105, 118, 97, 116, 101, 87, 114, 97, 112, 112, 101, 114]⟩, .agg #[.int .i32 0, .int .u32 0, .int .u32 4], 2⟩] 3), row (cr) 68 #[.int .u32 0, .int .u32 1], row (b) 223 #[.int .u32 0, .int .u32 2, .bool false, .bool false, .bool false], row (ca) 56 #[.iface 220 (.pointer (some ⟨b, 0, none⟩)), .int .i32 loc, .slice (some ⟨sx, 0, none⟩) 3 3, .int .i32 0, .int .u8 0, .int .u8 0, .bool false, .bool false], row (sx) 30 #[.iface 40 (.pointer (some ⟨d1, 0, none⟩)), .int .i32 loc, .iface 220 (.pointer (some ⟨i2, 0, none⟩)), .int .i32 loc, .iface kT (.pointer (some ⟨kx, 0, none⟩)), .int .i32 kl], row (i1) 223 #[.int .u32 0, .int .u32 1, .bool false, .bool false, .bool false], row (i2) 223 #[.int .u32 0, .int .u32 1, .bool false, .bool false, .bool false], row (d1) 44 #[.iface 220 (.pointer (some ⟨i1, 0, none⟩)), .int .i32 loc, .string ⟨#[112, 114, 111, 116, 111, 116, 121, 112, 101]⟩, .int .i32 loc, .int .u8 0, .bool false, .bool false, .bool false], row (dd) 44 #[.iface 52 (.pointer (some ⟨ca, 0, none⟩)), .int .i32 loc, .string ⟨#[95]⟩, .int .i32 loc, .int .u8 0, .bool false, .bool false, .bool false]] X
set_option maxRecDepth 100000 in
set_option maxHeartbeats 1000000 in
theorem dsupWrapri (pb : Nat) (PC : Array Value) (mp cr : Nat) (loc : Int) (kT kx : Nat) (kl : Int) (w0 w : World) (X : Nat → Obj → Prop) (hO : Own w0 w [row (pb) 206 PC, (mp, .map #[⟨.string ⟨#[95, 95, 115, 117, 112, 101, 114, 87, 114, 97, 112, 112, 101, 114]⟩, .agg #[.int .i32 0, .int .u32 0, .int .u32 2], 0⟩, ⟨.string ⟨#[95, 95, 115, 117, 112, 101, 114, 71, 101, 116]⟩, .agg #[.int .i32 0, .int .u32 0, .int .u32 3], 1⟩, ⟨.string ⟨#[95, 95, 112, 114, 105, 118, 97, 116, 101, 87, 114, 97, 112, 112, 101, 114]⟩, .agg #[.int .i32 0, .int .u32 0, .int .u32 4], 2⟩] 3), row (cr) 68 #[.int .u32 0, .int .u32 1]] X) (hD : Dead PC mp cr true false) :
    Calls Tryd.prog 16 #[.pointer (some ⟨pb, 0, none⟩), .int .i32 loc, .agg #[.iface kT (.pointer (some ⟨kx, 0, none⟩)), .int .i32 kl]] w (dsupWrapriPost pb PC mp cr loc kT kx kl w0 X) := by
  go_enter Tryd.func16, Tryd.ntmps16
  obtain ⟨c9_2_0, c9_2_1, lt9_2, y9_2, -⟩ := hO.k2 2 rfl
  have HO := Lib.hid hO
  clear hO
  go_wp2_with fail
  have hO := HO.out
  clear HO c9_2_0 c9_2_1 lt9_2 y9_2
  generalize hW : World.alloc _ _ = W2
  have hN : Own w0 W2 [row (w.heap.size + 1) 30 #[.nilIface, .int .i32 0], row (w.heap.size) 30 #[.iface kT (.pointer (some ⟨kx, 0, none⟩)), .int .i32 kl], row (pb) 206 PC, (mp, .map #[⟨.string ⟨#[95, 95, 115, 117, 112, 101, 114, 87, 114, 97, 112, 112, 101, 114]⟩, .agg #[.int .i32 0, .int .u32 0, .int .u32 2], 0⟩, ⟨.string ⟨#[95, 95, 115, 117, 112, 101, 114, 71, 101, 116]⟩, .agg #[.int .i32 0, .int .u32 0, .int .u32 3], 1⟩, ⟨.string ⟨#[95, 95, 112, 114, 105, 118, 97, 116, 101, 87, 114, 97, 112, 112, 101, 114]⟩, .agg #[.int .i32 0, .int .u32 0, .int .u32 4], 2⟩] 3), row (cr) 68 #[.int .u32 0, .int .u32 1]] X := by
    rw [← hW]
    exact ((hO).alloc' _ (w.heap.size) (by simp)).alloc' _ (w.heap.size + 1) (by simp)
  clear hW hO
  generalize w.heap.size + 1 = B1_1 at hN ⊢
  generalize w.heap.size = B1 at hN ⊢
  have hO := hN
  clear hN
  have hL := hO.apart
  have hX := hO.apartX
  have HL := Lib.hid hL
  have HX := Lib.hid hX
  clear hL hX
  have hP9 := hO.pick [2, 3, 4] (by decide)
  have T9 := supWrapri pb PC mp cr loc kT kx kl _ _ _ hP9 hD
  refine Calls.mono T9 ?_
  clear hP9 T9
  rintro e u3 ⟨nd4, nd5, nd6, nd7, nd8, nd9, nd10, rfl, hQ⟩
  have hN : Own w0 u3 [row (pb) 206 PC, (mp, .map #[⟨.string ⟨#[95, 95, 115, 117, 112, 101, 114, 87, 114, 97, 112, 112, 101, 114]⟩, .agg #[.int .i32 0, .int .u32 0, .int .u32 2], 0⟩, ⟨.string ⟨#[95, 95, 115, 117, 112, 101, 114, 71, 101, 116]⟩, .agg #[.int .i32 0, .int .u32 0, .int .u32 3], 1⟩, ⟨.string ⟨#[95, 95, 112, 114, 105, 118, 97, 116, 101, 87, 114, 97, 112, 112, 101, 114]⟩, .agg #[.int .i32 0, .int .u32 0, .int .u32 4], 2⟩] 3), row (cr) 68 #[.int .u32 0, .int .u32 1], row (nd5) 223 #[.int .u32 0, .int .u32 2, .bool false, .bool false, .bool false], row (nd4) 56 #[.iface 220 (.pointer (some ⟨nd5, 0, none⟩)), .int .i32 loc, .slice (some ⟨nd6, 0, none⟩) 3 3, .int .i32 0, .int .u8 0, .int .u8 0, .bool false, .bool false], row (nd6) 30 #[.iface 40 (.pointer (some ⟨nd9, 0, none⟩)), .int .i32 loc, .iface 220 (.pointer (some ⟨nd8, 0, none⟩)), .int .i32 loc, .iface kT (.pointer (some ⟨kx, 0, none⟩)), .int .i32 kl], row (nd7) 223 #[.int .u32 0, .int .u32 1, .bool false, .bool false, .bool false], row (nd8) 223 #[.int .u32 0, .int .u32 1, .bool false, .bool false, .bool false], row (nd9) 44 #[.iface 220 (.pointer (some ⟨nd7, 0, none⟩)), .int .i32 loc, .string ⟨#[112, 114, 111, 116, 111, 116, 121, 112, 101]⟩, .int .i32 loc, .int .u8 0, .bool false, .bool false, .bool false], row (nd10) 44 #[.iface 52 (.pointer (some ⟨nd4, 0, none⟩)), .int .i32 loc, .string ⟨#[95]⟩, .int .i32 loc, .int .u8 0, .bool false, .bool false, .bool false], row (B1_1) 30 #[.nilIface, .int .i32 0], row (B1) 30 #[.iface kT (.pointer (some ⟨kx, 0, none⟩)), .int .i32 kl]] X := hQ.back HL.out HX.out [0, 1] (by decide) (by decide)
  clear hQ HL HX hO
  have hO := hN
  clear hN
  obtain ⟨c9_2_0, c9_2_1, lt9_2, y9_2, -⟩ := hO.k2 2 rfl
  obtain ⟨c9_3_0, c9_3_1, c9_3_2, c9_3_3, c9_3_4, lt9_3, y9_3, -⟩ := hO.k5 3 rfl
  obtain ⟨c9_4_0, c9_4_1, c9_4_2, c9_4_3, c9_4_4, c9_4_5, c9_4_6, c9_4_7, lt9_4, y9_4, -⟩ := hO.k8 4 rfl
  obtain ⟨c9_5_0, c9_5_1, c9_5_2, c9_5_3, c9_5_4, c9_5_5, lt9_5, y9_5, -⟩ := hO.k6 5 rfl
  obtain ⟨c9_6_0, c9_6_1, c9_6_2, c9_6_3, c9_6_4, lt9_6, y9_6, -⟩ := hO.k5 6 rfl
  obtain ⟨c9_7_0, c9_7_1, c9_7_2, c9_7_3, c9_7_4, lt9_7, y9_7, -⟩ := hO.k5 7 rfl
  obtain ⟨c9_8_0, c9_8_1, c9_8_2, c9_8_3, c9_8_4, c9_8_5, c9_8_6, c9_8_7, lt9_8, y9_8, -⟩ := hO.k8 8 rfl
  obtain ⟨c9_9_0, c9_9_1, c9_9_2, c9_9_3, c9_9_4, c9_9_5, c9_9_6, c9_9_7, lt9_9, y9_9, -⟩ := hO.k8 9 rfl
  obtain ⟨c9_10_0, c9_10_1, lt9_10, y9_10, -⟩ := hO.k2 10 rfl
  obtain ⟨c9_11_0, c9_11_1, lt9_11, y9_11, -⟩ := hO.k2 11 rfl
  have HO := Lib.hid hO
  clear hO
  go_wp2_with fail
  have hO := HO.out
  clear HO c9_2_0 c9_2_1 lt9_2 y9_2 c9_3_0 c9_3_1 c9_3_2 c9_3_3 c9_3_4 lt9_3 y9_3 c9_4_0 c9_4_1 c9_4_2 c9_4_3 c9_4_4 c9_4_5 c9_4_6 c9_4_7 lt9_4 y9_4 c9_5_0 c9_5_1 c9_5_2 c9_5_3 c9_5_4 c9_5_5 lt9_5 y9_5 c9_6_0 c9_6_1 c9_6_2 c9_6_3 c9_6_4 lt9_6 y9_6 c9_7_0 c9_7_1 c9_7_2 c9_7_3 c9_7_4 lt9_7 y9_7 c9_8_0 c9_8_1 c9_8_2 c9_8_3 c9_8_4 c9_8_5 c9_8_6 c9_8_7 lt9_8 y9_8 c9_9_0 c9_9_1 c9_9_2 c9_9_3 c9_9_4 c9_9_5 c9_9_6 c9_9_7 lt9_9 y9_9 c9_10_0 c9_10_1 lt9_10 y9_10 c9_11_0 c9_11_1 lt9_11 y9_11
  generalize hW : World.setCell _ _ _ = W12
  have hN : Own w0 W12 [row (pb) 206 PC, (mp, .map #[⟨.string ⟨#[95, 95, 115, 117, 112, 101, 114, 87, 114, 97, 112, 112, 101, 114]⟩, .agg #[.int .i32 0, .int .u32 0, .int .u32 2], 0⟩, ⟨.string ⟨#[95, 95, 115, 117, 112, 101, 114, 71, 101, 116]⟩, .agg #[.int .i32 0, .int .u32 0, .int .u32 3], 1⟩, ⟨.string ⟨#[95, 95, 112, 114, 105, 118, 97, 116, 101, 87, 114, 97, 112, 112, 101, 114]⟩, .agg #[.int .i32 0, .int .u32 0, .int .u32 4], 2⟩] 3), row (cr) 68 #[.int .u32 0, .int .u32 1], row (nd5) 223 #[.int .u32 0, .int .u32 2, .bool false, .bool false, .bool false], row (nd4) 56 #[.iface 220 (.pointer (some ⟨nd5, 0, none⟩)), .int .i32 loc, .slice (some ⟨nd6, 0, none⟩) 3 3, .int .i32 0, .int .u8 0, .int .u8 0, .bool false, .bool false], row (nd6) 30 #[.iface 40 (.pointer (some ⟨nd9, 0, none⟩)), .int .i32 loc, .iface 220 (.pointer (some ⟨nd8, 0, none⟩)), .int .i32 loc, .iface kT (.pointer (some ⟨kx, 0, none⟩)), .int .i32 kl], row (nd7) 223 #[.int .u32 0, .int .u32 1, .bool false, .bool false, .bool false], row (nd8) 223 #[.int .u32 0, .int .u32 1, .bool false, .bool false, .bool false], row (nd9) 44 #[.iface 220 (.pointer (some ⟨nd7, 0, none⟩)), .int .i32 loc, .string ⟨#[112, 114, 111, 116, 111, 116, 121, 112, 101]⟩, .int .i32 loc, .int .u8 0, .bool false, .bool false, .bool false], row (nd10) 44 #[.iface 52 (.pointer (some ⟨nd4, 0, none⟩)), .int .i32 loc, .string ⟨#[95]⟩, .int .i32 loc, .int .u8 0, .bool false, .bool false, .bool false], row (B1_1) 30 #[.iface 40 (.pointer (some ⟨nd10, 0, none⟩)), .int .i32 loc], row (B1) 30 #[.iface kT (.pointer (some ⟨kx, 0, none⟩)), .int .i32 kl]] X := by
    rw [← hW]
    exact ((hO).set 10 rfl 0 _).set 10 rfl 1 _
  clear hW hO
  have hO := hN
  clear hN
  have z9_10_0 : W12.cell? ⟨B1_1, 0, none⟩ = some (.iface 40 (.pointer (some ⟨nd10, 0, none⟩))) := hO.cell 10 rfl 0 rfl
  have z9_10_1 : W12.cell? ⟨B1_1, 1, none⟩ = some (.int .i32 loc) := hO.cell 10 rfl 1 rfl
  refine bodyPost_ret (v := .agg #[.iface 40 (.pointer (some ⟨nd10, 0, none⟩)), .int .i32 loc]) ?_ rfl ⟨nd4, nd5, nd6, nd7, nd8, nd9, nd10, rfl, hO.sub [0, 1, 2, 3, 4, 5, 6, 7, 8, 9] (by decide)⟩
  simp [results, Tryd.results16, go_sem, z9_10_0, z9_10_1]
def dsupWrapnsPost (pb : Nat) (PC : Array Value) (mp cr : Nat) (loc : Int) (kT kx : Nat) (kl : Int) (w0 : World) (X : Nat → Obj → Prop) (e : Ending) (w' : World) : Prop :=
  ∃ ca : Nat, ∃ b : Nat, ∃ sx : Nat, ∃ i1 : Nat, ∃ th : Nat, ∃ dd : Nat, e = .returned (.agg #[.iface 40 (.pointer (some ⟨dd, 0, none⟩)), .int .i32 loc]) ∧ Own w0 w' [row (pb) 206 PC, (mp, .map #[⟨.string ⟨#[95, 95, 115, 117, 112, 101, 114, 87, 114, 97, 112, 112, 101, 114]⟩, .agg #[.int .i32 0, .int .u32 0, .int .u32 2], 0⟩, ⟨.string ⟨#[95, 95, 115, 117, 112, 101, 114, 71, 101, 116]⟩, .agg #[.int .i32 0, .int .u32 0, .int .u32 3], 1⟩, ⟨.string ⟨#[95, 95, 112, 114, 105, 118, 97, 116, 101, 87, 114, 97, 112, 112, 101, 114]⟩, .agg #[.int .i32 0, .int .u32 0, .int .u32 4], 2⟩] 3), row (cr) 68 #[.int .u32 0, .int .u32 1], row (b) 223 #[.int .u32 0, .int .u32 2, .bool false, .bool false, .bool false], row (ca) 56 #[.iface 220 (.pointer (some ⟨b, 0, none⟩)), .int .i32 loc, .slice (some ⟨sx, 0, none⟩) 3 3, .int .i32 0, .int .u8 0, .int .u8 0, .bool false, .bool false], row (sx) 30 #[.iface 220 (.pointer (some ⟨i1, 0, none⟩)), .int .i32 loc, .iface 247 (.pointer (some ⟨th, 0, none⟩)), .int .i32 loc, .iface kT (.pointer (some ⟨kx, 0, none⟩)), .int .i32 kl], row (i1) 223 #[.int .u32 0, .int .u32 1, .bool false, .bool false, .bool false], row (th) 248 #[], row (dd) 44 #[.iface 52 (.pointer (some ⟨ca, 0, none⟩)), .int .i32 loc, .string ⟨#[95]⟩, .int .i32 loc, .int .u8 0, .bool false, .bool false, .bool false]] X
set_option maxRecDepth 100000 in
set_option maxHeartbeats 1000000 in
theorem dsupWrapns (pb : Nat) (PC : Array Value) (mp cr : Nat) (loc : Int) (kT kx : Nat) (kl : Int) (w0 w : World) (X : Nat → Obj → Prop) (hO : Own w0 w [row (pb) 206 PC, (mp, .map #[⟨.string ⟨#[95, 95, 115, 117, 112, 101, 114, 87, 114, 97, 112, 112, 101, 114]⟩, .agg #[.int .i32 0, .int .u32 0, .int .u32 2], 0⟩, ⟨.string ⟨#[95, 95, 115, 117, 112, 101, 114, 71, 101, 116]⟩, .agg #[.int .i32 0, .int .u32 0, .int .u32 3], 1⟩, ⟨.string ⟨#[95, 95, 112, 114, 105, 118, 97, 116, 101, 87, 114, 97, 112, 112, 101, 114]⟩, .agg #[.int .i32 0, .int .u32 0, .int .u32 4], 2⟩] 3), row (cr) 68 #[.int .u32 0, .int .u32 1]] X) (hD : Dead PC mp cr false true) :
    Calls Tryd.prog 16 #[.pointer (some ⟨pb, 0, none⟩), .int .i32 loc, .agg #[.iface kT (.pointer (some ⟨kx, 0, none⟩)), .int .i32 kl]] w (dsupWrapnsPost pb PC mp cr loc kT kx kl w0 X) := by
  go_enter Tryd.func16, Tryd.ntmps16
  obtain ⟨c9_2_0, c9_2_1, lt9_2, y9_2, -⟩ := hO.k2 2 rfl
  have HO := Lib.hid hO
  clear hO
  go_wp2_with fail
  have hO := HO.out
  clear HO c9_2_0 c9_2_1 lt9_2 y9_2
  generalize hW : World.alloc _ _ = W2
  have hN : Own w0 W2 [row (w.heap.size + 1) 30 #[.nilIface, .int .i32 0], row (w.heap.size) 30 #[.iface kT (.pointer (some ⟨kx, 0, none⟩)), .int .i32 kl], row (pb) 206 PC, (mp, .map #[⟨.string ⟨#[95, 95, 115, 117, 112, 101, 114, 87, 114, 97, 112, 112, 101, 114]⟩, .agg #[.int .i32 0, .int .u32 0, .int .u32 2], 0⟩, ⟨.string ⟨#[95, 95, 115, 117, 112, 101, 114, 71, 101, 116]⟩, .agg #[.int .i32 0, .int .u32 0, .int .u32 3], 1⟩, ⟨.string ⟨#[95, 95, 112, 114, 105, 118, 97, 116, 101, 87, 114, 97, 112, 112, 101, 114]⟩, .agg #[.int .i32 0, .int .u32 0, .int .u32 4], 2⟩] 3), row (cr) 68 #[.int .u32 0, .int .u32 1]] X := by
    rw [← hW]
    exact ((hO).alloc' _ (w.heap.size) (by simp)).alloc' _ (w.heap.size + 1) (by simp)
  clear hW hO
  generalize w.heap.size + 1 = B1_1 at hN ⊢
  generalize w.heap.size = B1 at hN ⊢
  have hO := hN
  clear hN
  have hL := hO.apart
  have hX := hO.apartX
  have HL := Lib.hid hL
  have HX := Lib.hid hX
  clear hL hX
  have hP9 := hO.pick [2, 3, 4] (by decide)
  have T9 := supWrapns pb PC mp cr loc kT kx kl _ _ _ hP9 hD
  refine Calls.mono T9 ?_
  clear hP9 T9
  rintro e u3 ⟨nd4, nd5, nd6, nd7, nd8, nd9, rfl, hQ⟩
  have hN : Own w0 u3 [row (pb) 206 PC, (mp, .map #[⟨.string ⟨#[95, 95, 115, 117, 112, 101, 114, 87, 114, 97, 112, 112, 101, 114]⟩, .agg #[.int .i32 0, .int .u32 0, .int .u32 2], 0⟩, ⟨.string ⟨#[95, 95, 115, 117, 112, 101, 114, 71, 101, 116]⟩, .agg #[.int .i32 0, .int .u32 0, .int .u32 3], 1⟩, ⟨.string ⟨#[95, 95, 112, 114, 105, 118, 97, 116, 101, 87, 114, 97, 112, 112, 101, 114]⟩, .agg #[.int .i32 0, .int .u32 0, .int .u32 4], 2⟩] 3), row (cr) 68 #[.int .u32 0, .int .u32 1], row (nd5) 223 #[.int .u32 0, .int .u32 2, .bool false, .bool false, .bool false], row (nd4) 56 #[.iface 220 (.pointer (some ⟨nd5, 0, none⟩)), .int .i32 loc, .slice (some ⟨nd6, 0, none⟩) 3 3, .int .i32 0, .int .u8 0, .int .u8 0, .bool false, .bool false], row (nd6) 30 #[.iface 220 (.pointer (some ⟨nd7, 0, none⟩)), .int .i32 loc, .iface 247 (.pointer (some ⟨nd8, 0, none⟩)), .int .i32 loc, .iface kT (.pointer (some ⟨kx, 0, none⟩)), .int .i32 kl], row (nd7) 223 #[.int .u32 0, .int .u32 1, .bool false, .bool false, .bool false], row (nd8) 248 #[], row (nd9) 44 #[.iface 52 (.pointer (some ⟨nd4, 0, none⟩)), .int .i32 loc, .string ⟨#[95]⟩, .int .i32 loc, .int .u8 0, .bool false, .bool false, .bool false], row (B1_1) 30 #[.nilIface, .int .i32 0], row (B1) 30 #[.iface kT (.pointer (some ⟨kx, 0, none⟩)), .int .i32 kl]] X := hQ.back HL.out HX.out [0, 1] (by decide) (by decide)
  clear hQ HL HX hO
  have hO := hN
  clear hN
  obtain ⟨c9_2_0, c9_2_1, lt9_2, y9_2, -⟩ := hO.k2 2 rfl
  obtain ⟨c9_3_0, c9_3_1, c9_3_2, c9_3_3, c9_3_4, lt9_3, y9_3, -⟩ := hO.k5 3 rfl
  obtain ⟨c9_4_0, c9_4_1, c9_4_2, c9_4_3, c9_4_4, c9_4_5, c9_4_6, c9_4_7, lt9_4, y9_4, -⟩ := hO.k8 4 rfl
  obtain ⟨c9_5_0, c9_5_1, c9_5_2, c9_5_3, c9_5_4, c9_5_5, lt9_5, y9_5, -⟩ := hO.k6 5 rfl
  obtain ⟨c9_6_0, c9_6_1, c9_6_2, c9_6_3, c9_6_4, lt9_6, y9_6, -⟩ := hO.k5 6 rfl
  obtain ⟨lt9_7, y9_7, -⟩ := hO.k0 7 rfl
  obtain ⟨c9_8_0, c9_8_1, c9_8_2, c9_8_3, c9_8_4, c9_8_5, c9_8_6, c9_8_7, lt9_8, y9_8, -⟩ := hO.k8 8 rfl
  obtain ⟨c9_9_0, c9_9_1, lt9_9, y9_9, -⟩ := hO.k2 9 rfl
  obtain ⟨c9_10_0, c9_10_1, lt9_10, y9_10, -⟩ := hO.k2 10 rfl
  have HO := Lib.hid hO
  clear hO
  go_wp2_with fail
  have hO := HO.out
  clear HO c9_2_0 c9_2_1 lt9_2 y9_2 c9_3_0 c9_3_1 c9_3_2 c9_3_3 c9_3_4 lt9_3 y9_3 c9_4_0 c9_4_1 c9_4_2 c9_4_3 c9_4_4 c9_4_5 c9_4_6 c9_4_7 lt9_4 y9_4 c9_5_0 c9_5_1 c9_5_2 c9_5_3 c9_5_4 c9_5_5 lt9_5 y9_5 c9_6_0 c9_6_1 c9_6_2 c9_6_3 c9_6_4 lt9_6 y9_6 lt9_7 y9_7 c9_8_0 c9_8_1 c9_8_2 c9_8_3 c9_8_4 c9_8_5 c9_8_6 c9_8_7 lt9_8 y9_8 c9_9_0 c9_9_1 lt9_9 y9_9 c9_10_0 c9_10_1 lt9_10 y9_10
  generalize hW : World.setCell _ _ _ = W11
  have hN : Own w0 W11 [row (pb) 206 PC, (mp, .map #[⟨.string ⟨#[95, 95, 115, 117, 112, 101, 114, 87, 114, 97, 112, 112, 101, 114]⟩, .agg #[.int .i32 0, .int .u32 0, .int .u32 2], 0⟩, ⟨.string ⟨#[95, 95, 115, 117, 112, 101, 114, 71, 101, 116]⟩, .agg #[.int .i32 0, .int .u32 0, .int .u32 3], 1⟩, ⟨.string ⟨#[95, 95, 112, 114, 105, 118, 97, 116, 101, 87, 114, 97, 112, 112, 101, 114]⟩, .agg #[.int .i32 0, .int .u32 0, .int .u32 4], 2⟩] 3), row (cr) 68 #[.int .u32 0, .int .u32 1], row (nd5) 223 #[.int .u32 0, .int .u32 2, .bool false, .bool false, .bool false], row (nd4) 56 #[.iface 220 (.pointer (some ⟨nd5, 0, none⟩)), .int .i32 loc, .slice (some ⟨nd6, 0, none⟩) 3 3, .int .i32 0, .int .u8 0, .int .u8 0, .bool false, .bool false], row (nd6) 30 #[.iface 220 (.pointer (some ⟨nd7, 0, none⟩)), .int .i32 loc, .iface 247 (.pointer (some ⟨nd8, 0, none⟩)), .int .i32 loc, .iface kT (.pointer (some ⟨kx, 0, none⟩)), .int .i32 kl], row (nd7) 223 #[.int .u32 0, .int .u32 1, .bool false, .bool false, .bool false], row (nd8) 248 #[], row (nd9) 44 #[.iface 52 (.pointer (some ⟨nd4, 0, none⟩)), .int .i32 loc, .string ⟨#[95]⟩, .int .i32 loc, .int .u8 0, .bool false, .bool false, .bool false], row (B1_1) 30 #[.iface 40 (.pointer (some ⟨nd9, 0, none⟩)), .int .i32 loc], row (B1) 30 #[.iface kT (.pointer (some ⟨kx, 0, none⟩)), .int .i32 kl]] X := by
    rw [← hW]
    exact ((hO).set 9 rfl 0 _).set 9 rfl 1 _
  clear hW hO
  have hO := hN
  clear hN
  have z9_9_0 : W11.cell? ⟨B1_1, 0, none⟩ = some (.iface 40 (.pointer (some ⟨nd9, 0, none⟩))) := hO.cell 9 rfl 0 rfl
  have z9_9_1 : W11.cell? ⟨B1_1, 1, none⟩ = some (.int .i32 loc) := hO.cell 9 rfl 1 rfl
  refine bodyPost_ret (v := .agg #[.iface 40 (.pointer (some ⟨nd9, 0, none⟩)), .int .i32 loc]) ?_ rfl ⟨nd4, nd5, nd6, nd7, nd8, nd9, rfl, hO.sub [0, 1, 2, 3, 4, 5, 6, 7, 8] (by decide)⟩
  simp [results, Tryd.results16, go_sem, z9_9_0, z9_9_1]
def dsupWrapniPost (pb : Nat) (PC : Array Value) (mp cr : Nat) (loc : Int) (kT kx : Nat) (kl : Int) (w0 : World) (X : Nat → Obj → Prop) (e : Ending) (w' : World) : Prop :=
  ∃ ca : Nat, ∃ b : Nat, ∃ sx : Nat, ∃ i1 : Nat, ∃ th : Nat, ∃ d1 : Nat, ∃ dd : Nat, e = .returned (.agg #[.iface 40 (.pointer (some ⟨dd, 0, none⟩)), .int .i32 loc]) ∧ Own w0 w' [row (pb) 206 PC, (mp, .map #[⟨.string ⟨#[95, 95, 115, 117, 112, 101, 114, 87, 114, 97, 112, 112, 101, 114]⟩, .agg #[.int .i32 0, .int .u32 0, .int .u32 2], 0⟩, ⟨.string ⟨#[95, 95, 115, 117, 112, 101, 114, 71, 101, 116]⟩, .agg #[.int .i32 0, .int .u32 0, .int .u32 3], 1⟩, ⟨.string ⟨#[95, 95, 112, 114, 105, 118, 97, 116, 101, 87, 114, 97, 112, 112, 101, 114]⟩, .agg #[.int .i32 0, .int .u32 0, .int .u32 4], 2⟩] 3), row (cr) 68 #[.int .u32 0, .int .u32 1], row (b) 223 #[.int .u32 0, .int .u32 2, .bool false, .bool false, .bool false], row (ca) 56 #[.iface 220 (.pointer (some ⟨b, 0, none⟩)), .int .i32 loc, .slice (some ⟨sx, 0, none⟩) 3 3, .int .i32 0, .int .u8 0, .int .u8 0, .bool false, .bool false], row (sx) 30 #[.iface 40 (.pointer (some ⟨d1, 0, none⟩)), .int .i32 loc, .iface 247 (.pointer (some ⟨th, 0, none⟩)), .int .i32 loc, .iface kT (.pointer (some ⟨kx, 0, none⟩)), .int .i32 kl], row (i1) 223 #[.int .u32 0, .int .u32 1, .bool false, .bool false, .bool false], row (th) 248 #[], row (d1) 44 #[.iface 220 (.pointer (some ⟨i1, 0, none⟩)), .int .i32 loc, .string ⟨#[112, 114, 111, 116, 111, 116, 121, 112, 101]⟩, .int .i32 loc, .int .u8 0, .bool false, .bool false, .bool false], row (dd) 44 #[.iface 52 (.pointer (some ⟨ca, 0, none⟩)), .int .i32 loc, .string ⟨#[95]⟩, .int .i32 loc, .int .u8 0, .bool false, .bool false, .bool false]] X
set_option maxRecDepth 100000 in
set_option maxHeartbeats 1000000 in
theorem dsupWrapni (pb : Nat) (PC : Array Value) (mp cr : Nat) (loc : Int) (kT kx : Nat) (kl : Int) (w0 w : World) (X : Nat → Obj → Prop) (hO : Own w0 w [row (pb) 206 PC, (mp, .map #[⟨.string ⟨#[95, 95, 115, 117, 112, 101, 114, 87, 114, 97, 112, 112, 101, 114]⟩, .agg #[.int .i32 0, .int .u32 0, .int .u32 2], 0⟩, ⟨.string ⟨#[95, 95, 115, 117, 112, 101, 114, 71, 101, 116]⟩, .agg #[.int .i32 0, .int .u32 0, .int .u32 3], 1⟩, ⟨.string ⟨#[95, 95, 112, 114, 105, 118, 97, 116, 101, 87, 114, 97, 112, 112, 101, 114]⟩, .agg #[.int .i32 0, .int .u32 0, .int .u32 4], 2⟩] 3), row (cr) 68 #[.int .u32 0, .int .u32 1]] X) (hD : Dead PC mp cr false false) :
    Calls Tryd.prog 16 #[.pointer (some ⟨pb, 0, none⟩), .int .i32 loc, .agg #[.iface kT (.pointer (some ⟨kx, 0, none⟩)), .int .i32 kl]] w (dsupWrapniPost pb PC mp cr loc kT kx kl w0 X) := by
  go_enter Tryd.func16, Tryd.ntmps16
  obtain ⟨c9_2_0, c9_2_1, lt9_2, y9_2, -⟩ := hO.k2 2 rfl
  have HO := Lib.hid hO
  clear hO
  go_wp2_with fail
  have hO := HO.out
  clear HO c9_2_0 c9_2_1 lt9_2 y9_2
  generalize hW : World.alloc _ _ = W2
  have hN : Own w0 W2 [row (w.heap.size + 1) 30 #[.nilIface, .int .i32 0], row (w.heap.size) 30 #[.iface kT (.pointer (some ⟨kx, 0, none⟩)), .int .i32 kl], row (pb) 206 PC, (mp, .map #[⟨.string ⟨#[95, 95, 115, 117, 112, 101, 114, 87, 114, 97, 112, 112, 101, 114]⟩, .agg #[.int .i32 0, .int .u32 0, .int .u32 2], 0⟩, ⟨.string ⟨#[95, 95, 115, 117, 112, 101, 114, 71, 101, 116]⟩, .agg #[.int .i32 0, .int .u32 0, .int .u32 3], 1⟩, ⟨.string ⟨#[95, 95, 112, 114, 105, 118, 97, 116, 101, 87, 114, 97, 112, 112, 101, 114]⟩, .agg #[.int .i32 0, .int .u32 0, .int .u32 4], 2⟩] 3), row (cr) 68 #[.int .u32 0, .int .u32 1]] X := by
    rw [← hW]
    exact ((hO).alloc' _ (w.heap.size) (by simp)).alloc' _ (w.heap.size + 1) (by simp)
  clear hW hO
  generalize w.heap.size + 1 = B1_1 at hN ⊢
  generalize w.heap.size = B1 at hN ⊢
  have hO := hN
  clear hN
  have hL := hO.apart
  have hX := hO.apartX
  have HL := Lib.hid hL
  have HX := Lib.hid hX
  clear hL hX
  have hP9 := hO.pick [2, 3, 4] (by decide)
  have T9 := supWrapni pb PC mp cr loc kT kx kl _ _ _ hP9 hD
  refine Calls.mono T9 ?_
  clear hP9 T9
  rintro e u3 ⟨nd4, nd5, nd6, nd7, nd8, nd9, nd10, rfl, hQ⟩
  have hN : Own w0 u3 [row (pb) 206 PC, (mp, .map #[⟨.string ⟨#[95, 95, 115, 117, 112, 101, 114, 87, 114, 97, 112, 112, 101, 114]⟩, .agg #[.int .i32 0, .int .u32 0, .int .u32 2], 0⟩, ⟨.string ⟨#[95, 95, 115, 117, 112, 101, 114, 71, 101, 116]⟩, .agg #[.int .i32 0, .int .u32 0, .int .u32 3], 1⟩, ⟨.string ⟨#[95, 95, 112, 114, 105, 118, 97, 116, 101, 87, 114, 97, 112, 112, 101, 114]⟩, .agg #[.int .i32 0, .int .u32 0, .int .u32 4], 2⟩] 3), row (cr) 68 #[.int .u32 0, .int .u32 1], row (nd5) 223 #[.int .u32 0, .int .u32 2, .bool false, .bool false, .bool false], row (nd4) 56 #[.iface 220 (.pointer (some ⟨nd5, 0, none⟩)), .int .i32 loc, .slice (some ⟨nd6, 0, none⟩) 3 3, .int .i32 0, .int .u8 0, .int .u8 0, .bool false, .bool false], row (nd6) 30 #[.iface 40 (.pointer (some ⟨nd9, 0, none⟩)), .int .i32 loc, .iface 247 (.pointer (some ⟨nd8, 0, none⟩)), .int .i32 loc, .iface kT (.pointer (some ⟨kx, 0, none⟩)), .int .i32 kl], row (nd7) 223 #[.int .u32 0, .int .u32 1, .bool false, .bool false, .bool false], row (nd8) 248 #[], row (nd9) 44 #[.iface 220 (.pointer (some ⟨nd7, 0, none⟩)), .int .i32 loc, .string ⟨#[112, 114, 111, 116, 111, 116, 121, 112, 101]⟩, .int .i32 loc, .int .u8 0, .bool false, .bool false, .bool false], row (nd10) 44 #[.iface 52 (.pointer (some ⟨nd4, 0, none⟩)), .int .i32 loc, .string ⟨#[95]⟩, .int .i32 loc, .int .u8 0, .bool false, .bool false, .bool false], row (B1_1) 30 #[.nilIface, .int .i32 0], row (B1) 30 #[.iface kT (.pointer (some ⟨kx, 0, none⟩)), .int .i32 kl]] X := hQ.back HL.out HX.out [0, 1] (by decide) (by decide)
  clear hQ HL HX hO
  have hO := hN
  clear hN
  obtain ⟨c9_2_0, c9_2_1, lt9_2, y9_2, -⟩ := hO.k2 2 rfl
  obtain ⟨c9_3_0, c9_3_1, c9_3_2, c9_3_3, c9_3_4, lt9_3, y9_3, -⟩ := hO.k5 3 rfl
  obtain ⟨c9_4_0, c9_4_1, c9_4_2, c9_4_3, c9_4_4, c9_4_5, c9_4_6, c9_4_7, lt9_4, y9_4, -⟩ := hO.k8 4 rfl
  obtain ⟨c9_5_0, c9_5_1, c9_5_2, c9_5_3, c9_5_4, c9_5_5, lt9_5, y9_5, -⟩ := hO.k6 5 rfl
  obtain ⟨c9_6_0, c9_6_1, c9_6_2, c9_6_3, c9_6_4, lt9_6, y9_6, -⟩ := hO.k5 6 rfl
  obtain ⟨lt9_7, y9_7, -⟩ := hO.k0 7 rfl
  obtain ⟨c9_8_0, c9_8_1, c9_8_2, c9_8_3, c9_8_4, c9_8_5, c9_8_6, c9_8_7, lt9_8, y9_8, -⟩ := hO.k8 8 rfl
  obtain ⟨c9_9_0, c9_9_1, c9_9_2, c9_9_3, c9_9_4, c9_9_5, c9_9_6, c9_9_7, lt9_9, y9_9, -⟩ := hO.k8 9 rfl
  obtain ⟨c9_10_0, c9_10_1, lt9_10, y9_10, -⟩ := hO.k2 10 rfl
  obtain ⟨c9_11_0, c9_11_1, lt9_11, y9_11, -⟩ := hO.k2 11 rfl
  have HO := Lib.hid hO
  clear hO
  go_wp2_with fail
  have hO := HO.out
  clear HO c9_2_0 c9_2_1 lt9_2 y9_2 c9_3_0 c9_3_1 c9_3_2 c9_3_3 c9_3_4 lt9_3 y9_3 c9_4_0 c9_4_1 c9_4_2 c9_4_3 c9_4_4 c9_4_5 c9_4_6 c9_4_7 lt9_4 y9_4 c9_5_0 c9_5_1 c9_5_2 c9_5_3 c9_5_4 c9_5_5 lt9_5 y9_5 c9_6_0 c9_6_1 c9_6_2 c9_6_3 c9_6_4 lt9_6 y9_6 lt9_7 y9_7 c9_8_0 c9_8_1 c9_8_2 c9_8_3 c9_8_4 c9_8_5 c9_8_6 c9_8_7 lt9_8 y9_8 c9_9_0 c9_9_1 c9_9_2 c9_9_3 c9_9_4 c9_9_5 c9_9_6 c9_9_7 lt9_9 y9_9 c9_10_0 c9_10_1 lt9_10 y9_10 c9_11_0 c9_11_1 lt9_11 y9_11
  generalize hW : World.setCell _ _ _ = W12
  have hN : Own w0 W12 [row (pb) 206 PC, (mp, .map #[⟨.string ⟨#[95, 95, 115, 117, 112, 101, 114, 87, 114, 97, 112, 112, 101, 114]⟩, .agg #[.int .i32 0, .int .u32 0, .int .u32 2], 0⟩, ⟨.string ⟨#[95, 95, 115, 117, 112, 101, 114, 71, 101, 116]⟩, .agg #[.int .i32 0, .int .u32 0, .int .u32 3], 1⟩, ⟨.string ⟨#[95, 95, 112, 114, 105, 118, 97, 116, 101, 87, 114, 97, 112, 112, 101, 114]⟩, .agg #[.int .i32 0, .int .u32 0, .int .u32 4], 2⟩] 3), row (cr) 68 #[.int .u32 0, .int .u32 1], row (nd5) 223 #[.int .u32 0, .int .u32 2, .bool false, .bool false, .bool false], row (nd4) 56 #[.iface 220 (.pointer (some ⟨nd5, 0, none⟩)), .int .i32 loc, .slice (some ⟨nd6, 0, none⟩) 3 3, .int .i32 0, .int .u8 0, .int .u8 0, .bool false, .bool false], row (nd6) 30 #[.iface 40 (.pointer (some ⟨nd9, 0, none⟩)), .int .i32 loc, .iface 247 (.pointer (some ⟨nd8, 0, none⟩)), .int .i32 loc, .iface kT (.pointer (some ⟨kx, 0, none⟩)), .int .i32 kl], row (nd7) 223 #[.int .u32 0, .int .u32 1, .bool false, .bool false, .bool false], row (nd8) 248 #[], row (nd9) 44 #[.iface 220 (.pointer (some ⟨nd7, 0, none⟩)), .int .i32 loc, .string ⟨#[112, 114, 111, 116, 111, 116, 121, 112, 101]⟩, .int .i32 loc, .int .u8 0, .bool false, .bool false, .bool false], row (nd10) 44 #[.iface 52 (.pointer (some ⟨nd4, 0, none⟩)), .int .i32 loc, .string ⟨#[95]⟩, .int .i32 loc, .int .u8 0, .bool false, .bool false, .bool false], row (B1_1) 30 #[.iface 40 (.pointer (some ⟨nd10, 0, none⟩)), .int .i32 loc], row (B1) 30 #[.iface kT (.pointer (some ⟨kx, 0, none⟩)), .int .i32 kl]] X := by
    rw [← hW]
    exact ((hO).set 10 rfl 0 _).set 10 rfl 1 _
  clear hW hO
  have hO := hN
  clear hN
  have z9_10_0 : W12.cell? ⟨B1_1, 0, none⟩ = some (.iface 40 (.pointer (some ⟨nd10, 0, none⟩))) := hO.cell 10 rfl 0 rfl
  have z9_10_1 : W12.cell? ⟨B1_1, 1, none⟩ = some (.int .i32 loc) := hO.cell 10 rfl 1 rfl
  refine bodyPost_ret (v := .agg #[.iface 40 (.pointer (some ⟨nd10, 0, none⟩)), .int .i32 loc]) ?_ rfl ⟨nd4, nd5, nd6, nd7, nd8, nd9, nd10, rfl, hO.sub [0, 1, 2, 3, 4, 5, 6, 7, 8, 9] (by decide)⟩
  simp [results, Tryd.results16, go_sem, z9_10_0, z9_10_1]
end Go.Proofs.YtcbdjbjbikiaeaaDoor.Use
