/- The law, walked: cases. No condition. -/
import Derived.Test.YtcbdjbjbikiaeaaDoorOwnK
import Derived.Test.YtcbdjbjbikiaeaaDoorOwn
import Derived.Test.YtcbdjbjbikiaeaaDoorDeepCells
import Derived.Test.YtcbdjbjbikiaeaaDoorRows
import Derived.Test.YtcbdjbjbikiaeaaDoorDead
import Derived.Test.YtcbdjbjbikiaeaaDoorNew
import Derived.Test.YtcbdjbjbikiaeaaDoorNewL
import Derived.Test.YtcbdjbjbikiaeaaDoorStr
import Derived.Test.YtcbdjbjbikiaeaaDoorStrX
import Derived.Test.YtcbdjbjbikiaeaaDoorAsgYesD
import Derived.Test.YtcbdjbjbikiaeaaDoorAsgNo
import Derived.Test.YtcbdjbjbikiaeaaDoorAsgNoD
import Derived.Test.YtcbdjbjbikiaeaaDoorExI
import Derived.Test.YtcbdjbjbikiaeaaDoorTok
import Derived.Test.YtcbdjbjbikiaeaaDoorAsgNoE
namespace Go.Proofs.YtcbdjbjbikiaeaaDoor.Use
open Go.ChangeShapes Go.WideShapes Go.ChangeAt Go.RowKit Go.Sort Own
set_option linter.unusedVariables false
def law5l0dniPost (kd loc : Int) (nm : ByteArray) (w0 : World) (X : Nat → Obj → Prop) (e : Ending) (w' : World) : Prop :=
  e = .returned (.bool true) ∧ Own w0 w' [] X
set_option maxRecDepth 100000 in
set_option maxHeartbeats 1000000 in
theorem law5l0dni (kd loc : Int) (nm : ByteArray) (w0 w : World) (X : Nat → Obj → Prop) (hO : Own w0 w [] X) (hlen : nm.size ≤ 65536) (hk0 : (kd.tmod 6 == 0) = true) :
    Calls Tryd.prog 3 #[.bool true, .bool false, .bool false, .int .u8 kd, .bool false, .int .i32 loc, .string nm] w (law5l0dniPost kd loc nm w0 X) := by
  go_enter Tryd.func3, Tryd.ntmps3
  have hl9 : (nm.size : Int) ≤ 65536 := by omega
  go_wp2_with (first | (go_at_call 34; go_in) | (go_at_call 30; go_in) | (go_at_call 31; go_in) | (go_at_call 32; go_in) | (go_at_call 12; go_in) | (go_at_call 10; go_in) | (go_at_call 9; go_in) | (go_at_call 7; go_in))
  have hL := hO.apart
  have hX := hO.apartX
  have HL := Lib.hid hL
  have HX := Lib.hid hX
  clear hL hX
  have hP9 := hO.pick [] (by decide)
  have T9 := newDeadL true false false _ _ _ hP9 
  refine Calls.mono T9 ?_
  clear hP9 T9
  rintro e u1 ⟨nd2, nd3, nd4, nd5, rfl, pr6, pr7, hQ⟩
  have hN : Own w0 u1 [row (nd2) 206 nd5, (nd3, .map map3 3), row (nd4) 68 #[.int .u32 0, .int .u32 1]] X := hQ.back HL.out HX.out [] (by decide) (by decide)
  clear hQ HL HX hO
  have hO := hN
  clear hN
  obtain ⟨c9_2_0, c9_2_1, lt9_2, y9_2, -⟩ := hO.k2 2 rfl
  have HO := Lib.hid hO
  clear hO
  go_wp2_with (first | (go_at_call 34; go_in) | (go_at_call 30; go_in) | (go_at_call 31; go_in) | (go_at_call 32; go_in) | (go_at_call 12; go_in) | (go_at_call 10; go_in) | (go_at_call 9; go_in) | (go_at_call 7; go_in))
  have hO := HO.out
  clear HO c9_2_0 c9_2_1 lt9_2 y9_2
  generalize hW : World.alloc _ _ = W9
  have hN : Own w0 W9 [row (u1.heap.size + 1 + 1 + 1 + 1 + 1 + 1 + 1) 44 #[.iface 244 (.pointer (some ⟨u1.heap.size + 1 + 1, 0, none⟩)), .int .i32 loc, .string nm, .int .i32 loc, .int .u8 0, .bool false, .bool false, .bool false], row (u1.heap.size + 1 + 1 + 1 + 1 + 1 + 1) 30 #[.iface 40 (.pointer (some ⟨u1.heap.size + 1 + 1 + 1 + 1 + 1 + 1 + 1, 0, none⟩)), .int .i32 loc], row (u1.heap.size + 1 + 1 + 1 + 1 + 1) 30 #[.iface 244 (.pointer (some ⟨u1.heap.size + 1 + 1, 0, none⟩)), .int .i32 loc], row (u1.heap.size + 1 + 1 + 1 + 1) 30 #[.iface 40 (.pointer (some ⟨u1.heap.size + 1 + 1 + 1 + 1 + 1 + 1 + 1, 0, none⟩)), .int .i32 loc], row (u1.heap.size + 1 + 1 + 1) 30 #[.iface 244 (.pointer (some ⟨u1.heap.size + 1 + 1, 0, none⟩)), .int .i32 loc], row (u1.heap.size + 1 + 1) 246 #[], row (u1.heap.size + 1) 30 #[.iface 244 (.pointer (some ⟨u1.heap.size + 1 + 1, 0, none⟩)), .int .i32 loc], row (u1.heap.size) 30 #[.iface 244 (.pointer (some ⟨u1.heap.size + 1 + 1, 0, none⟩)), .int .i32 loc], row (nd2) 206 nd5, (nd3, .map map3 3), row (nd4) 68 #[.int .u32 0, .int .u32 1]] X := by
    rw [← hW]
    exact ((((((((hO).alloc' _ (u1.heap.size) (by simp)).alloc' _ (u1.heap.size + 1) (by simp)).alloc' _ (u1.heap.size + 1 + 1) (by simp)).alloc' _ (u1.heap.size + 1 + 1 + 1) (by simp)).alloc' _ (u1.heap.size + 1 + 1 + 1 + 1) (by simp)).alloc' _ (u1.heap.size + 1 + 1 + 1 + 1 + 1) (by simp)).alloc' _ (u1.heap.size + 1 + 1 + 1 + 1 + 1 + 1) (by simp)).alloc' _ (u1.heap.size + 1 + 1 + 1 + 1 + 1 + 1 + 1) (by simp)
  clear hW hO
  generalize u1.heap.size + 1 + 1 + 1 + 1 + 1 + 1 + 1 = B8_7 at hN ⊢
  generalize u1.heap.size + 1 + 1 + 1 + 1 + 1 + 1 = B8_6 at hN ⊢
  generalize u1.heap.size + 1 + 1 + 1 + 1 + 1 = B8_5 at hN ⊢
  generalize u1.heap.size + 1 + 1 + 1 + 1 = B8_4 at hN ⊢
  generalize u1.heap.size + 1 + 1 + 1 = B8_3 at hN ⊢
  generalize u1.heap.size + 1 + 1 = B8_2 at hN ⊢
  generalize u1.heap.size + 1 = B8_1 at hN ⊢
  generalize u1.heap.size = B8 at hN ⊢
  have hO := hN
  clear hN
  have hL := hO.apart
  have hX := hO.apartX
  have HL := Lib.hid hL
  have HX := Lib.hid hX
  clear hL hX
  have hP9 := hO.pick [8] (by decide)
  have T9 := shlYes nd2 nd5 nd3 nd4 false false loc B8_2 _ _ _ hP9 pr6 pr7
  refine Calls.mono T9 ?_
  clear hP9 T9
  rintro e u10 ⟨rfl, hQ⟩
  have hN : Own w0 u10 [row (nd2) 206 nd5, row (B8_7) 44 #[.iface 244 (.pointer (some ⟨B8_2, 0, none⟩)), .int .i32 loc, .string nm, .int .i32 loc, .int .u8 0, .bool false, .bool false, .bool false], row (B8_6) 30 #[.iface 40 (.pointer (some ⟨B8_7, 0, none⟩)), .int .i32 loc], row (B8_5) 30 #[.iface 244 (.pointer (some ⟨B8_2, 0, none⟩)), .int .i32 loc], row (B8_4) 30 #[.iface 40 (.pointer (some ⟨B8_7, 0, none⟩)), .int .i32 loc], row (B8_3) 30 #[.iface 244 (.pointer (some ⟨B8_2, 0, none⟩)), .int .i32 loc], row (B8_2) 246 #[], row (B8_1) 30 #[.iface 244 (.pointer (some ⟨B8_2, 0, none⟩)), .int .i32 loc], row (B8) 30 #[.iface 244 (.pointer (some ⟨B8_2, 0, none⟩)), .int .i32 loc], (nd3, .map map3 3), row (nd4) 68 #[.int .u32 0, .int .u32 1]] X := hQ.back HL.out HX.out [0, 1, 2, 3, 4, 5, 6, 7, 9, 10] (by decide) (by decide)
  clear hQ HL HX hO
  have hO := hN
  clear hN
  obtain ⟨c9_1_0, c9_1_1, c9_1_2, c9_1_3, c9_1_4, c9_1_5, c9_1_6, c9_1_7, lt9_1, y9_1, -⟩ := hO.k8 1 rfl
  obtain ⟨c9_2_0, c9_2_1, lt9_2, y9_2, -⟩ := hO.k2 2 rfl
  obtain ⟨c9_3_0, c9_3_1, lt9_3, y9_3, -⟩ := hO.k2 3 rfl
  obtain ⟨c9_4_0, c9_4_1, lt9_4, y9_4, -⟩ := hO.k2 4 rfl
  obtain ⟨c9_5_0, c9_5_1, lt9_5, y9_5, -⟩ := hO.k2 5 rfl
  obtain ⟨lt9_6, y9_6, -⟩ := hO.k0 6 rfl
  obtain ⟨c9_7_0, c9_7_1, lt9_7, y9_7, -⟩ := hO.k2 7 rfl
  obtain ⟨c9_8_0, c9_8_1, lt9_8, y9_8, -⟩ := hO.k2 8 rfl
  obtain ⟨c9_10_0, c9_10_1, lt9_10, y9_10, -⟩ := hO.k2 10 rfl
  have HO := Lib.hid hO
  clear hO
  go_wp2_with (first | (go_at_call 34; go_in) | (go_at_call 30; go_in) | (go_at_call 31; go_in) | (go_at_call 32; go_in) | (go_at_call 12; go_in) | (go_at_call 10; go_in) | (go_at_call 9; go_in) | (go_at_call 7; go_in))
  have hO := HO.out
  clear HO c9_1_0 c9_1_1 c9_1_2 c9_1_3 c9_1_4 c9_1_5 c9_1_6 c9_1_7 lt9_1 y9_1 c9_2_0 c9_2_1 lt9_2 y9_2 c9_3_0 c9_3_1 lt9_3 y9_3 c9_4_0 c9_4_1 lt9_4 y9_4 c9_5_0 c9_5_1 lt9_5 y9_5 lt9_6 y9_6 c9_7_0 c9_7_1 lt9_7 y9_7 c9_8_0 c9_8_1 lt9_8 y9_8 c9_10_0 c9_10_1 lt9_10 y9_10
  have hL := hO.apart
  have hX := hO.apartX
  have HL := Lib.hid hL
  have HX := Lib.hid hX
  clear hL hX
  have hP9 := hO.pick [0, 9, 10, 1] (by decide)
  have h9_hlen : nm.size ≤ 1048576 := (by omega)
  have T9 := dasgDyni nd2 nd5 nd3 nd4 B8_7 loc B8_2 nm _ _ _ hP9 pr6 pr7 h9_hlen
  refine Calls.mono T9 ?_
  clear hP9 T9 h9_hlen
  rintro e u11 ⟨nd12, rfl, hQ⟩
  have hN : Own w0 u11 [row (nd2) 206 nd5, (nd3, .map map3 3), row (nd4) 68 #[.int .u32 0, .int .u32 1], row (B8_6) 30 #[.iface 40 (.pointer (some ⟨B8_7, 0, none⟩)), .int .i32 loc], row (B8_5) 30 #[.iface 244 (.pointer (some ⟨B8_2, 0, none⟩)), .int .i32 loc], row (B8_4) 30 #[.iface 40 (.pointer (some ⟨B8_7, 0, none⟩)), .int .i32 loc], row (B8_3) 30 #[.iface 244 (.pointer (some ⟨B8_2, 0, none⟩)), .int .i32 loc], row (B8_2) 246 #[], row (B8_1) 30 #[.iface 244 (.pointer (some ⟨B8_2, 0, none⟩)), .int .i32 loc], row (B8) 30 #[.iface 244 (.pointer (some ⟨B8_2, 0, none⟩)), .int .i32 loc]] X := hQ.back HL.out HX.out [2, 3, 4, 5, 6, 7, 8] (by decide) (by decide)
  clear hQ HL HX hO
  have hO := hN
  clear hN
  obtain ⟨c9_2_0, c9_2_1, lt9_2, y9_2, -⟩ := hO.k2 2 rfl
  obtain ⟨c9_3_0, c9_3_1, lt9_3, y9_3, -⟩ := hO.k2 3 rfl
  obtain ⟨c9_4_0, c9_4_1, lt9_4, y9_4, -⟩ := hO.k2 4 rfl
  obtain ⟨c9_5_0, c9_5_1, lt9_5, y9_5, -⟩ := hO.k2 5 rfl
  obtain ⟨c9_6_0, c9_6_1, lt9_6, y9_6, -⟩ := hO.k2 6 rfl
  obtain ⟨lt9_7, y9_7, -⟩ := hO.k0 7 rfl
  obtain ⟨c9_8_0, c9_8_1, lt9_8, y9_8, -⟩ := hO.k2 8 rfl
  obtain ⟨c9_9_0, c9_9_1, lt9_9, y9_9, -⟩ := hO.k2 9 rfl
  have HO := Lib.hid hO
  clear hO
  go_wp2_with (first | (go_at_call 34; go_in) | (go_at_call 30; go_in) | (go_at_call 31; go_in) | (go_at_call 32; go_in) | (go_at_call 12; go_in) | (go_at_call 10; go_in) | (go_at_call 9; go_in) | (go_at_call 7; go_in))
  have hO := HO.out
  clear HO c9_2_0 c9_2_1 lt9_2 y9_2 c9_3_0 c9_3_1 lt9_3 y9_3 c9_4_0 c9_4_1 lt9_4 y9_4 c9_5_0 c9_5_1 lt9_5 y9_5 c9_6_0 c9_6_1 lt9_6 y9_6 lt9_7 y9_7 c9_8_0 c9_8_1 lt9_8 y9_8 c9_9_0 c9_9_1 lt9_9 y9_9
  generalize hW : World.alloc _ _ = W14
  have hN : Own w0 W14 [row (u11.heap.size) 30 #[.iface 40 (.pointer (some ⟨nd12, 0, none⟩)), .int .i32 loc], row (nd2) 206 nd5, (nd3, .map map3 3), row (nd4) 68 #[.int .u32 0, .int .u32 1], row (B8_6) 30 #[.iface 40 (.pointer (some ⟨B8_7, 0, none⟩)), .int .i32 loc], row (B8_5) 30 #[.iface 244 (.pointer (some ⟨B8_2, 0, none⟩)), .int .i32 loc], row (B8_4) 30 #[.iface 40 (.pointer (some ⟨B8_7, 0, none⟩)), .int .i32 loc], row (B8_3) 30 #[.iface 244 (.pointer (some ⟨B8_2, 0, none⟩)), .int .i32 loc], row (B8_2) 246 #[], row (B8_1) 30 #[.iface 244 (.pointer (some ⟨B8_2, 0, none⟩)), .int .i32 loc], row (B8) 30 #[.iface 244 (.pointer (some ⟨B8_2, 0, none⟩)), .int .i32 loc]] X := by
    rw [← hW]
    exact (hO).alloc' _ (u11.heap.size) (by simp)
  clear hW hO
  generalize u11.heap.size = B13 at hN ⊢
  have hO := hN
  clear hN
  refine bodyPost_ret (v := .bool true) ?_ rfl ⟨rfl, hO.sub [] (by decide)⟩
  simp [results, Tryd.results3, go_sem]
def law5l0dnsPost (kd loc : Int) (nm : ByteArray) (w0 : World) (X : Nat → Obj → Prop) (e : Ending) (w' : World) : Prop :=
  e = .returned (.bool true) ∧ Own w0 w' [] X
set_option maxRecDepth 100000 in
set_option maxHeartbeats 1000000 in
theorem law5l0dns (kd loc : Int) (nm : ByteArray) (w0 w : World) (X : Nat → Obj → Prop) (hO : Own w0 w [] X) (hlen : nm.size ≤ 65536) (hk0 : (kd.tmod 6 == 0) = true) :
    Calls Tryd.prog 3 #[.bool true, .bool false, .bool true, .int .u8 kd, .bool false, .int .i32 loc, .string nm] w (law5l0dnsPost kd loc nm w0 X) := by
  go_enter Tryd.func3, Tryd.ntmps3
  have hl9 : (nm.size : Int) ≤ 65536 := by omega
  go_wp2_with (first | (go_at_call 34; go_in) | (go_at_call 30; go_in) | (go_at_call 31; go_in) | (go_at_call 32; go_in) | (go_at_call 12; go_in) | (go_at_call 10; go_in) | (go_at_call 9; go_in) | (go_at_call 7; go_in))
  have hL := hO.apart
  have hX := hO.apartX
  have HL := Lib.hid hL
  have HX := Lib.hid hX
  clear hL hX
  have hP9 := hO.pick [] (by decide)
  have T9 := newDeadL true false true _ _ _ hP9 
  refine Calls.mono T9 ?_
  clear hP9 T9
  rintro e u1 ⟨nd2, nd3, nd4, nd5, rfl, pr6, pr7, hQ⟩
  have hN : Own w0 u1 [row (nd2) 206 nd5, (nd3, .map map3 3), row (nd4) 68 #[.int .u32 0, .int .u32 1]] X := hQ.back HL.out HX.out [] (by decide) (by decide)
  clear hQ HL HX hO
  have hO := hN
  clear hN
  obtain ⟨c9_2_0, c9_2_1, lt9_2, y9_2, -⟩ := hO.k2 2 rfl
  have HO := Lib.hid hO
  clear hO
  go_wp2_with (first | (go_at_call 34; go_in) | (go_at_call 30; go_in) | (go_at_call 31; go_in) | (go_at_call 32; go_in) | (go_at_call 12; go_in) | (go_at_call 10; go_in) | (go_at_call 9; go_in) | (go_at_call 7; go_in))
  have hO := HO.out
  clear HO c9_2_0 c9_2_1 lt9_2 y9_2
  generalize hW : World.alloc _ _ = W9
  have hN : Own w0 W9 [row (u1.heap.size + 1 + 1 + 1 + 1 + 1 + 1 + 1) 44 #[.iface 244 (.pointer (some ⟨u1.heap.size + 1 + 1, 0, none⟩)), .int .i32 loc, .string nm, .int .i32 loc, .int .u8 0, .bool false, .bool false, .bool false], row (u1.heap.size + 1 + 1 + 1 + 1 + 1 + 1) 30 #[.iface 40 (.pointer (some ⟨u1.heap.size + 1 + 1 + 1 + 1 + 1 + 1 + 1, 0, none⟩)), .int .i32 loc], row (u1.heap.size + 1 + 1 + 1 + 1 + 1) 30 #[.iface 244 (.pointer (some ⟨u1.heap.size + 1 + 1, 0, none⟩)), .int .i32 loc], row (u1.heap.size + 1 + 1 + 1 + 1) 30 #[.iface 40 (.pointer (some ⟨u1.heap.size + 1 + 1 + 1 + 1 + 1 + 1 + 1, 0, none⟩)), .int .i32 loc], row (u1.heap.size + 1 + 1 + 1) 30 #[.iface 244 (.pointer (some ⟨u1.heap.size + 1 + 1, 0, none⟩)), .int .i32 loc], row (u1.heap.size + 1 + 1) 246 #[], row (u1.heap.size + 1) 30 #[.iface 244 (.pointer (some ⟨u1.heap.size + 1 + 1, 0, none⟩)), .int .i32 loc], row (u1.heap.size) 30 #[.iface 244 (.pointer (some ⟨u1.heap.size + 1 + 1, 0, none⟩)), .int .i32 loc], row (nd2) 206 nd5, (nd3, .map map3 3), row (nd4) 68 #[.int .u32 0, .int .u32 1]] X := by
    rw [← hW]
    exact ((((((((hO).alloc' _ (u1.heap.size) (by simp)).alloc' _ (u1.heap.size + 1) (by simp)).alloc' _ (u1.heap.size + 1 + 1) (by simp)).alloc' _ (u1.heap.size + 1 + 1 + 1) (by simp)).alloc' _ (u1.heap.size + 1 + 1 + 1 + 1) (by simp)).alloc' _ (u1.heap.size + 1 + 1 + 1 + 1 + 1) (by simp)).alloc' _ (u1.heap.size + 1 + 1 + 1 + 1 + 1 + 1) (by simp)).alloc' _ (u1.heap.size + 1 + 1 + 1 + 1 + 1 + 1 + 1) (by simp)
  clear hW hO
  generalize u1.heap.size + 1 + 1 + 1 + 1 + 1 + 1 + 1 = B8_7 at hN ⊢
  generalize u1.heap.size + 1 + 1 + 1 + 1 + 1 + 1 = B8_6 at hN ⊢
  generalize u1.heap.size + 1 + 1 + 1 + 1 + 1 = B8_5 at hN ⊢
  generalize u1.heap.size + 1 + 1 + 1 + 1 = B8_4 at hN ⊢
  generalize u1.heap.size + 1 + 1 + 1 = B8_3 at hN ⊢
  generalize u1.heap.size + 1 + 1 = B8_2 at hN ⊢
  generalize u1.heap.size + 1 = B8_1 at hN ⊢
  generalize u1.heap.size = B8 at hN ⊢
  have hO := hN
  clear hN
  have hL := hO.apart
  have hX := hO.apartX
  have HL := Lib.hid hL
  have HX := Lib.hid hX
  clear hL hX
  have hP9 := hO.pick [8] (by decide)
  have T9 := shlYes nd2 nd5 nd3 nd4 false true loc B8_2 _ _ _ hP9 pr6 pr7
  refine Calls.mono T9 ?_
  clear hP9 T9
  rintro e u10 ⟨rfl, hQ⟩
  have hN : Own w0 u10 [row (nd2) 206 nd5, row (B8_7) 44 #[.iface 244 (.pointer (some ⟨B8_2, 0, none⟩)), .int .i32 loc, .string nm, .int .i32 loc, .int .u8 0, .bool false, .bool false, .bool false], row (B8_6) 30 #[.iface 40 (.pointer (some ⟨B8_7, 0, none⟩)), .int .i32 loc], row (B8_5) 30 #[.iface 244 (.pointer (some ⟨B8_2, 0, none⟩)), .int .i32 loc], row (B8_4) 30 #[.iface 40 (.pointer (some ⟨B8_7, 0, none⟩)), .int .i32 loc], row (B8_3) 30 #[.iface 244 (.pointer (some ⟨B8_2, 0, none⟩)), .int .i32 loc], row (B8_2) 246 #[], row (B8_1) 30 #[.iface 244 (.pointer (some ⟨B8_2, 0, none⟩)), .int .i32 loc], row (B8) 30 #[.iface 244 (.pointer (some ⟨B8_2, 0, none⟩)), .int .i32 loc], (nd3, .map map3 3), row (nd4) 68 #[.int .u32 0, .int .u32 1]] X := hQ.back HL.out HX.out [0, 1, 2, 3, 4, 5, 6, 7, 9, 10] (by decide) (by decide)
  clear hQ HL HX hO
  have hO := hN
  clear hN
  obtain ⟨c9_1_0, c9_1_1, c9_1_2, c9_1_3, c9_1_4, c9_1_5, c9_1_6, c9_1_7, lt9_1, y9_1, -⟩ := hO.k8 1 rfl
  obtain ⟨c9_2_0, c9_2_1, lt9_2, y9_2, -⟩ := hO.k2 2 rfl
  obtain ⟨c9_3_0, c9_3_1, lt9_3, y9_3, -⟩ := hO.k2 3 rfl
  obtain ⟨c9_4_0, c9_4_1, lt9_4, y9_4, -⟩ := hO.k2 4 rfl
  obtain ⟨c9_5_0, c9_5_1, lt9_5, y9_5, -⟩ := hO.k2 5 rfl
  obtain ⟨lt9_6, y9_6, -⟩ := hO.k0 6 rfl
  obtain ⟨c9_7_0, c9_7_1, lt9_7, y9_7, -⟩ := hO.k2 7 rfl
  obtain ⟨c9_8_0, c9_8_1, lt9_8, y9_8, -⟩ := hO.k2 8 rfl
  obtain ⟨c9_10_0, c9_10_1, lt9_10, y9_10, -⟩ := hO.k2 10 rfl
  have HO := Lib.hid hO
  clear hO
  go_wp2_with (first | (go_at_call 34; go_in) | (go_at_call 30; go_in) | (go_at_call 31; go_in) | (go_at_call 32; go_in) | (go_at_call 12; go_in) | (go_at_call 10; go_in) | (go_at_call 9; go_in) | (go_at_call 7; go_in))
  have hO := HO.out
  clear HO c9_1_0 c9_1_1 c9_1_2 c9_1_3 c9_1_4 c9_1_5 c9_1_6 c9_1_7 lt9_1 y9_1 c9_2_0 c9_2_1 lt9_2 y9_2 c9_3_0 c9_3_1 lt9_3 y9_3 c9_4_0 c9_4_1 lt9_4 y9_4 c9_5_0 c9_5_1 lt9_5 y9_5 lt9_6 y9_6 c9_7_0 c9_7_1 lt9_7 y9_7 c9_8_0 c9_8_1 lt9_8 y9_8 c9_10_0 c9_10_1 lt9_10 y9_10
  have hL := hO.apart
  have hX := hO.apartX
  have HL := Lib.hid hL
  have HX := Lib.hid hX
  clear hL hX
  have hP9 := hO.pick [0, 9, 10, 1] (by decide)
  have h9_hlen : nm.size ≤ 1048576 := (by omega)
  have T9 := dasgDyns nd2 nd5 nd3 nd4 B8_7 loc B8_2 nm _ _ _ hP9 pr6 pr7 h9_hlen
  refine Calls.mono T9 ?_
  clear hP9 T9 h9_hlen
  rintro e u11 ⟨nd12, rfl, hQ⟩
  have hN : Own w0 u11 [row (nd2) 206 nd5, (nd3, .map map3 3), row (nd4) 68 #[.int .u32 0, .int .u32 1], row (B8_6) 30 #[.iface 40 (.pointer (some ⟨B8_7, 0, none⟩)), .int .i32 loc], row (B8_5) 30 #[.iface 244 (.pointer (some ⟨B8_2, 0, none⟩)), .int .i32 loc], row (B8_4) 30 #[.iface 40 (.pointer (some ⟨B8_7, 0, none⟩)), .int .i32 loc], row (B8_3) 30 #[.iface 244 (.pointer (some ⟨B8_2, 0, none⟩)), .int .i32 loc], row (B8_2) 246 #[], row (B8_1) 30 #[.iface 244 (.pointer (some ⟨B8_2, 0, none⟩)), .int .i32 loc], row (B8) 30 #[.iface 244 (.pointer (some ⟨B8_2, 0, none⟩)), .int .i32 loc]] X := hQ.back HL.out HX.out [2, 3, 4, 5, 6, 7, 8] (by decide) (by decide)
  clear hQ HL HX hO
  have hO := hN
  clear hN
  obtain ⟨c9_2_0, c9_2_1, lt9_2, y9_2, -⟩ := hO.k2 2 rfl
  obtain ⟨c9_3_0, c9_3_1, lt9_3, y9_3, -⟩ := hO.k2 3 rfl
  obtain ⟨c9_4_0, c9_4_1, lt9_4, y9_4, -⟩ := hO.k2 4 rfl
  obtain ⟨c9_5_0, c9_5_1, lt9_5, y9_5, -⟩ := hO.k2 5 rfl
  obtain ⟨c9_6_0, c9_6_1, lt9_6, y9_6, -⟩ := hO.k2 6 rfl
  obtain ⟨lt9_7, y9_7, -⟩ := hO.k0 7 rfl
  obtain ⟨c9_8_0, c9_8_1, lt9_8, y9_8, -⟩ := hO.k2 8 rfl
  obtain ⟨c9_9_0, c9_9_1, lt9_9, y9_9, -⟩ := hO.k2 9 rfl
  have HO := Lib.hid hO
  clear hO
  go_wp2_with (first | (go_at_call 34; go_in) | (go_at_call 30; go_in) | (go_at_call 31; go_in) | (go_at_call 32; go_in) | (go_at_call 12; go_in) | (go_at_call 10; go_in) | (go_at_call 9; go_in) | (go_at_call 7; go_in))
  have hO := HO.out
  clear HO c9_2_0 c9_2_1 lt9_2 y9_2 c9_3_0 c9_3_1 lt9_3 y9_3 c9_4_0 c9_4_1 lt9_4 y9_4 c9_5_0 c9_5_1 lt9_5 y9_5 c9_6_0 c9_6_1 lt9_6 y9_6 lt9_7 y9_7 c9_8_0 c9_8_1 lt9_8 y9_8 c9_9_0 c9_9_1 lt9_9 y9_9
  generalize hW : World.alloc _ _ = W14
  have hN : Own w0 W14 [row (u11.heap.size) 30 #[.iface 40 (.pointer (some ⟨nd12, 0, none⟩)), .int .i32 loc], row (nd2) 206 nd5, (nd3, .map map3 3), row (nd4) 68 #[.int .u32 0, .int .u32 1], row (B8_6) 30 #[.iface 40 (.pointer (some ⟨B8_7, 0, none⟩)), .int .i32 loc], row (B8_5) 30 #[.iface 244 (.pointer (some ⟨B8_2, 0, none⟩)), .int .i32 loc], row (B8_4) 30 #[.iface 40 (.pointer (some ⟨B8_7, 0, none⟩)), .int .i32 loc], row (B8_3) 30 #[.iface 244 (.pointer (some ⟨B8_2, 0, none⟩)), .int .i32 loc], row (B8_2) 246 #[], row (B8_1) 30 #[.iface 244 (.pointer (some ⟨B8_2, 0, none⟩)), .int .i32 loc], row (B8) 30 #[.iface 244 (.pointer (some ⟨B8_2, 0, none⟩)), .int .i32 loc]] X := by
    rw [← hW]
    exact (hO).alloc' _ (u11.heap.size) (by simp)
  clear hW hO
  generalize u11.heap.size = B13 at hN ⊢
  have hO := hN
  clear hN
  refine bodyPost_ret (v := .bool true) ?_ rfl ⟨rfl, hO.sub [] (by decide)⟩
  simp [results, Tryd.results3, go_sem]
def law5l0driPost (kd loc : Int) (nm : ByteArray) (w0 : World) (X : Nat → Obj → Prop) (e : Ending) (w' : World) : Prop :=
  e = .returned (.bool true) ∧ Own w0 w' [] X
set_option maxRecDepth 100000 in
set_option maxHeartbeats 1000000 in
theorem law5l0dri (kd loc : Int) (nm : ByteArray) (w0 w : World) (X : Nat → Obj → Prop) (hO : Own w0 w [] X) (hlen : nm.size ≤ 65536) (hk0 : (kd.tmod 6 == 0) = true) :
    Calls Tryd.prog 3 #[.bool true, .bool true, .bool false, .int .u8 kd, .bool false, .int .i32 loc, .string nm] w (law5l0driPost kd loc nm w0 X) := by
  go_enter Tryd.func3, Tryd.ntmps3
  have hl9 : (nm.size : Int) ≤ 65536 := by omega
  go_wp2_with (first | (go_at_call 34; go_in) | (go_at_call 30; go_in) | (go_at_call 31; go_in) | (go_at_call 32; go_in) | (go_at_call 12; go_in) | (go_at_call 10; go_in) | (go_at_call 9; go_in) | (go_at_call 7; go_in))
  have hL := hO.apart
  have hX := hO.apartX
  have HL := Lib.hid hL
  have HX := Lib.hid hX
  clear hL hX
  have hP9 := hO.pick [] (by decide)
  have T9 := newDeadL true true false _ _ _ hP9 
  refine Calls.mono T9 ?_
  clear hP9 T9
  rintro e u1 ⟨nd2, nd3, nd4, nd5, rfl, pr6, pr7, hQ⟩
  have hN : Own w0 u1 [row (nd2) 206 nd5, (nd3, .map map3 3), row (nd4) 68 #[.int .u32 0, .int .u32 1]] X := hQ.back HL.out HX.out [] (by decide) (by decide)
  clear hQ HL HX hO
  have hO := hN
  clear hN
  obtain ⟨c9_2_0, c9_2_1, lt9_2, y9_2, -⟩ := hO.k2 2 rfl
  have HO := Lib.hid hO
  clear hO
  go_wp2_with (first | (go_at_call 34; go_in) | (go_at_call 30; go_in) | (go_at_call 31; go_in) | (go_at_call 32; go_in) | (go_at_call 12; go_in) | (go_at_call 10; go_in) | (go_at_call 9; go_in) | (go_at_call 7; go_in))
  have hO := HO.out
  clear HO c9_2_0 c9_2_1 lt9_2 y9_2
  generalize hW : World.alloc _ _ = W9
  have hN : Own w0 W9 [row (u1.heap.size + 1 + 1 + 1 + 1 + 1 + 1 + 1) 44 #[.iface 244 (.pointer (some ⟨u1.heap.size + 1 + 1, 0, none⟩)), .int .i32 loc, .string nm, .int .i32 loc, .int .u8 0, .bool false, .bool false, .bool false], row (u1.heap.size + 1 + 1 + 1 + 1 + 1 + 1) 30 #[.iface 40 (.pointer (some ⟨u1.heap.size + 1 + 1 + 1 + 1 + 1 + 1 + 1, 0, none⟩)), .int .i32 loc], row (u1.heap.size + 1 + 1 + 1 + 1 + 1) 30 #[.iface 244 (.pointer (some ⟨u1.heap.size + 1 + 1, 0, none⟩)), .int .i32 loc], row (u1.heap.size + 1 + 1 + 1 + 1) 30 #[.iface 40 (.pointer (some ⟨u1.heap.size + 1 + 1 + 1 + 1 + 1 + 1 + 1, 0, none⟩)), .int .i32 loc], row (u1.heap.size + 1 + 1 + 1) 30 #[.iface 244 (.pointer (some ⟨u1.heap.size + 1 + 1, 0, none⟩)), .int .i32 loc], row (u1.heap.size + 1 + 1) 246 #[], row (u1.heap.size + 1) 30 #[.iface 244 (.pointer (some ⟨u1.heap.size + 1 + 1, 0, none⟩)), .int .i32 loc], row (u1.heap.size) 30 #[.iface 244 (.pointer (some ⟨u1.heap.size + 1 + 1, 0, none⟩)), .int .i32 loc], row (nd2) 206 nd5, (nd3, .map map3 3), row (nd4) 68 #[.int .u32 0, .int .u32 1]] X := by
    rw [← hW]
    exact ((((((((hO).alloc' _ (u1.heap.size) (by simp)).alloc' _ (u1.heap.size + 1) (by simp)).alloc' _ (u1.heap.size + 1 + 1) (by simp)).alloc' _ (u1.heap.size + 1 + 1 + 1) (by simp)).alloc' _ (u1.heap.size + 1 + 1 + 1 + 1) (by simp)).alloc' _ (u1.heap.size + 1 + 1 + 1 + 1 + 1) (by simp)).alloc' _ (u1.heap.size + 1 + 1 + 1 + 1 + 1 + 1) (by simp)).alloc' _ (u1.heap.size + 1 + 1 + 1 + 1 + 1 + 1 + 1) (by simp)
  clear hW hO
  generalize u1.heap.size + 1 + 1 + 1 + 1 + 1 + 1 + 1 = B8_7 at hN ⊢
  generalize u1.heap.size + 1 + 1 + 1 + 1 + 1 + 1 = B8_6 at hN ⊢
  generalize u1.heap.size + 1 + 1 + 1 + 1 + 1 = B8_5 at hN ⊢
  generalize u1.heap.size + 1 + 1 + 1 + 1 = B8_4 at hN ⊢
  generalize u1.heap.size + 1 + 1 + 1 = B8_3 at hN ⊢
  generalize u1.heap.size + 1 + 1 = B8_2 at hN ⊢
  generalize u1.heap.size + 1 = B8_1 at hN ⊢
  generalize u1.heap.size = B8 at hN ⊢
  have hO := hN
  clear hN
  have hL := hO.apart
  have hX := hO.apartX
  have HL := Lib.hid hL
  have HX := Lib.hid hX
  clear hL hX
  have hP9 := hO.pick [8] (by decide)
  have T9 := shlYes nd2 nd5 nd3 nd4 true false loc B8_2 _ _ _ hP9 pr6 pr7
  refine Calls.mono T9 ?_
  clear hP9 T9
  rintro e u10 ⟨rfl, hQ⟩
  have hN : Own w0 u10 [row (nd2) 206 nd5, row (B8_7) 44 #[.iface 244 (.pointer (some ⟨B8_2, 0, none⟩)), .int .i32 loc, .string nm, .int .i32 loc, .int .u8 0, .bool false, .bool false, .bool false], row (B8_6) 30 #[.iface 40 (.pointer (some ⟨B8_7, 0, none⟩)), .int .i32 loc], row (B8_5) 30 #[.iface 244 (.pointer (some ⟨B8_2, 0, none⟩)), .int .i32 loc], row (B8_4) 30 #[.iface 40 (.pointer (some ⟨B8_7, 0, none⟩)), .int .i32 loc], row (B8_3) 30 #[.iface 244 (.pointer (some ⟨B8_2, 0, none⟩)), .int .i32 loc], row (B8_2) 246 #[], row (B8_1) 30 #[.iface 244 (.pointer (some ⟨B8_2, 0, none⟩)), .int .i32 loc], row (B8) 30 #[.iface 244 (.pointer (some ⟨B8_2, 0, none⟩)), .int .i32 loc], (nd3, .map map3 3), row (nd4) 68 #[.int .u32 0, .int .u32 1]] X := hQ.back HL.out HX.out [0, 1, 2, 3, 4, 5, 6, 7, 9, 10] (by decide) (by decide)
  clear hQ HL HX hO
  have hO := hN
  clear hN
  obtain ⟨c9_1_0, c9_1_1, c9_1_2, c9_1_3, c9_1_4, c9_1_5, c9_1_6, c9_1_7, lt9_1, y9_1, -⟩ := hO.k8 1 rfl
  obtain ⟨c9_2_0, c9_2_1, lt9_2, y9_2, -⟩ := hO.k2 2 rfl
  obtain ⟨c9_3_0, c9_3_1, lt9_3, y9_3, -⟩ := hO.k2 3 rfl
  obtain ⟨c9_4_0, c9_4_1, lt9_4, y9_4, -⟩ := hO.k2 4 rfl
  obtain ⟨c9_5_0, c9_5_1, lt9_5, y9_5, -⟩ := hO.k2 5 rfl
  obtain ⟨lt9_6, y9_6, -⟩ := hO.k0 6 rfl
  obtain ⟨c9_7_0, c9_7_1, lt9_7, y9_7, -⟩ := hO.k2 7 rfl
  obtain ⟨c9_8_0, c9_8_1, lt9_8, y9_8, -⟩ := hO.k2 8 rfl
  obtain ⟨c9_10_0, c9_10_1, lt9_10, y9_10, -⟩ := hO.k2 10 rfl
  have HO := Lib.hid hO
  clear hO
  go_wp2_with (first | (go_at_call 34; go_in) | (go_at_call 30; go_in) | (go_at_call 31; go_in) | (go_at_call 32; go_in) | (go_at_call 12; go_in) | (go_at_call 10; go_in) | (go_at_call 9; go_in) | (go_at_call 7; go_in))
  have hO := HO.out
  clear HO c9_1_0 c9_1_1 c9_1_2 c9_1_3 c9_1_4 c9_1_5 c9_1_6 c9_1_7 lt9_1 y9_1 c9_2_0 c9_2_1 lt9_2 y9_2 c9_3_0 c9_3_1 lt9_3 y9_3 c9_4_0 c9_4_1 lt9_4 y9_4 c9_5_0 c9_5_1 lt9_5 y9_5 lt9_6 y9_6 c9_7_0 c9_7_1 lt9_7 y9_7 c9_8_0 c9_8_1 lt9_8 y9_8 c9_10_0 c9_10_1 lt9_10 y9_10
  have hL := hO.apart
  have hX := hO.apartX
  have HL := Lib.hid hL
  have HX := Lib.hid hX
  clear hL hX
  have hP9 := hO.pick [0, 9, 10, 1] (by decide)
  have h9_hlen : nm.size ≤ 1048576 := (by omega)
  have T9 := dasgDyri nd2 nd5 nd3 nd4 B8_7 loc B8_2 nm _ _ _ hP9 pr6 pr7 h9_hlen
  refine Calls.mono T9 ?_
  clear hP9 T9 h9_hlen
  rintro e u11 ⟨nd12, rfl, hQ⟩
  have hN : Own w0 u11 [row (nd2) 206 nd5, (nd3, .map map3 3), row (nd4) 68 #[.int .u32 0, .int .u32 1], row (B8_6) 30 #[.iface 40 (.pointer (some ⟨B8_7, 0, none⟩)), .int .i32 loc], row (B8_5) 30 #[.iface 244 (.pointer (some ⟨B8_2, 0, none⟩)), .int .i32 loc], row (B8_4) 30 #[.iface 40 (.pointer (some ⟨B8_7, 0, none⟩)), .int .i32 loc], row (B8_3) 30 #[.iface 244 (.pointer (some ⟨B8_2, 0, none⟩)), .int .i32 loc], row (B8_2) 246 #[], row (B8_1) 30 #[.iface 244 (.pointer (some ⟨B8_2, 0, none⟩)), .int .i32 loc], row (B8) 30 #[.iface 244 (.pointer (some ⟨B8_2, 0, none⟩)), .int .i32 loc]] X := hQ.back HL.out HX.out [2, 3, 4, 5, 6, 7, 8] (by decide) (by decide)
  clear hQ HL HX hO
  have hO := hN
  clear hN
  obtain ⟨c9_2_0, c9_2_1, lt9_2, y9_2, -⟩ := hO.k2 2 rfl
  obtain ⟨c9_3_0, c9_3_1, lt9_3, y9_3, -⟩ := hO.k2 3 rfl
  obtain ⟨c9_4_0, c9_4_1, lt9_4, y9_4, -⟩ := hO.k2 4 rfl
  obtain ⟨c9_5_0, c9_5_1, lt9_5, y9_5, -⟩ := hO.k2 5 rfl
  obtain ⟨c9_6_0, c9_6_1, lt9_6, y9_6, -⟩ := hO.k2 6 rfl
  obtain ⟨lt9_7, y9_7, -⟩ := hO.k0 7 rfl
  obtain ⟨c9_8_0, c9_8_1, lt9_8, y9_8, -⟩ := hO.k2 8 rfl
  obtain ⟨c9_9_0, c9_9_1, lt9_9, y9_9, -⟩ := hO.k2 9 rfl
  have HO := Lib.hid hO
  clear hO
  go_wp2_with (first | (go_at_call 34; go_in) | (go_at_call 30; go_in) | (go_at_call 31; go_in) | (go_at_call 32; go_in) | (go_at_call 12; go_in) | (go_at_call 10; go_in) | (go_at_call 9; go_in) | (go_at_call 7; go_in))
  have hO := HO.out
  clear HO c9_2_0 c9_2_1 lt9_2 y9_2 c9_3_0 c9_3_1 lt9_3 y9_3 c9_4_0 c9_4_1 lt9_4 y9_4 c9_5_0 c9_5_1 lt9_5 y9_5 c9_6_0 c9_6_1 lt9_6 y9_6 lt9_7 y9_7 c9_8_0 c9_8_1 lt9_8 y9_8 c9_9_0 c9_9_1 lt9_9 y9_9
  generalize hW : World.alloc _ _ = W14
  have hN : Own w0 W14 [row (u11.heap.size) 30 #[.iface 40 (.pointer (some ⟨nd12, 0, none⟩)), .int .i32 loc], row (nd2) 206 nd5, (nd3, .map map3 3), row (nd4) 68 #[.int .u32 0, .int .u32 1], row (B8_6) 30 #[.iface 40 (.pointer (some ⟨B8_7, 0, none⟩)), .int .i32 loc], row (B8_5) 30 #[.iface 244 (.pointer (some ⟨B8_2, 0, none⟩)), .int .i32 loc], row (B8_4) 30 #[.iface 40 (.pointer (some ⟨B8_7, 0, none⟩)), .int .i32 loc], row (B8_3) 30 #[.iface 244 (.pointer (some ⟨B8_2, 0, none⟩)), .int .i32 loc], row (B8_2) 246 #[], row (B8_1) 30 #[.iface 244 (.pointer (some ⟨B8_2, 0, none⟩)), .int .i32 loc], row (B8) 30 #[.iface 244 (.pointer (some ⟨B8_2, 0, none⟩)), .int .i32 loc]] X := by
    rw [← hW]
    exact (hO).alloc' _ (u11.heap.size) (by simp)
  clear hW hO
  generalize u11.heap.size = B13 at hN ⊢
  have hO := hN
  clear hN
  refine bodyPost_ret (v := .bool true) ?_ rfl ⟨rfl, hO.sub [] (by decide)⟩
  simp [results, Tryd.results3, go_sem]
def law5l0drsPost (kd loc : Int) (nm : ByteArray) (w0 : World) (X : Nat → Obj → Prop) (e : Ending) (w' : World) : Prop :=
  e = .returned (.bool true) ∧ Own w0 w' [] X
set_option maxRecDepth 100000 in
set_option maxHeartbeats 1000000 in
theorem law5l0drs (kd loc : Int) (nm : ByteArray) (w0 w : World) (X : Nat → Obj → Prop) (hO : Own w0 w [] X) (hlen : nm.size ≤ 65536) (hk0 : (kd.tmod 6 == 0) = true) :
    Calls Tryd.prog 3 #[.bool true, .bool true, .bool true, .int .u8 kd, .bool false, .int .i32 loc, .string nm] w (law5l0drsPost kd loc nm w0 X) := by
  go_enter Tryd.func3, Tryd.ntmps3
  have hl9 : (nm.size : Int) ≤ 65536 := by omega
  go_wp2_with (first | (go_at_call 34; go_in) | (go_at_call 30; go_in) | (go_at_call 31; go_in) | (go_at_call 32; go_in) | (go_at_call 12; go_in) | (go_at_call 10; go_in) | (go_at_call 9; go_in) | (go_at_call 7; go_in))
  have hL := hO.apart
  have hX := hO.apartX
  have HL := Lib.hid hL
  have HX := Lib.hid hX
  clear hL hX
  have hP9 := hO.pick [] (by decide)
  have T9 := newDeadL true true true _ _ _ hP9 
  refine Calls.mono T9 ?_
  clear hP9 T9
  rintro e u1 ⟨nd2, nd3, nd4, nd5, rfl, pr6, pr7, hQ⟩
  have hN : Own w0 u1 [row (nd2) 206 nd5, (nd3, .map map3 3), row (nd4) 68 #[.int .u32 0, .int .u32 1]] X := hQ.back HL.out HX.out [] (by decide) (by decide)
  clear hQ HL HX hO
  have hO := hN
  clear hN
  obtain ⟨c9_2_0, c9_2_1, lt9_2, y9_2, -⟩ := hO.k2 2 rfl
  have HO := Lib.hid hO
  clear hO
  go_wp2_with (first | (go_at_call 34; go_in) | (go_at_call 30; go_in) | (go_at_call 31; go_in) | (go_at_call 32; go_in) | (go_at_call 12; go_in) | (go_at_call 10; go_in) | (go_at_call 9; go_in) | (go_at_call 7; go_in))
  have hO := HO.out
  clear HO c9_2_0 c9_2_1 lt9_2 y9_2
  generalize hW : World.alloc _ _ = W9
  have hN : Own w0 W9 [row (u1.heap.size + 1 + 1 + 1 + 1 + 1 + 1 + 1) 44 #[.iface 244 (.pointer (some ⟨u1.heap.size + 1 + 1, 0, none⟩)), .int .i32 loc, .string nm, .int .i32 loc, .int .u8 0, .bool false, .bool false, .bool false], row (u1.heap.size + 1 + 1 + 1 + 1 + 1 + 1) 30 #[.iface 40 (.pointer (some ⟨u1.heap.size + 1 + 1 + 1 + 1 + 1 + 1 + 1, 0, none⟩)), .int .i32 loc], row (u1.heap.size + 1 + 1 + 1 + 1 + 1) 30 #[.iface 244 (.pointer (some ⟨u1.heap.size + 1 + 1, 0, none⟩)), .int .i32 loc], row (u1.heap.size + 1 + 1 + 1 + 1) 30 #[.iface 40 (.pointer (some ⟨u1.heap.size + 1 + 1 + 1 + 1 + 1 + 1 + 1, 0, none⟩)), .int .i32 loc], row (u1.heap.size + 1 + 1 + 1) 30 #[.iface 244 (.pointer (some ⟨u1.heap.size + 1 + 1, 0, none⟩)), .int .i32 loc], row (u1.heap.size + 1 + 1) 246 #[], row (u1.heap.size + 1) 30 #[.iface 244 (.pointer (some ⟨u1.heap.size + 1 + 1, 0, none⟩)), .int .i32 loc], row (u1.heap.size) 30 #[.iface 244 (.pointer (some ⟨u1.heap.size + 1 + 1, 0, none⟩)), .int .i32 loc], row (nd2) 206 nd5, (nd3, .map map3 3), row (nd4) 68 #[.int .u32 0, .int .u32 1]] X := by
    rw [← hW]
    exact ((((((((hO).alloc' _ (u1.heap.size) (by simp)).alloc' _ (u1.heap.size + 1) (by simp)).alloc' _ (u1.heap.size + 1 + 1) (by simp)).alloc' _ (u1.heap.size + 1 + 1 + 1) (by simp)).alloc' _ (u1.heap.size + 1 + 1 + 1 + 1) (by simp)).alloc' _ (u1.heap.size + 1 + 1 + 1 + 1 + 1) (by simp)).alloc' _ (u1.heap.size + 1 + 1 + 1 + 1 + 1 + 1) (by simp)).alloc' _ (u1.heap.size + 1 + 1 + 1 + 1 + 1 + 1 + 1) (by simp)
  clear hW hO
  generalize u1.heap.size + 1 + 1 + 1 + 1 + 1 + 1 + 1 = B8_7 at hN ⊢
  generalize u1.heap.size + 1 + 1 + 1 + 1 + 1 + 1 = B8_6 at hN ⊢
  generalize u1.heap.size + 1 + 1 + 1 + 1 + 1 = B8_5 at hN ⊢
  generalize u1.heap.size + 1 + 1 + 1 + 1 = B8_4 at hN ⊢
  generalize u1.heap.size + 1 + 1 + 1 = B8_3 at hN ⊢
  generalize u1.heap.size + 1 + 1 = B8_2 at hN ⊢
  generalize u1.heap.size + 1 = B8_1 at hN ⊢
  generalize u1.heap.size = B8 at hN ⊢
  have hO := hN
  clear hN
  have hL := hO.apart
  have hX := hO.apartX
  have HL := Lib.hid hL
  have HX := Lib.hid hX
  clear hL hX
  have hP9 := hO.pick [8] (by decide)
  have T9 := shlYes nd2 nd5 nd3 nd4 true true loc B8_2 _ _ _ hP9 pr6 pr7
  refine Calls.mono T9 ?_
  clear hP9 T9
  rintro e u10 ⟨rfl, hQ⟩
  have hN : Own w0 u10 [row (nd2) 206 nd5, row (B8_7) 44 #[.iface 244 (.pointer (some ⟨B8_2, 0, none⟩)), .int .i32 loc, .string nm, .int .i32 loc, .int .u8 0, .bool false, .bool false, .bool false], row (B8_6) 30 #[.iface 40 (.pointer (some ⟨B8_7, 0, none⟩)), .int .i32 loc], row (B8_5) 30 #[.iface 244 (.pointer (some ⟨B8_2, 0, none⟩)), .int .i32 loc], row (B8_4) 30 #[.iface 40 (.pointer (some ⟨B8_7, 0, none⟩)), .int .i32 loc], row (B8_3) 30 #[.iface 244 (.pointer (some ⟨B8_2, 0, none⟩)), .int .i32 loc], row (B8_2) 246 #[], row (B8_1) 30 #[.iface 244 (.pointer (some ⟨B8_2, 0, none⟩)), .int .i32 loc], row (B8) 30 #[.iface 244 (.pointer (some ⟨B8_2, 0, none⟩)), .int .i32 loc], (nd3, .map map3 3), row (nd4) 68 #[.int .u32 0, .int .u32 1]] X := hQ.back HL.out HX.out [0, 1, 2, 3, 4, 5, 6, 7, 9, 10] (by decide) (by decide)
  clear hQ HL HX hO
  have hO := hN
  clear hN
  obtain ⟨c9_1_0, c9_1_1, c9_1_2, c9_1_3, c9_1_4, c9_1_5, c9_1_6, c9_1_7, lt9_1, y9_1, -⟩ := hO.k8 1 rfl
  obtain ⟨c9_2_0, c9_2_1, lt9_2, y9_2, -⟩ := hO.k2 2 rfl
  obtain ⟨c9_3_0, c9_3_1, lt9_3, y9_3, -⟩ := hO.k2 3 rfl
  obtain ⟨c9_4_0, c9_4_1, lt9_4, y9_4, -⟩ := hO.k2 4 rfl
  obtain ⟨c9_5_0, c9_5_1, lt9_5, y9_5, -⟩ := hO.k2 5 rfl
  obtain ⟨lt9_6, y9_6, -⟩ := hO.k0 6 rfl
  obtain ⟨c9_7_0, c9_7_1, lt9_7, y9_7, -⟩ := hO.k2 7 rfl
  obtain ⟨c9_8_0, c9_8_1, lt9_8, y9_8, -⟩ := hO.k2 8 rfl
  obtain ⟨c9_10_0, c9_10_1, lt9_10, y9_10, -⟩ := hO.k2 10 rfl
  have HO := Lib.hid hO
  clear hO
  go_wp2_with (first | (go_at_call 34; go_in) | (go_at_call 30; go_in) | (go_at_call 31; go_in) | (go_at_call 32; go_in) | (go_at_call 12; go_in) | (go_at_call 10; go_in) | (go_at_call 9; go_in) | (go_at_call 7; go_in))
  have hO := HO.out
  clear HO c9_1_0 c9_1_1 c9_1_2 c9_1_3 c9_1_4 c9_1_5 c9_1_6 c9_1_7 lt9_1 y9_1 c9_2_0 c9_2_1 lt9_2 y9_2 c9_3_0 c9_3_1 lt9_3 y9_3 c9_4_0 c9_4_1 lt9_4 y9_4 c9_5_0 c9_5_1 lt9_5 y9_5 lt9_6 y9_6 c9_7_0 c9_7_1 lt9_7 y9_7 c9_8_0 c9_8_1 lt9_8 y9_8 c9_10_0 c9_10_1 lt9_10 y9_10
  have hL := hO.apart
  have hX := hO.apartX
  have HL := Lib.hid hL
  have HX := Lib.hid hX
  clear hL hX
  have hP9 := hO.pick [0, 9, 10, 1] (by decide)
  have h9_hlen : nm.size ≤ 1048576 := (by omega)
  have T9 := dasgDyrs nd2 nd5 nd3 nd4 B8_7 loc B8_2 nm _ _ _ hP9 pr6 pr7 h9_hlen
  refine Calls.mono T9 ?_
  clear hP9 T9 h9_hlen
  rintro e u11 ⟨nd12, rfl, hQ⟩
  have hN : Own w0 u11 [row (nd2) 206 nd5, (nd3, .map map3 3), row (nd4) 68 #[.int .u32 0, .int .u32 1], row (B8_6) 30 #[.iface 40 (.pointer (some ⟨B8_7, 0, none⟩)), .int .i32 loc], row (B8_5) 30 #[.iface 244 (.pointer (some ⟨B8_2, 0, none⟩)), .int .i32 loc], row (B8_4) 30 #[.iface 40 (.pointer (some ⟨B8_7, 0, none⟩)), .int .i32 loc], row (B8_3) 30 #[.iface 244 (.pointer (some ⟨B8_2, 0, none⟩)), .int .i32 loc], row (B8_2) 246 #[], row (B8_1) 30 #[.iface 244 (.pointer (some ⟨B8_2, 0, none⟩)), .int .i32 loc], row (B8) 30 #[.iface 244 (.pointer (some ⟨B8_2, 0, none⟩)), .int .i32 loc]] X := hQ.back HL.out HX.out [2, 3, 4, 5, 6, 7, 8] (by decide) (by decide)
  clear hQ HL HX hO
  have hO := hN
  clear hN
  obtain ⟨c9_2_0, c9_2_1, lt9_2, y9_2, -⟩ := hO.k2 2 rfl
  obtain ⟨c9_3_0, c9_3_1, lt9_3, y9_3, -⟩ := hO.k2 3 rfl
  obtain ⟨c9_4_0, c9_4_1, lt9_4, y9_4, -⟩ := hO.k2 4 rfl
  obtain ⟨c9_5_0, c9_5_1, lt9_5, y9_5, -⟩ := hO.k2 5 rfl
  obtain ⟨c9_6_0, c9_6_1, lt9_6, y9_6, -⟩ := hO.k2 6 rfl
  obtain ⟨lt9_7, y9_7, -⟩ := hO.k0 7 rfl
  obtain ⟨c9_8_0, c9_8_1, lt9_8, y9_8, -⟩ := hO.k2 8 rfl
  obtain ⟨c9_9_0, c9_9_1, lt9_9, y9_9, -⟩ := hO.k2 9 rfl
  have HO := Lib.hid hO
  clear hO
  go_wp2_with (first | (go_at_call 34; go_in) | (go_at_call 30; go_in) | (go_at_call 31; go_in) | (go_at_call 32; go_in) | (go_at_call 12; go_in) | (go_at_call 10; go_in) | (go_at_call 9; go_in) | (go_at_call 7; go_in))
  have hO := HO.out
  clear HO c9_2_0 c9_2_1 lt9_2 y9_2 c9_3_0 c9_3_1 lt9_3 y9_3 c9_4_0 c9_4_1 lt9_4 y9_4 c9_5_0 c9_5_1 lt9_5 y9_5 c9_6_0 c9_6_1 lt9_6 y9_6 lt9_7 y9_7 c9_8_0 c9_8_1 lt9_8 y9_8 c9_9_0 c9_9_1 lt9_9 y9_9
  generalize hW : World.alloc _ _ = W14
  have hN : Own w0 W14 [row (u11.heap.size) 30 #[.iface 40 (.pointer (some ⟨nd12, 0, none⟩)), .int .i32 loc], row (nd2) 206 nd5, (nd3, .map map3 3), row (nd4) 68 #[.int .u32 0, .int .u32 1], row (B8_6) 30 #[.iface 40 (.pointer (some ⟨B8_7, 0, none⟩)), .int .i32 loc], row (B8_5) 30 #[.iface 244 (.pointer (some ⟨B8_2, 0, none⟩)), .int .i32 loc], row (B8_4) 30 #[.iface 40 (.pointer (some ⟨B8_7, 0, none⟩)), .int .i32 loc], row (B8_3) 30 #[.iface 244 (.pointer (some ⟨B8_2, 0, none⟩)), .int .i32 loc], row (B8_2) 246 #[], row (B8_1) 30 #[.iface 244 (.pointer (some ⟨B8_2, 0, none⟩)), .int .i32 loc], row (B8) 30 #[.iface 244 (.pointer (some ⟨B8_2, 0, none⟩)), .int .i32 loc]] X := by
    rw [← hW]
    exact (hO).alloc' _ (u11.heap.size) (by simp)
  clear hW hO
  generalize u11.heap.size = B13 at hN ⊢
  have hO := hN
  clear hN
  refine bodyPost_ret (v := .bool true) ?_ rfl ⟨rfl, hO.sub [] (by decide)⟩
  simp [results, Tryd.results3, go_sem]
def rlaw5l0xni2E (loc : Int) (nm : ByteArray) (B8_4 : Nat) (B8_3 : Nat) (B8_2 : Nat) : Nat → Rega.Atoms → Value
  | 0, α => .int .i32 loc
  | 1, α => .agg #[.iface 244 (.pointer (some ⟨B8_2, 0, none⟩)), .int .i32 loc]
  | 2, α => .int .i32 loc
  | 3, α => .string nm
  | 4, α => .agg #[.iface 50 (.pointer (some ⟨α 4, 0, none⟩)), .int .i32 loc]
  | 5, α => .agg #[.iface 209 (.pointer (some ⟨α 5, 0, none⟩)), .int .i32 loc]
  | 6, α => undef
  | _, _ => undef
def rlaw5l0xni2Anc : Nat → List Nat
  | 4 => [2, 3]
  | 5 => [0, 1, 2, 3, 4]
  | 6 => [0, 1, 2, 3, 4, 5]
  | _ => []
def rlaw5l0xni2Trn : Nat → List Nat
  | 6 => [999]
  | _ => []
def rlaw5l0xni2Cnt : List (Nat × Nat) := [(4, 1), (5, 1)]
def rlaw5l0xni2T999 (loc : Int) (nm : ByteArray) (B8_4 : Nat) (B8_3 : Nat) (B8_2 : Nat) (L9 : Nat → Bool) (α : Rega.Atoms) : Rw := if L9 6 = true then row (B8_4) 30 #[.iface 209 (.pointer (some ⟨α 5, 0, none⟩)), .int .i32 loc] else row (B8_4) 30 #[.nilIface, .int .i32 0]
def rlaw5l0xni2R (loc : Int) (nm : ByteArray) (B8_4 : Nat) (B8_3 : Nat) (B8_2 : Nat) (L9 : Nat → Bool) (α : Rega.Atoms) (ix9 : Nat) : Rw := if ix9 = 999 then rlaw5l0xni2T999 loc nm B8_4 B8_3 B8_2 L9 α else if ix9 = 1999 then row (B8_3) 30 #[.iface 244 (.pointer (some ⟨B8_2, 0, none⟩)), .int .i32 loc] else if ix9 = 4 then row (α 4) 214 #[.slice (some ⟨α 1004, 0, none⟩) (α 2004) (α 3004), .int .i32 0, .bool false, .bool false, .bool false] else if ix9 = 5 then row (α 5) 211 #[(.iface 244 (.pointer (some ⟨B8_2, 0, none⟩))), .int .i32 loc, (.iface 50 (.pointer (some ⟨α 4, 0, none⟩))), .int .i32 loc, .int .i32 0, .int .u8 0, .bool false, .bool false, .bool false] else (0, .map #[] 0)
theorem rlaw5l0xni2_he (loc : Int) (nm : ByteArray) (B8_4 : Nat) (B8_3 : Nat) (B8_2 : Nat) : ∀ kk α α', (∀ j, (j % 1000 = kk ∨ j % 1000 ∈ rlaw5l0xni2Anc kk) → α j = α' j) → rlaw5l0xni2E loc nm B8_4 B8_3 B8_2 kk α = rlaw5l0xni2E loc nm B8_4 B8_3 B8_2 kk α' := by
  intro kk α α' h
  match kk with
  | 0 => rfl
  | 1 => rfl
  | 2 => rfl
  | 3 => rfl
  | 4 => simp only [rlaw5l0xni2E, h 4 (Or.inl rfl)]
  | 5 => simp only [rlaw5l0xni2E, h 5 (Or.inl rfl)]
  | 6 => rfl
  | n + 7 => rfl
theorem rlaw5l0xni2_st (loc : Int) (nm : ByteArray) (B8_4 : Nat) (B8_3 : Nat) (B8_2 : Nat) : Stable rlaw5l0xni2Cnt 2 rlaw5l0xni2Anc rlaw5l0xni2Trn (rlaw5l0xni2R loc nm B8_4 B8_3 B8_2) := by
  intro k9 L9 α α' ix9 hk hcl hα hact ht
  have hp := act_places hact
  replace hp : ix9 ∈ [999, 1999, 4, 5] := hp
  simp only [List.mem_cons, List.not_mem_nil, or_false] at hp
  rcases hp with rfl | rfl | rfl | rfl
  · show rlaw5l0xni2T999 loc nm B8_4 B8_3 B8_2 (Rega.ran L9 k9) α' = rlaw5l0xni2T999 loc nm B8_4 B8_3 B8_2 L9 α
    unfold rlaw5l0xni2T999
    have n6 : 6 ≠ k9 := fun e => ht (by rw [← e]; decide)
    rw [ran_ne n6]
    by_cases e6 : L9 6 = true
    · first | rw [if_pos e6, if_pos e6] | rw [if_pos e6]
      try simp only [hα 5 (ne_ran hk (hcl 6 e6 5 (by decide)))]
    first | rw [if_neg e6, if_neg e6] | rw [if_neg e6]
  · rfl
  · have e0 : L9 4 = true := act_lt hact (by decide)
    show row (α' 4) 214 #[.slice (some ⟨α' 1004, 0, none⟩) (α' 2004) (α' 3004), .int .i32 0, .bool false, .bool false, .bool false] = row (α 4) 214 #[.slice (some ⟨α 1004, 0, none⟩) (α 2004) (α 3004), .int .i32 0, .bool false, .bool false, .bool false]
    simp only [hα 4 (ne_ran hk e0), hα 1004 (ne_ran hk e0), hα 2004 (ne_ran hk e0), hα 3004 (ne_ran hk e0)]
  · have e0 : L9 5 = true := act_lt hact (by decide)
    show row (α' 5) 211 #[(.iface 244 (.pointer (some ⟨B8_2, 0, none⟩))), .int .i32 loc, (.iface 50 (.pointer (some ⟨α' 4, 0, none⟩))), .int .i32 loc, .int .i32 0, .int .u8 0, .bool false, .bool false, .bool false] = row (α 5) 211 #[(.iface 244 (.pointer (some ⟨B8_2, 0, none⟩))), .int .i32 loc, (.iface 50 (.pointer (some ⟨α 4, 0, none⟩))), .int .i32 loc, .int .i32 0, .int .u8 0, .bool false, .bool false, .bool false]
    simp only [hα 4 (ne_ran hk (hcl 5 e0 4 (by decide))), hα 5 (ne_ran hk e0)]
def law5l0xniPost (kd loc : Int) (nm : ByteArray) (w0 : World) (X : Nat → Obj → Prop) (e : Ending) (w' : World) : Prop :=
  e = .returned (.bool true) ∧ Own w0 w' [] X
set_option maxRecDepth 100000 in
set_option maxHeartbeats 1000000 in
theorem law5l0xni (kd loc : Int) (nm : ByteArray) (w0 w : World) (X : Nat → Obj → Prop) (hO : Own w0 w [] X) (hlen : nm.size ≤ 65536) (hk0 : (kd.tmod 6 == 0) = true) :
    Calls Tryd.prog 3 #[.bool true, .bool false, .bool false, .int .u8 kd, .bool true, .int .i32 loc, .string nm] w (law5l0xniPost kd loc nm w0 X) := by
  go_enter Tryd.func3, Tryd.ntmps3
  have hl9 : (nm.size : Int) ≤ 65536 := by omega
  go_wp2_with (first | (go_at_call 34; go_in) | (go_at_call 30; go_in) | (go_at_call 31; go_in) | (go_at_call 32; go_in) | (go_at_call 12; go_in) | (go_at_call 10; go_in) | (go_at_call 9; go_in) | (go_at_call 7; go_in))
  have hL := hO.apart
  have hX := hO.apartX
  have HL := Lib.hid hL
  have HX := Lib.hid hX
  clear hL hX
  have hP9 := hO.pick [] (by decide)
  have T9 := newDeadL true false false _ _ _ hP9 
  refine Calls.mono T9 ?_
  clear hP9 T9
  rintro e u1 ⟨nd2, nd3, nd4, nd5, rfl, pr6, pr7, hQ⟩
  have hN : Own w0 u1 [row (nd2) 206 nd5, (nd3, .map map3 3), row (nd4) 68 #[.int .u32 0, .int .u32 1]] X := hQ.back HL.out HX.out [] (by decide) (by decide)
  clear hQ HL HX hO
  have hO := hN
  clear hN
  obtain ⟨c9_2_0, c9_2_1, lt9_2, y9_2, -⟩ := hO.k2 2 rfl
  have HO := Lib.hid hO
  clear hO
  go_wp2_with (first | (go_at_call 34; go_in) | (go_at_call 30; go_in) | (go_at_call 31; go_in) | (go_at_call 32; go_in) | (go_at_call 12; go_in) | (go_at_call 10; go_in) | (go_at_call 9; go_in) | (go_at_call 7; go_in))
  have hO := HO.out
  clear HO c9_2_0 c9_2_1 lt9_2 y9_2
  generalize hW : World.alloc _ _ = W9
  have hN : Own w0 W9 [row (u1.heap.size + 1 + 1 + 1 + 1) 30 #[.nilIface, .int .i32 0], row (u1.heap.size + 1 + 1 + 1) 30 #[.iface 244 (.pointer (some ⟨u1.heap.size + 1 + 1, 0, none⟩)), .int .i32 loc], row (u1.heap.size + 1 + 1) 246 #[], row (u1.heap.size + 1) 30 #[.iface 244 (.pointer (some ⟨u1.heap.size + 1 + 1, 0, none⟩)), .int .i32 loc], row (u1.heap.size) 30 #[.iface 244 (.pointer (some ⟨u1.heap.size + 1 + 1, 0, none⟩)), .int .i32 loc], row (nd2) 206 nd5, (nd3, .map map3 3), row (nd4) 68 #[.int .u32 0, .int .u32 1]] X := by
    rw [← hW]
    exact (((((hO).alloc' _ (u1.heap.size) (by simp)).alloc' _ (u1.heap.size + 1) (by simp)).alloc' _ (u1.heap.size + 1 + 1) (by simp)).alloc' _ (u1.heap.size + 1 + 1 + 1) (by simp)).alloc' _ (u1.heap.size + 1 + 1 + 1 + 1) (by simp)
  clear hW hO
  generalize u1.heap.size + 1 + 1 + 1 + 1 = B8_4 at hN ⊢
  generalize u1.heap.size + 1 + 1 + 1 = B8_3 at hN ⊢
  generalize u1.heap.size + 1 + 1 = B8_2 at hN ⊢
  generalize u1.heap.size + 1 = B8_1 at hN ⊢
  generalize u1.heap.size = B8 at hN ⊢
  have hO := hN
  clear hN
  have hL := hO.apart
  have hX := hO.apartX
  have HL := Lib.hid hL
  have HX := Lib.hid hX
  clear hL hX
  have hP9 := hO.pick [0, 1] (by decide)
  generalize hX9_10 : Own.Rest _ _ X = X9_10 at hP9
  replace hP9 : Own w0 W9 [row (B8_4) 30 #[.nilIface, .int .i32 0], row (B8_3) 30 #[.iface 244 (.pointer (some ⟨B8_2, 0, none⟩)), .int .i32 loc]] X9_10 := hP9
  clear hO
  have hO := hP9
  clear hP9
  have st9 := rlaw5l0xni2_st loc nm B8_4 B8_3 B8_2
  refine wp_region_own (e := rlaw5l0xni2E loc nm B8_4 B8_3 B8_2) (anc := rlaw5l0xni2Anc) (G := (fun L9 α u9 => OwnF w0 u9 (act rlaw5l0xni2Cnt 2 L9) (rlaw5l0xni2R loc nm B8_4 B8_3 B8_2 L9 α) X9_10)) (by kernel_rfl) (by kernel_rfl) (by kernel_rfl) (by kernel_rfl) (rlaw5l0xni2_he loc nm B8_4 B8_3 B8_2) ?_ (RunsAll.all ?_) ?_
  · have hp : ∀ i, act rlaw5l0xni2Cnt 2 (fun _ => false) i → i ∈ [999, 1999] := by
      intro i hi
      have h9 : i % 1000 = 999 := by
        by_cases h : i % 1000 = 999
        · exact h
        · exact absurd (act_lt hi h) (by simp)
      unfold act at hi
      rw [if_pos h9] at hi
      simp only [List.mem_cons, List.not_mem_nil, or_false]
      omega
    refine hO.drew.family (fun i hi => ?_) (fun i j hi hj hij => ?_)
    · have := hp i hi
      simp only [List.mem_cons, List.not_mem_nil, or_false] at this
      rcases this with rfl | rfl <;> rfl
    · have h1 := hp i hi
      have h2 := hp j hj
      simp only [List.mem_cons, List.not_mem_nil, or_false] at h1 h2
      omega
  · refine ⟨?_, ?_, ?_, ?_, ?_, ?_, ?_, trivial⟩
    · intro L9 α a9 u9 K9 hL hcl hA hG hS h0 hK
      replace hL : L9 0 = false := hL
      have q5 : a9.tmps[5]? = some (.int .i32 loc) := (h0 5 (by kernel_rfl)).trans rfl
      have s5 := Rega.eval_of q5
      go_simp
      exact hK _ α _ (fun _ _ => rfl) rfl (step_same (st9) hL hcl rfl rfl hG)
    · intro L9 α a9 u9 K9 hL hcl hA hG hS h0 hK
      replace hL : L9 1 = false := hL
      have q16 : a9.tmps[16]? = some (.pointer (some ⟨B8_3, 0, none⟩)) := (h0 16 (by kernel_rfl)).trans rfl
      have s16 := Rega.eval_of q16
      have e0 : rlaw5l0xni2R loc nm B8_4 B8_3 B8_2 L9 α 1999 = row (B8_3) 30 #[.iface 244 (.pointer (some ⟨B8_2, 0, none⟩)), .int .i32 loc] := rfl
      have hr := hG.rowAt 1999 (act_base 1999 rfl) e0
      have c0 : u9.cell? ⟨B8_3, 0, none⟩ = some (.iface 244 (.pointer (some ⟨B8_2, 0, none⟩))) := hr.cell rfl
      have c1 : u9.cell? ⟨B8_3, 1, none⟩ = some (.int .i32 loc) := hr.cell rfl
      clear hr e0
      go_simp
      exact hK _ α _ (fun _ _ => rfl) rfl (step_same (st9) hL hcl rfl rfl hG)
    · intro L9 α a9 u9 K9 hL hcl hA hG hS h0 hK
      replace hL : L9 2 = false := hL
      have q5 : a9.tmps[5]? = some (.int .i32 loc) := (h0 5 (by kernel_rfl)).trans rfl
      have s5 := Rega.eval_of q5
      go_simp
      exact hK _ α _ (fun _ _ => rfl) rfl (step_same (st9) hL hcl rfl rfl hG)
    · intro L9 α a9 u9 K9 hL hcl hA hG hS h0 hK
      replace hL : L9 3 = false := hL
      have q6 : a9.tmps[6]? = some (.string nm) := (h0 6 (by kernel_rfl)).trans rfl
      have s6 := Rega.eval_of q6
      go_simp
      exact hK _ α _ (fun _ _ => rfl) rfl (step_same (st9) hL hcl rfl rfl hG)
    · intro L9 α a9 u9 K9 hL hcl hA hG hS h0 hK
      replace hL : L9 4 = false := hL
      have q43 : a9.tmps[43]? = some (.int .i32 loc) := hS 2 43 (by decide) rfl (by show 43 < 64; decide)
      have s43 := Rega.eval_of q43
      have q44 : a9.tmps[44]? = some (.string nm) := hS 3 44 (by decide) rfl (by show 44 < 64; decide)
      have s44 := Rega.eval_of q44
      go_simp
      have hM : ∀ i, i ∈ [] → act rlaw5l0xni2Cnt 2 L9 i := by intro i hi; simp at hi
      have hP : Own w0 u9 [] _ := hG.pick [] (by decide) (by simp)
      clear hM
      refine Calls.mono (exprStr loc nm _ _ _ hP (by omega)) ?_
      rintro e9 u1 ⟨b0, b1, b2, b3, rfl, hQ⟩
      obtain ⟨α', hα'⟩ : ∃ α' : Rega.Atoms, α' = (fun j => if j = 4 then b0 else if j = 1004 then b1 else if j = 2004 then b2 else if j = 3004 then b3 else α j) := ⟨_, rfl⟩
      have f0 : rlaw5l0xni2R loc nm B8_4 B8_3 B8_2 (Rega.ran L9 4) α' 4 = row (α' 4) 214 #[.slice (some ⟨α' 1004, 0, none⟩) (α' 2004) (α' 3004), .int .i32 0, .bool false, .bool false, .bool false] := rfl
      have hα : ∀ j, j % 1000 ≠ 4 → α' j = α j := fun j hj => by rw [hα']; simp only []; rw [if_neg (by omega), if_neg (by omega), if_neg (by omega), if_neg (by omega)]
      have hb0 : α' 4 = b0 := by rw [hα']; rfl
      have hb1 : α' 1004 = b1 := by rw [hα']; rfl
      have hb2 : α' 2004 = b2 := by rw [hα']; rfl
      have hb3 : α' 3004 = b3 := by rw [hα']; rfl
      skip
      refine hK _ α' _ hα ?_ (step_call (st9) hL hcl hα [] [4] (by decide) (by decide) (by decide) (M := _) ?_ hG hQ)
      · show _ = (.agg #[.iface 50 (.pointer (some ⟨α' 4, 0, none⟩)), .int .i32 loc] : Value)
        simp only [hb0]
      · show [rlaw5l0xni2R loc nm B8_4 B8_3 B8_2 (Rega.ran L9 4) α' 4] = _
        rw [f0]
        simp only [hb0, hb1, hb2, hb3]
    · intro L9 α a9 u9 K9 hL hcl hA hG hS h0 hK
      replace hL : L9 5 = false := hL
      have q41 : a9.tmps[41]? = some (.int .i32 loc) := hS 0 41 (by decide) rfl (by show 41 < 64; decide)
      have s41 := Rega.eval_of q41
      have q42 : a9.tmps[42]? = some (.agg #[.iface 244 (.pointer (some ⟨B8_2, 0, none⟩)), .int .i32 loc]) := hS 1 42 (by decide) rfl (by show 42 < 64; decide)
      have s42 := Rega.eval_of q42
      have q45 : a9.tmps[45]? = some (.agg #[.iface 50 (.pointer (some ⟨α 4, 0, none⟩)), .int .i32 loc]) := hS 4 45 (by decide) rfl (by show 45 < 64; decide)
      have s45 := Rega.eval_of q45
      go_simp
      have hM : ∀ i, i ∈ [] → act rlaw5l0xni2Cnt 2 L9 i := by intro i hi; simp at hi
      have hP : Own w0 u9 [] _ := hG.pick [] (by decide) (by simp)
      clear hM
      refine Calls.mono (exprIx loc (.iface 244 (.pointer (some ⟨B8_2, 0, none⟩))) loc (.iface 50 (.pointer (some ⟨α 4, 0, none⟩))) loc _ _ _ hP ) ?_
      rintro e9 u1 ⟨b0, rfl, hQ⟩
      obtain ⟨α', hα'⟩ : ∃ α' : Rega.Atoms, α' = (fun j => if j = 5 then b0 else α j) := ⟨_, rfl⟩
      have f0 : rlaw5l0xni2R loc nm B8_4 B8_3 B8_2 (Rega.ran L9 5) α' 5 = row (α' 5) 211 #[(.iface 244 (.pointer (some ⟨B8_2, 0, none⟩))), .int .i32 loc, (.iface 50 (.pointer (some ⟨α' 4, 0, none⟩))), .int .i32 loc, .int .i32 0, .int .u8 0, .bool false, .bool false, .bool false] := rfl
      have hα : ∀ j, j % 1000 ≠ 5 → α' j = α j := fun j hj => by rw [hα']; simp only []; rw [if_neg (by omega)]
      have hb0 : α' 5 = b0 := by rw [hα']; rfl
      have ha4 : α' 4 = α 4 := hα 4 (by decide)
      skip
      refine hK _ α' _ hα ?_ (step_call (st9) hL hcl hα [] [5] (by decide) (by decide) (by decide) (M := _) ?_ hG hQ)
      · show _ = (.agg #[.iface 209 (.pointer (some ⟨α' 5, 0, none⟩)), .int .i32 loc] : Value)
        simp only [hb0]
      · show [rlaw5l0xni2R loc nm B8_4 B8_3 B8_2 (Rega.ran L9 5) α' 5] = _
        rw [f0]
        simp only [hb0, ha4]
    · intro L9 α a9 u9 K9 hL hcl hA hG hS h0 hK
      replace hL : L9 6 = false := hL
      have q17 : a9.tmps[17]? = some (.pointer (some ⟨B8_4, 0, none⟩)) := (h0 17 (by kernel_rfl)).trans rfl
      have s17 := Rega.eval_of q17
      have q46 : a9.tmps[46]? = some (.agg #[.iface 209 (.pointer (some ⟨α 5, 0, none⟩)), .int .i32 loc]) := hS 5 46 (by decide) rfl (by show 46 < 64; decide)
      have s46 := Rega.eval_of q46
      have e0 : rlaw5l0xni2R loc nm B8_4 B8_3 B8_2 L9 α 999 = row (B8_4) 30 #[.nilIface, .int .i32 0] := by
        show rlaw5l0xni2T999 loc nm B8_4 B8_3 B8_2 L9 α = _
        unfold rlaw5l0xni2T999
        rw [if_neg (by rw [hL]; decide)]
      have hr := hG.rowAt 999 (act_base 999 rfl) e0
      have c0 : u9.cell? ⟨B8_4, 0, none⟩ = some (.nilIface) := hr.cell rfl
      have y0 : u9.frozen? ⟨B8_4, 0, none⟩ = false := hr.free 0
      have c1 : u9.cell? ⟨B8_4, 1, none⟩ = some (.int .i32 0) := hr.cell rfl
      have y1 : u9.frozen? ⟨B8_4, 1, none⟩ = false := hr.free 1
      clear hr
      have E0 := Lib.hid e0
      clear e0
      go_simp
      have e1 : rlaw5l0xni2R loc nm B8_4 B8_3 B8_2 (Rega.ran L9 6) α 999 = row (B8_4) 30 #[.iface 209 (.pointer (some ⟨α 5, 0, none⟩)), .int .i32 loc] := by
        show rlaw5l0xni2T999 loc nm B8_4 B8_3 B8_2 (Rega.ran L9 6) α = _
        unfold rlaw5l0xni2T999
        rw [if_pos (show Rega.ran L9 6 6 = true from rfl)]
      exact hK _ α _ (fun _ _ => rfl) rfl (step_sets (st9) hL hcl rfl 999 rfl (act_base 999 rfl) E0.out 0 [.iface 209 (.pointer (some ⟨α 5, 0, none⟩)), .int .i32 loc] (e1.trans rfl) hG)
  · clear st9
    intro α u hG
    have e0 : rlaw5l0xni2R loc nm B8_4 B8_3 B8_2 (fun k => decide (k < 7)) α 999 = row (B8_4) 30 #[.iface 209 (.pointer (some ⟨α 5, 0, none⟩)), .int .i32 loc] := by
      show rlaw5l0xni2T999 loc nm B8_4 B8_3 B8_2 (fun k => decide (k < 7)) α = _
      unfold rlaw5l0xni2T999
      rw [if_pos (by decide)]
    have e1 : rlaw5l0xni2R loc nm B8_4 B8_3 B8_2 (fun k => decide (k < 7)) α 1999 = row (B8_3) 30 #[.iface 244 (.pointer (some ⟨B8_2, 0, none⟩)), .int .i32 loc] := rfl
    have e2 : rlaw5l0xni2R loc nm B8_4 B8_3 B8_2 (fun k => decide (k < 7)) α 4 = row (α 4) 214 #[.slice (some ⟨α 1004, 0, none⟩) (α 2004) (α 3004), .int .i32 0, .bool false, .bool false, .bool false] := rfl
    have e3 : rlaw5l0xni2R loc nm B8_4 B8_3 B8_2 (fun k => decide (k < 7)) α 5 = row (α 5) 211 #[(.iface 244 (.pointer (some ⟨B8_2, 0, none⟩))), .int .i32 loc, (.iface 50 (.pointer (some ⟨α 4, 0, none⟩))), .int .i32 loc, .int .i32 0, .int .u8 0, .bool false, .bool false, .bool false] := rfl
    have hO : Own w0 u [row (B8_4) 30 #[.iface 209 (.pointer (some ⟨α 5, 0, none⟩)), .int .i32 loc], row (B8_3) 30 #[.iface 244 (.pointer (some ⟨B8_2, 0, none⟩)), .int .i32 loc], row (α 4) 214 #[.slice (some ⟨α 1004, 0, none⟩) (α 2004) (α 3004), .int .i32 0, .bool false, .bool false, .bool false], row (α 5) 211 #[(.iface 244 (.pointer (some ⟨B8_2, 0, none⟩))), .int .i32 loc, (.iface 50 (.pointer (some ⟨α 4, 0, none⟩))), .int .i32 loc, .int .i32 0, .int .u8 0, .bool false, .bool false, .bool false]] X9_10 := (hG.list [999, 1999, 4, 5] (by decide) (act_all (by decide))).conv (by
      show [rlaw5l0xni2R loc nm B8_4 B8_3 B8_2 (fun k => decide (k < 7)) α 999, rlaw5l0xni2R loc nm B8_4 B8_3 B8_2 (fun k => decide (k < 7)) α 1999, rlaw5l0xni2R loc nm B8_4 B8_3 B8_2 (fun k => decide (k < 7)) α 4, rlaw5l0xni2R loc nm B8_4 B8_3 B8_2 (fun k => decide (k < 7)) α 5] = _
      rw [e0, e1, e2, e3])
    clear hG e0 e1 e2 e3
    generalize hfr : Rega.frameAt _ _ _ _ _ = fr
    have hdf : fr = ⟨#[.bool true, .bool false, .bool false, .int .u8 kd, .bool true, .int .i32 loc, .string nm, undef, undef, undef, undef, undef, undef, undef, .bool false, .pointer (some ⟨nd2, 0, none⟩), .pointer (some ⟨B8_3, 0, none⟩), .pointer (some ⟨B8_4, 0, none⟩), undef, undef, undef, .bool true, .bool false, .bool false, .int .u8 kd, .bool true, .int .i32 loc, .string nm, .bool true, .bool false, .string nm, .int .i64 (nm.size : Int), .bool (decide (65536 < (nm.size : Int))), .bool true, .bool false, .bool false, .pointer (some ⟨nd2, 0, none⟩), .int .u8 kd, .int .i32 loc, .agg #[.iface 244 (.pointer (some ⟨B8_2, 0, none⟩)), .int .i32 loc], .bool true, .int .i32 loc, .agg #[.iface 244 (.pointer (some ⟨B8_2, 0, none⟩)), .int .i32 loc], .int .i32 loc, .string nm, .agg #[.iface 50 (.pointer (some ⟨α 4, 0, none⟩)), .int .i32 loc], .agg #[.iface 209 (.pointer (some ⟨α 5, 0, none⟩)), .int .i32 loc], undef, undef, undef, undef, undef, undef, undef, undef, undef, undef, undef, undef, undef, undef, undef, undef, undef], []⟩ := by rw [← hfr]; kernel_rfl
    clear hfr
    subst hdf
    generalize α 4 = nd11 at hO ⊢
    generalize α 5 = nd12 at hO ⊢
    generalize α 1004 = nd13 at hO ⊢
    generalize α 2004 = nd14 at hO ⊢
    generalize α 3004 = nd15 at hO ⊢
    clear α
    subst hX9_10
    have hN : Own w0 u [row (B8_4) 30 #[.iface 209 (.pointer (some ⟨nd12, 0, none⟩)), .int .i32 loc], row (B8_3) 30 #[.iface 244 (.pointer (some ⟨B8_2, 0, none⟩)), .int .i32 loc], row (nd11) 214 #[.slice (some ⟨nd13, 0, none⟩) (nd14) (nd15), .int .i32 0, .bool false, .bool false, .bool false], row (nd12) 211 #[(.iface 244 (.pointer (some ⟨B8_2, 0, none⟩))), .int .i32 loc, (.iface 50 (.pointer (some ⟨nd11, 0, none⟩))), .int .i32 loc, .int .i32 0, .int .u8 0, .bool false, .bool false, .bool false], row (B8_2) 246 #[], row (B8_1) 30 #[.iface 244 (.pointer (some ⟨B8_2, 0, none⟩)), .int .i32 loc], row (B8) 30 #[.iface 244 (.pointer (some ⟨B8_2, 0, none⟩)), .int .i32 loc], row (nd2) 206 nd5, (nd3, .map map3 3), row (nd4) 68 #[.int .u32 0, .int .u32 1]] X := hO.back HL.out HX.out [2, 3, 4, 5, 6, 7] (by decide) (by decide)
    clear hO HL HX
    have hO := hN
    clear hN
    obtain ⟨c9_0_0, c9_0_1, lt9_0, y9_0, -⟩ := hO.k2 0 rfl
    obtain ⟨c9_1_0, c9_1_1, lt9_1, y9_1, -⟩ := hO.k2 1 rfl
    obtain ⟨c9_2_0, c9_2_1, c9_2_2, c9_2_3, c9_2_4, lt9_2, y9_2, -⟩ := hO.k5 2 rfl
    obtain ⟨c9_3_0, c9_3_1, c9_3_2, c9_3_3, c9_3_4, c9_3_5, c9_3_6, c9_3_7, c9_3_8, lt9_3, y9_3, -⟩ := hO.k9 3 rfl
    obtain ⟨lt9_4, y9_4, -⟩ := hO.k0 4 rfl
    obtain ⟨c9_5_0, c9_5_1, lt9_5, y9_5, -⟩ := hO.k2 5 rfl
    obtain ⟨c9_6_0, c9_6_1, lt9_6, y9_6, -⟩ := hO.k2 6 rfl
    obtain ⟨c9_9_0, c9_9_1, lt9_9, y9_9, -⟩ := hO.k2 9 rfl
    have HO := Lib.hid hO
    clear hO
    go_wp2_with (first | (go_at_call 34; go_in) | (go_at_call 30; go_in) | (go_at_call 31; go_in) | (go_at_call 32; go_in) | (go_at_call 12; go_in) | (go_at_call 10; go_in) | (go_at_call 9; go_in) | (go_at_call 7; go_in))
    have hO := HO.out
    clear HO c9_0_0 c9_0_1 lt9_0 y9_0 c9_1_0 c9_1_1 lt9_1 y9_1 c9_2_0 c9_2_1 c9_2_2 c9_2_3 c9_2_4 lt9_2 y9_2 c9_3_0 c9_3_1 c9_3_2 c9_3_3 c9_3_4 c9_3_5 c9_3_6 c9_3_7 c9_3_8 lt9_3 y9_3 lt9_4 y9_4 c9_5_0 c9_5_1 lt9_5 y9_5 c9_6_0 c9_6_1 lt9_6 y9_6 c9_9_0 c9_9_1 lt9_9 y9_9
    have hL := hO.apart
    have hX := hO.apartX
    have HL := Lib.hid hL
    have HX := Lib.hid hX
    clear hL hX
    have hP9 := hO.pick [7] (by decide)
    have T9 := shlYes nd2 nd5 nd3 nd4 false false loc B8_2 _ _ _ hP9 pr6 pr7
    refine Calls.mono T9 ?_
    clear hP9 T9
    rintro e u16 ⟨rfl, hQ⟩
    have hN : Own w0 u16 [row (nd2) 206 nd5, row (B8_4) 30 #[.iface 209 (.pointer (some ⟨nd12, 0, none⟩)), .int .i32 loc], row (B8_3) 30 #[.iface 244 (.pointer (some ⟨B8_2, 0, none⟩)), .int .i32 loc], row (nd11) 214 #[.slice (some ⟨nd13, 0, none⟩) (nd14) (nd15), .int .i32 0, .bool false, .bool false, .bool false], row (nd12) 211 #[(.iface 244 (.pointer (some ⟨B8_2, 0, none⟩))), .int .i32 loc, (.iface 50 (.pointer (some ⟨nd11, 0, none⟩))), .int .i32 loc, .int .i32 0, .int .u8 0, .bool false, .bool false, .bool false], row (B8_2) 246 #[], row (B8_1) 30 #[.iface 244 (.pointer (some ⟨B8_2, 0, none⟩)), .int .i32 loc], row (B8) 30 #[.iface 244 (.pointer (some ⟨B8_2, 0, none⟩)), .int .i32 loc], (nd3, .map map3 3), row (nd4) 68 #[.int .u32 0, .int .u32 1]] X := hQ.back HL.out HX.out [0, 1, 2, 3, 4, 5, 6, 8, 9] (by decide) (by decide)
    clear hQ HL HX hO
    have hO := hN
    clear hN
    obtain ⟨c9_1_0, c9_1_1, lt9_1, y9_1, -⟩ := hO.k2 1 rfl
    obtain ⟨c9_2_0, c9_2_1, lt9_2, y9_2, -⟩ := hO.k2 2 rfl
    obtain ⟨c9_3_0, c9_3_1, c9_3_2, c9_3_3, c9_3_4, lt9_3, y9_3, -⟩ := hO.k5 3 rfl
    obtain ⟨c9_4_0, c9_4_1, c9_4_2, c9_4_3, c9_4_4, c9_4_5, c9_4_6, c9_4_7, c9_4_8, lt9_4, y9_4, -⟩ := hO.k9 4 rfl
    obtain ⟨lt9_5, y9_5, -⟩ := hO.k0 5 rfl
    obtain ⟨c9_6_0, c9_6_1, lt9_6, y9_6, -⟩ := hO.k2 6 rfl
    obtain ⟨c9_7_0, c9_7_1, lt9_7, y9_7, -⟩ := hO.k2 7 rfl
    obtain ⟨c9_9_0, c9_9_1, lt9_9, y9_9, -⟩ := hO.k2 9 rfl
    have HO := Lib.hid hO
    clear hO
    go_wp2_with (first | (go_at_call 34; go_in) | (go_at_call 30; go_in) | (go_at_call 31; go_in) | (go_at_call 32; go_in) | (go_at_call 12; go_in) | (go_at_call 10; go_in) | (go_at_call 9; go_in) | (go_at_call 7; go_in))
    have hO := HO.out
    clear HO c9_1_0 c9_1_1 lt9_1 y9_1 c9_2_0 c9_2_1 lt9_2 y9_2 c9_3_0 c9_3_1 c9_3_2 c9_3_3 c9_3_4 lt9_3 y9_3 c9_4_0 c9_4_1 c9_4_2 c9_4_3 c9_4_4 c9_4_5 c9_4_6 c9_4_7 c9_4_8 lt9_4 y9_4 lt9_5 y9_5 c9_6_0 c9_6_1 lt9_6 y9_6 c9_7_0 c9_7_1 lt9_7 y9_7 c9_9_0 c9_9_1 lt9_9 y9_9
    have hL := hO.apart
    have hX := hO.apartX
    have HL := Lib.hid hL
    have HX := Lib.hid hX
    clear hL hX
    have hP9 := hO.pick [0, 8, 9, 4] (by decide)
    have T9 := dasgXyni nd2 nd5 nd3 nd4 nd12 loc B8_2 nd11 _ _ _ hP9 pr6 pr7
    refine Calls.mono T9 ?_
    clear hP9 T9
    rintro e u17 ⟨nd18, rfl, hQ⟩
    have hN : Own w0 u17 [row (nd2) 206 nd5, (nd3, .map map3 3), row (nd4) 68 #[.int .u32 0, .int .u32 1], row (B8_4) 30 #[.iface 209 (.pointer (some ⟨nd12, 0, none⟩)), .int .i32 loc], row (B8_3) 30 #[.iface 244 (.pointer (some ⟨B8_2, 0, none⟩)), .int .i32 loc], row (nd11) 214 #[.slice (some ⟨nd13, 0, none⟩) (nd14) (nd15), .int .i32 0, .bool false, .bool false, .bool false], row (B8_2) 246 #[], row (B8_1) 30 #[.iface 244 (.pointer (some ⟨B8_2, 0, none⟩)), .int .i32 loc], row (B8) 30 #[.iface 244 (.pointer (some ⟨B8_2, 0, none⟩)), .int .i32 loc]] X := hQ.back HL.out HX.out [1, 2, 3, 5, 6, 7] (by decide) (by decide)
    clear hQ HL HX hO
    have hO := hN
    clear hN
    obtain ⟨c9_2_0, c9_2_1, lt9_2, y9_2, -⟩ := hO.k2 2 rfl
    obtain ⟨c9_3_0, c9_3_1, lt9_3, y9_3, -⟩ := hO.k2 3 rfl
    obtain ⟨c9_4_0, c9_4_1, lt9_4, y9_4, -⟩ := hO.k2 4 rfl
    obtain ⟨c9_5_0, c9_5_1, c9_5_2, c9_5_3, c9_5_4, lt9_5, y9_5, -⟩ := hO.k5 5 rfl
    obtain ⟨lt9_6, y9_6, -⟩ := hO.k0 6 rfl
    obtain ⟨c9_7_0, c9_7_1, lt9_7, y9_7, -⟩ := hO.k2 7 rfl
    obtain ⟨c9_8_0, c9_8_1, lt9_8, y9_8, -⟩ := hO.k2 8 rfl
    have HO := Lib.hid hO
    clear hO
    go_wp2_with (first | (go_at_call 34; go_in) | (go_at_call 30; go_in) | (go_at_call 31; go_in) | (go_at_call 32; go_in) | (go_at_call 12; go_in) | (go_at_call 10; go_in) | (go_at_call 9; go_in) | (go_at_call 7; go_in))
    have hO := HO.out
    clear HO c9_2_0 c9_2_1 lt9_2 y9_2 c9_3_0 c9_3_1 lt9_3 y9_3 c9_4_0 c9_4_1 lt9_4 y9_4 c9_5_0 c9_5_1 c9_5_2 c9_5_3 c9_5_4 lt9_5 y9_5 lt9_6 y9_6 c9_7_0 c9_7_1 lt9_7 y9_7 c9_8_0 c9_8_1 lt9_8 y9_8
    generalize hW : World.alloc _ _ = W20
    have hN : Own w0 W20 [row (u17.heap.size) 30 #[.iface 40 (.pointer (some ⟨nd18, 0, none⟩)), .int .i32 loc], row (nd2) 206 nd5, (nd3, .map map3 3), row (nd4) 68 #[.int .u32 0, .int .u32 1], row (B8_4) 30 #[.iface 209 (.pointer (some ⟨nd12, 0, none⟩)), .int .i32 loc], row (B8_3) 30 #[.iface 244 (.pointer (some ⟨B8_2, 0, none⟩)), .int .i32 loc], row (nd11) 214 #[.slice (some ⟨nd13, 0, none⟩) (nd14) (nd15), .int .i32 0, .bool false, .bool false, .bool false], row (B8_2) 246 #[], row (B8_1) 30 #[.iface 244 (.pointer (some ⟨B8_2, 0, none⟩)), .int .i32 loc], row (B8) 30 #[.iface 244 (.pointer (some ⟨B8_2, 0, none⟩)), .int .i32 loc]] X := by
      rw [← hW]
      exact (hO).alloc' _ (u17.heap.size) (by simp)
    clear hW hO
    generalize u17.heap.size = B19 at hN ⊢
    have hO := hN
    clear hN
    refine bodyPost_ret (v := .bool true) ?_ rfl ⟨rfl, hO.sub [] (by decide)⟩
    simp [results, Tryd.results3, go_sem]
def rlaw5l0xns2E (loc : Int) (nm : ByteArray) (B8_4 : Nat) (B8_3 : Nat) (B8_2 : Nat) : Nat → Rega.Atoms → Value
  | 0, α => .int .i32 loc
  | 1, α => .agg #[.iface 244 (.pointer (some ⟨B8_2, 0, none⟩)), .int .i32 loc]
  | 2, α => .int .i32 loc
  | 3, α => .string nm
  | 4, α => .agg #[.iface 50 (.pointer (some ⟨α 4, 0, none⟩)), .int .i32 loc]
  | 5, α => .agg #[.iface 209 (.pointer (some ⟨α 5, 0, none⟩)), .int .i32 loc]
  | 6, α => undef
  | _, _ => undef
def rlaw5l0xns2Anc : Nat → List Nat
  | 4 => [2, 3]
  | 5 => [0, 1, 2, 3, 4]
  | 6 => [0, 1, 2, 3, 4, 5]
  | _ => []
def rlaw5l0xns2Trn : Nat → List Nat
  | 6 => [999]
  | _ => []
def rlaw5l0xns2Cnt : List (Nat × Nat) := [(4, 1), (5, 1)]
def rlaw5l0xns2T999 (loc : Int) (nm : ByteArray) (B8_4 : Nat) (B8_3 : Nat) (B8_2 : Nat) (L9 : Nat → Bool) (α : Rega.Atoms) : Rw := if L9 6 = true then row (B8_4) 30 #[.iface 209 (.pointer (some ⟨α 5, 0, none⟩)), .int .i32 loc] else row (B8_4) 30 #[.nilIface, .int .i32 0]
def rlaw5l0xns2R (loc : Int) (nm : ByteArray) (B8_4 : Nat) (B8_3 : Nat) (B8_2 : Nat) (L9 : Nat → Bool) (α : Rega.Atoms) (ix9 : Nat) : Rw := if ix9 = 999 then rlaw5l0xns2T999 loc nm B8_4 B8_3 B8_2 L9 α else if ix9 = 1999 then row (B8_3) 30 #[.iface 244 (.pointer (some ⟨B8_2, 0, none⟩)), .int .i32 loc] else if ix9 = 4 then row (α 4) 214 #[.slice (some ⟨α 1004, 0, none⟩) (α 2004) (α 3004), .int .i32 0, .bool false, .bool false, .bool false] else if ix9 = 5 then row (α 5) 211 #[(.iface 244 (.pointer (some ⟨B8_2, 0, none⟩))), .int .i32 loc, (.iface 50 (.pointer (some ⟨α 4, 0, none⟩))), .int .i32 loc, .int .i32 0, .int .u8 0, .bool false, .bool false, .bool false] else (0, .map #[] 0)
theorem rlaw5l0xns2_he (loc : Int) (nm : ByteArray) (B8_4 : Nat) (B8_3 : Nat) (B8_2 : Nat) : ∀ kk α α', (∀ j, (j % 1000 = kk ∨ j % 1000 ∈ rlaw5l0xns2Anc kk) → α j = α' j) → rlaw5l0xns2E loc nm B8_4 B8_3 B8_2 kk α = rlaw5l0xns2E loc nm B8_4 B8_3 B8_2 kk α' := by
  intro kk α α' h
  match kk with
  | 0 => rfl
  | 1 => rfl
  | 2 => rfl
  | 3 => rfl
  | 4 => simp only [rlaw5l0xns2E, h 4 (Or.inl rfl)]
  | 5 => simp only [rlaw5l0xns2E, h 5 (Or.inl rfl)]
  | 6 => rfl
  | n + 7 => rfl
theorem rlaw5l0xns2_st (loc : Int) (nm : ByteArray) (B8_4 : Nat) (B8_3 : Nat) (B8_2 : Nat) : Stable rlaw5l0xns2Cnt 2 rlaw5l0xns2Anc rlaw5l0xns2Trn (rlaw5l0xns2R loc nm B8_4 B8_3 B8_2) := by
  intro k9 L9 α α' ix9 hk hcl hα hact ht
  have hp := act_places hact
  replace hp : ix9 ∈ [999, 1999, 4, 5] := hp
  simp only [List.mem_cons, List.not_mem_nil, or_false] at hp
  rcases hp with rfl | rfl | rfl | rfl
  · show rlaw5l0xns2T999 loc nm B8_4 B8_3 B8_2 (Rega.ran L9 k9) α' = rlaw5l0xns2T999 loc nm B8_4 B8_3 B8_2 L9 α
    unfold rlaw5l0xns2T999
    have n6 : 6 ≠ k9 := fun e => ht (by rw [← e]; decide)
    rw [ran_ne n6]
    by_cases e6 : L9 6 = true
    · first | rw [if_pos e6, if_pos e6] | rw [if_pos e6]
      try simp only [hα 5 (ne_ran hk (hcl 6 e6 5 (by decide)))]
    first | rw [if_neg e6, if_neg e6] | rw [if_neg e6]
  · rfl
  · have e0 : L9 4 = true := act_lt hact (by decide)
    show row (α' 4) 214 #[.slice (some ⟨α' 1004, 0, none⟩) (α' 2004) (α' 3004), .int .i32 0, .bool false, .bool false, .bool false] = row (α 4) 214 #[.slice (some ⟨α 1004, 0, none⟩) (α 2004) (α 3004), .int .i32 0, .bool false, .bool false, .bool false]
    simp only [hα 4 (ne_ran hk e0), hα 1004 (ne_ran hk e0), hα 2004 (ne_ran hk e0), hα 3004 (ne_ran hk e0)]
  · have e0 : L9 5 = true := act_lt hact (by decide)
    show row (α' 5) 211 #[(.iface 244 (.pointer (some ⟨B8_2, 0, none⟩))), .int .i32 loc, (.iface 50 (.pointer (some ⟨α' 4, 0, none⟩))), .int .i32 loc, .int .i32 0, .int .u8 0, .bool false, .bool false, .bool false] = row (α 5) 211 #[(.iface 244 (.pointer (some ⟨B8_2, 0, none⟩))), .int .i32 loc, (.iface 50 (.pointer (some ⟨α 4, 0, none⟩))), .int .i32 loc, .int .i32 0, .int .u8 0, .bool false, .bool false, .bool false]
    simp only [hα 4 (ne_ran hk (hcl 5 e0 4 (by decide))), hα 5 (ne_ran hk e0)]
def law5l0xnsPost (kd loc : Int) (nm : ByteArray) (w0 : World) (X : Nat → Obj → Prop) (e : Ending) (w' : World) : Prop :=
  e = .returned (.bool true) ∧ Own w0 w' [] X
set_option maxRecDepth 100000 in
set_option maxHeartbeats 1000000 in
theorem law5l0xns (kd loc : Int) (nm : ByteArray) (w0 w : World) (X : Nat → Obj → Prop) (hO : Own w0 w [] X) (hlen : nm.size ≤ 65536) (hk0 : (kd.tmod 6 == 0) = true) :
    Calls Tryd.prog 3 #[.bool true, .bool false, .bool true, .int .u8 kd, .bool true, .int .i32 loc, .string nm] w (law5l0xnsPost kd loc nm w0 X) := by
  go_enter Tryd.func3, Tryd.ntmps3
  have hl9 : (nm.size : Int) ≤ 65536 := by omega
  go_wp2_with (first | (go_at_call 34; go_in) | (go_at_call 30; go_in) | (go_at_call 31; go_in) | (go_at_call 32; go_in) | (go_at_call 12; go_in) | (go_at_call 10; go_in) | (go_at_call 9; go_in) | (go_at_call 7; go_in))
  have hL := hO.apart
  have hX := hO.apartX
  have HL := Lib.hid hL
  have HX := Lib.hid hX
  clear hL hX
  have hP9 := hO.pick [] (by decide)
  have T9 := newDeadL true false true _ _ _ hP9 
  refine Calls.mono T9 ?_
  clear hP9 T9
  rintro e u1 ⟨nd2, nd3, nd4, nd5, rfl, pr6, pr7, hQ⟩
  have hN : Own w0 u1 [row (nd2) 206 nd5, (nd3, .map map3 3), row (nd4) 68 #[.int .u32 0, .int .u32 1]] X := hQ.back HL.out HX.out [] (by decide) (by decide)
  clear hQ HL HX hO
  have hO := hN
  clear hN
  obtain ⟨c9_2_0, c9_2_1, lt9_2, y9_2, -⟩ := hO.k2 2 rfl
  have HO := Lib.hid hO
  clear hO
  go_wp2_with (first | (go_at_call 34; go_in) | (go_at_call 30; go_in) | (go_at_call 31; go_in) | (go_at_call 32; go_in) | (go_at_call 12; go_in) | (go_at_call 10; go_in) | (go_at_call 9; go_in) | (go_at_call 7; go_in))
  have hO := HO.out
  clear HO c9_2_0 c9_2_1 lt9_2 y9_2
  generalize hW : World.alloc _ _ = W9
  have hN : Own w0 W9 [row (u1.heap.size + 1 + 1 + 1 + 1) 30 #[.nilIface, .int .i32 0], row (u1.heap.size + 1 + 1 + 1) 30 #[.iface 244 (.pointer (some ⟨u1.heap.size + 1 + 1, 0, none⟩)), .int .i32 loc], row (u1.heap.size + 1 + 1) 246 #[], row (u1.heap.size + 1) 30 #[.iface 244 (.pointer (some ⟨u1.heap.size + 1 + 1, 0, none⟩)), .int .i32 loc], row (u1.heap.size) 30 #[.iface 244 (.pointer (some ⟨u1.heap.size + 1 + 1, 0, none⟩)), .int .i32 loc], row (nd2) 206 nd5, (nd3, .map map3 3), row (nd4) 68 #[.int .u32 0, .int .u32 1]] X := by
    rw [← hW]
    exact (((((hO).alloc' _ (u1.heap.size) (by simp)).alloc' _ (u1.heap.size + 1) (by simp)).alloc' _ (u1.heap.size + 1 + 1) (by simp)).alloc' _ (u1.heap.size + 1 + 1 + 1) (by simp)).alloc' _ (u1.heap.size + 1 + 1 + 1 + 1) (by simp)
  clear hW hO
  generalize u1.heap.size + 1 + 1 + 1 + 1 = B8_4 at hN ⊢
  generalize u1.heap.size + 1 + 1 + 1 = B8_3 at hN ⊢
  generalize u1.heap.size + 1 + 1 = B8_2 at hN ⊢
  generalize u1.heap.size + 1 = B8_1 at hN ⊢
  generalize u1.heap.size = B8 at hN ⊢
  have hO := hN
  clear hN
  have hL := hO.apart
  have hX := hO.apartX
  have HL := Lib.hid hL
  have HX := Lib.hid hX
  clear hL hX
  have hP9 := hO.pick [0, 1] (by decide)
  generalize hX9_10 : Own.Rest _ _ X = X9_10 at hP9
  replace hP9 : Own w0 W9 [row (B8_4) 30 #[.nilIface, .int .i32 0], row (B8_3) 30 #[.iface 244 (.pointer (some ⟨B8_2, 0, none⟩)), .int .i32 loc]] X9_10 := hP9
  clear hO
  have hO := hP9
  clear hP9
  have st9 := rlaw5l0xns2_st loc nm B8_4 B8_3 B8_2
  refine wp_region_own (e := rlaw5l0xns2E loc nm B8_4 B8_3 B8_2) (anc := rlaw5l0xns2Anc) (G := (fun L9 α u9 => OwnF w0 u9 (act rlaw5l0xns2Cnt 2 L9) (rlaw5l0xns2R loc nm B8_4 B8_3 B8_2 L9 α) X9_10)) (by kernel_rfl) (by kernel_rfl) (by kernel_rfl) (by kernel_rfl) (rlaw5l0xns2_he loc nm B8_4 B8_3 B8_2) ?_ (RunsAll.all ?_) ?_
  · have hp : ∀ i, act rlaw5l0xns2Cnt 2 (fun _ => false) i → i ∈ [999, 1999] := by
      intro i hi
      have h9 : i % 1000 = 999 := by
        by_cases h : i % 1000 = 999
        · exact h
        · exact absurd (act_lt hi h) (by simp)
      unfold act at hi
      rw [if_pos h9] at hi
      simp only [List.mem_cons, List.not_mem_nil, or_false]
      omega
    refine hO.drew.family (fun i hi => ?_) (fun i j hi hj hij => ?_)
    · have := hp i hi
      simp only [List.mem_cons, List.not_mem_nil, or_false] at this
      rcases this with rfl | rfl <;> rfl
    · have h1 := hp i hi
      have h2 := hp j hj
      simp only [List.mem_cons, List.not_mem_nil, or_false] at h1 h2
      omega
  · refine ⟨?_, ?_, ?_, ?_, ?_, ?_, ?_, trivial⟩
    · intro L9 α a9 u9 K9 hL hcl hA hG hS h0 hK
      replace hL : L9 0 = false := hL
      have q5 : a9.tmps[5]? = some (.int .i32 loc) := (h0 5 (by kernel_rfl)).trans rfl
      have s5 := Rega.eval_of q5
      go_simp
      exact hK _ α _ (fun _ _ => rfl) rfl (step_same (st9) hL hcl rfl rfl hG)
    · intro L9 α a9 u9 K9 hL hcl hA hG hS h0 hK
      replace hL : L9 1 = false := hL
      have q16 : a9.tmps[16]? = some (.pointer (some ⟨B8_3, 0, none⟩)) := (h0 16 (by kernel_rfl)).trans rfl
      have s16 := Rega.eval_of q16
      have e0 : rlaw5l0xns2R loc nm B8_4 B8_3 B8_2 L9 α 1999 = row (B8_3) 30 #[.iface 244 (.pointer (some ⟨B8_2, 0, none⟩)), .int .i32 loc] := rfl
      have hr := hG.rowAt 1999 (act_base 1999 rfl) e0
      have c0 : u9.cell? ⟨B8_3, 0, none⟩ = some (.iface 244 (.pointer (some ⟨B8_2, 0, none⟩))) := hr.cell rfl
      have c1 : u9.cell? ⟨B8_3, 1, none⟩ = some (.int .i32 loc) := hr.cell rfl
      clear hr e0
      go_simp
      exact hK _ α _ (fun _ _ => rfl) rfl (step_same (st9) hL hcl rfl rfl hG)
    · intro L9 α a9 u9 K9 hL hcl hA hG hS h0 hK
      replace hL : L9 2 = false := hL
      have q5 : a9.tmps[5]? = some (.int .i32 loc) := (h0 5 (by kernel_rfl)).trans rfl
      have s5 := Rega.eval_of q5
      go_simp
      exact hK _ α _ (fun _ _ => rfl) rfl (step_same (st9) hL hcl rfl rfl hG)
    · intro L9 α a9 u9 K9 hL hcl hA hG hS h0 hK
      replace hL : L9 3 = false := hL
      have q6 : a9.tmps[6]? = some (.string nm) := (h0 6 (by kernel_rfl)).trans rfl
      have s6 := Rega.eval_of q6
      go_simp
      exact hK _ α _ (fun _ _ => rfl) rfl (step_same (st9) hL hcl rfl rfl hG)
    · intro L9 α a9 u9 K9 hL hcl hA hG hS h0 hK
      replace hL : L9 4 = false := hL
      have q43 : a9.tmps[43]? = some (.int .i32 loc) := hS 2 43 (by decide) rfl (by show 43 < 64; decide)
      have s43 := Rega.eval_of q43
      have q44 : a9.tmps[44]? = some (.string nm) := hS 3 44 (by decide) rfl (by show 44 < 64; decide)
      have s44 := Rega.eval_of q44
      go_simp
      have hM : ∀ i, i ∈ [] → act rlaw5l0xns2Cnt 2 L9 i := by intro i hi; simp at hi
      have hP : Own w0 u9 [] _ := hG.pick [] (by decide) (by simp)
      clear hM
      refine Calls.mono (exprStr loc nm _ _ _ hP (by omega)) ?_
      rintro e9 u1 ⟨b0, b1, b2, b3, rfl, hQ⟩
      obtain ⟨α', hα'⟩ : ∃ α' : Rega.Atoms, α' = (fun j => if j = 4 then b0 else if j = 1004 then b1 else if j = 2004 then b2 else if j = 3004 then b3 else α j) := ⟨_, rfl⟩
      have f0 : rlaw5l0xns2R loc nm B8_4 B8_3 B8_2 (Rega.ran L9 4) α' 4 = row (α' 4) 214 #[.slice (some ⟨α' 1004, 0, none⟩) (α' 2004) (α' 3004), .int .i32 0, .bool false, .bool false, .bool false] := rfl
      have hα : ∀ j, j % 1000 ≠ 4 → α' j = α j := fun j hj => by rw [hα']; simp only []; rw [if_neg (by omega), if_neg (by omega), if_neg (by omega), if_neg (by omega)]
      have hb0 : α' 4 = b0 := by rw [hα']; rfl
      have hb1 : α' 1004 = b1 := by rw [hα']; rfl
      have hb2 : α' 2004 = b2 := by rw [hα']; rfl
      have hb3 : α' 3004 = b3 := by rw [hα']; rfl
      skip
      refine hK _ α' _ hα ?_ (step_call (st9) hL hcl hα [] [4] (by decide) (by decide) (by decide) (M := _) ?_ hG hQ)
      · show _ = (.agg #[.iface 50 (.pointer (some ⟨α' 4, 0, none⟩)), .int .i32 loc] : Value)
        simp only [hb0]
      · show [rlaw5l0xns2R loc nm B8_4 B8_3 B8_2 (Rega.ran L9 4) α' 4] = _
        rw [f0]
        simp only [hb0, hb1, hb2, hb3]
    · intro L9 α a9 u9 K9 hL hcl hA hG hS h0 hK
      replace hL : L9 5 = false := hL
      have q41 : a9.tmps[41]? = some (.int .i32 loc) := hS 0 41 (by decide) rfl (by show 41 < 64; decide)
      have s41 := Rega.eval_of q41
      have q42 : a9.tmps[42]? = some (.agg #[.iface 244 (.pointer (some ⟨B8_2, 0, none⟩)), .int .i32 loc]) := hS 1 42 (by decide) rfl (by show 42 < 64; decide)
      have s42 := Rega.eval_of q42
      have q45 : a9.tmps[45]? = some (.agg #[.iface 50 (.pointer (some ⟨α 4, 0, none⟩)), .int .i32 loc]) := hS 4 45 (by decide) rfl (by show 45 < 64; decide)
      have s45 := Rega.eval_of q45
      go_simp
      have hM : ∀ i, i ∈ [] → act rlaw5l0xns2Cnt 2 L9 i := by intro i hi; simp at hi
      have hP : Own w0 u9 [] _ := hG.pick [] (by decide) (by simp)
      clear hM
      refine Calls.mono (exprIx loc (.iface 244 (.pointer (some ⟨B8_2, 0, none⟩))) loc (.iface 50 (.pointer (some ⟨α 4, 0, none⟩))) loc _ _ _ hP ) ?_
      rintro e9 u1 ⟨b0, rfl, hQ⟩
      obtain ⟨α', hα'⟩ : ∃ α' : Rega.Atoms, α' = (fun j => if j = 5 then b0 else α j) := ⟨_, rfl⟩
      have f0 : rlaw5l0xns2R loc nm B8_4 B8_3 B8_2 (Rega.ran L9 5) α' 5 = row (α' 5) 211 #[(.iface 244 (.pointer (some ⟨B8_2, 0, none⟩))), .int .i32 loc, (.iface 50 (.pointer (some ⟨α' 4, 0, none⟩))), .int .i32 loc, .int .i32 0, .int .u8 0, .bool false, .bool false, .bool false] := rfl
      have hα : ∀ j, j % 1000 ≠ 5 → α' j = α j := fun j hj => by rw [hα']; simp only []; rw [if_neg (by omega)]
      have hb0 : α' 5 = b0 := by rw [hα']; rfl
      have ha4 : α' 4 = α 4 := hα 4 (by decide)
      skip
      refine hK _ α' _ hα ?_ (step_call (st9) hL hcl hα [] [5] (by decide) (by decide) (by decide) (M := _) ?_ hG hQ)
      · show _ = (.agg #[.iface 209 (.pointer (some ⟨α' 5, 0, none⟩)), .int .i32 loc] : Value)
        simp only [hb0]
      · show [rlaw5l0xns2R loc nm B8_4 B8_3 B8_2 (Rega.ran L9 5) α' 5] = _
        rw [f0]
        simp only [hb0, ha4]
    · intro L9 α a9 u9 K9 hL hcl hA hG hS h0 hK
      replace hL : L9 6 = false := hL
      have q17 : a9.tmps[17]? = some (.pointer (some ⟨B8_4, 0, none⟩)) := (h0 17 (by kernel_rfl)).trans rfl
      have s17 := Rega.eval_of q17
      have q46 : a9.tmps[46]? = some (.agg #[.iface 209 (.pointer (some ⟨α 5, 0, none⟩)), .int .i32 loc]) := hS 5 46 (by decide) rfl (by show 46 < 64; decide)
      have s46 := Rega.eval_of q46
      have e0 : rlaw5l0xns2R loc nm B8_4 B8_3 B8_2 L9 α 999 = row (B8_4) 30 #[.nilIface, .int .i32 0] := by
        show rlaw5l0xns2T999 loc nm B8_4 B8_3 B8_2 L9 α = _
        unfold rlaw5l0xns2T999
        rw [if_neg (by rw [hL]; decide)]
      have hr := hG.rowAt 999 (act_base 999 rfl) e0
      have c0 : u9.cell? ⟨B8_4, 0, none⟩ = some (.nilIface) := hr.cell rfl
      have y0 : u9.frozen? ⟨B8_4, 0, none⟩ = false := hr.free 0
      have c1 : u9.cell? ⟨B8_4, 1, none⟩ = some (.int .i32 0) := hr.cell rfl
      have y1 : u9.frozen? ⟨B8_4, 1, none⟩ = false := hr.free 1
      clear hr
      have E0 := Lib.hid e0
      clear e0
      go_simp
      have e1 : rlaw5l0xns2R loc nm B8_4 B8_3 B8_2 (Rega.ran L9 6) α 999 = row (B8_4) 30 #[.iface 209 (.pointer (some ⟨α 5, 0, none⟩)), .int .i32 loc] := by
        show rlaw5l0xns2T999 loc nm B8_4 B8_3 B8_2 (Rega.ran L9 6) α = _
        unfold rlaw5l0xns2T999
        rw [if_pos (show Rega.ran L9 6 6 = true from rfl)]
      exact hK _ α _ (fun _ _ => rfl) rfl (step_sets (st9) hL hcl rfl 999 rfl (act_base 999 rfl) E0.out 0 [.iface 209 (.pointer (some ⟨α 5, 0, none⟩)), .int .i32 loc] (e1.trans rfl) hG)
  · clear st9
    intro α u hG
    have e0 : rlaw5l0xns2R loc nm B8_4 B8_3 B8_2 (fun k => decide (k < 7)) α 999 = row (B8_4) 30 #[.iface 209 (.pointer (some ⟨α 5, 0, none⟩)), .int .i32 loc] := by
      show rlaw5l0xns2T999 loc nm B8_4 B8_3 B8_2 (fun k => decide (k < 7)) α = _
      unfold rlaw5l0xns2T999
      rw [if_pos (by decide)]
    have e1 : rlaw5l0xns2R loc nm B8_4 B8_3 B8_2 (fun k => decide (k < 7)) α 1999 = row (B8_3) 30 #[.iface 244 (.pointer (some ⟨B8_2, 0, none⟩)), .int .i32 loc] := rfl
    have e2 : rlaw5l0xns2R loc nm B8_4 B8_3 B8_2 (fun k => decide (k < 7)) α 4 = row (α 4) 214 #[.slice (some ⟨α 1004, 0, none⟩) (α 2004) (α 3004), .int .i32 0, .bool false, .bool false, .bool false] := rfl
    have e3 : rlaw5l0xns2R loc nm B8_4 B8_3 B8_2 (fun k => decide (k < 7)) α 5 = row (α 5) 211 #[(.iface 244 (.pointer (some ⟨B8_2, 0, none⟩))), .int .i32 loc, (.iface 50 (.pointer (some ⟨α 4, 0, none⟩))), .int .i32 loc, .int .i32 0, .int .u8 0, .bool false, .bool false, .bool false] := rfl
    have hO : Own w0 u [row (B8_4) 30 #[.iface 209 (.pointer (some ⟨α 5, 0, none⟩)), .int .i32 loc], row (B8_3) 30 #[.iface 244 (.pointer (some ⟨B8_2, 0, none⟩)), .int .i32 loc], row (α 4) 214 #[.slice (some ⟨α 1004, 0, none⟩) (α 2004) (α 3004), .int .i32 0, .bool false, .bool false, .bool false], row (α 5) 211 #[(.iface 244 (.pointer (some ⟨B8_2, 0, none⟩))), .int .i32 loc, (.iface 50 (.pointer (some ⟨α 4, 0, none⟩))), .int .i32 loc, .int .i32 0, .int .u8 0, .bool false, .bool false, .bool false]] X9_10 := (hG.list [999, 1999, 4, 5] (by decide) (act_all (by decide))).conv (by
      show [rlaw5l0xns2R loc nm B8_4 B8_3 B8_2 (fun k => decide (k < 7)) α 999, rlaw5l0xns2R loc nm B8_4 B8_3 B8_2 (fun k => decide (k < 7)) α 1999, rlaw5l0xns2R loc nm B8_4 B8_3 B8_2 (fun k => decide (k < 7)) α 4, rlaw5l0xns2R loc nm B8_4 B8_3 B8_2 (fun k => decide (k < 7)) α 5] = _
      rw [e0, e1, e2, e3])
    clear hG e0 e1 e2 e3
    generalize hfr : Rega.frameAt _ _ _ _ _ = fr
    have hdf : fr = ⟨#[.bool true, .bool false, .bool true, .int .u8 kd, .bool true, .int .i32 loc, .string nm, undef, undef, undef, undef, undef, undef, undef, .bool false, .pointer (some ⟨nd2, 0, none⟩), .pointer (some ⟨B8_3, 0, none⟩), .pointer (some ⟨B8_4, 0, none⟩), undef, undef, undef, .bool true, .bool false, .bool true, .int .u8 kd, .bool true, .int .i32 loc, .string nm, .bool true, .bool false, .string nm, .int .i64 (nm.size : Int), .bool (decide (65536 < (nm.size : Int))), .bool true, .bool false, .bool true, .pointer (some ⟨nd2, 0, none⟩), .int .u8 kd, .int .i32 loc, .agg #[.iface 244 (.pointer (some ⟨B8_2, 0, none⟩)), .int .i32 loc], .bool true, .int .i32 loc, .agg #[.iface 244 (.pointer (some ⟨B8_2, 0, none⟩)), .int .i32 loc], .int .i32 loc, .string nm, .agg #[.iface 50 (.pointer (some ⟨α 4, 0, none⟩)), .int .i32 loc], .agg #[.iface 209 (.pointer (some ⟨α 5, 0, none⟩)), .int .i32 loc], undef, undef, undef, undef, undef, undef, undef, undef, undef, undef, undef, undef, undef, undef, undef, undef, undef], []⟩ := by rw [← hfr]; kernel_rfl
    clear hfr
    subst hdf
    generalize α 4 = nd11 at hO ⊢
    generalize α 5 = nd12 at hO ⊢
    generalize α 1004 = nd13 at hO ⊢
    generalize α 2004 = nd14 at hO ⊢
    generalize α 3004 = nd15 at hO ⊢
    clear α
    subst hX9_10
    have hN : Own w0 u [row (B8_4) 30 #[.iface 209 (.pointer (some ⟨nd12, 0, none⟩)), .int .i32 loc], row (B8_3) 30 #[.iface 244 (.pointer (some ⟨B8_2, 0, none⟩)), .int .i32 loc], row (nd11) 214 #[.slice (some ⟨nd13, 0, none⟩) (nd14) (nd15), .int .i32 0, .bool false, .bool false, .bool false], row (nd12) 211 #[(.iface 244 (.pointer (some ⟨B8_2, 0, none⟩))), .int .i32 loc, (.iface 50 (.pointer (some ⟨nd11, 0, none⟩))), .int .i32 loc, .int .i32 0, .int .u8 0, .bool false, .bool false, .bool false], row (B8_2) 246 #[], row (B8_1) 30 #[.iface 244 (.pointer (some ⟨B8_2, 0, none⟩)), .int .i32 loc], row (B8) 30 #[.iface 244 (.pointer (some ⟨B8_2, 0, none⟩)), .int .i32 loc], row (nd2) 206 nd5, (nd3, .map map3 3), row (nd4) 68 #[.int .u32 0, .int .u32 1]] X := hO.back HL.out HX.out [2, 3, 4, 5, 6, 7] (by decide) (by decide)
    clear hO HL HX
    have hO := hN
    clear hN
    obtain ⟨c9_0_0, c9_0_1, lt9_0, y9_0, -⟩ := hO.k2 0 rfl
    obtain ⟨c9_1_0, c9_1_1, lt9_1, y9_1, -⟩ := hO.k2 1 rfl
    obtain ⟨c9_2_0, c9_2_1, c9_2_2, c9_2_3, c9_2_4, lt9_2, y9_2, -⟩ := hO.k5 2 rfl
    obtain ⟨c9_3_0, c9_3_1, c9_3_2, c9_3_3, c9_3_4, c9_3_5, c9_3_6, c9_3_7, c9_3_8, lt9_3, y9_3, -⟩ := hO.k9 3 rfl
    obtain ⟨lt9_4, y9_4, -⟩ := hO.k0 4 rfl
    obtain ⟨c9_5_0, c9_5_1, lt9_5, y9_5, -⟩ := hO.k2 5 rfl
    obtain ⟨c9_6_0, c9_6_1, lt9_6, y9_6, -⟩ := hO.k2 6 rfl
    obtain ⟨c9_9_0, c9_9_1, lt9_9, y9_9, -⟩ := hO.k2 9 rfl
    have HO := Lib.hid hO
    clear hO
    go_wp2_with (first | (go_at_call 34; go_in) | (go_at_call 30; go_in) | (go_at_call 31; go_in) | (go_at_call 32; go_in) | (go_at_call 12; go_in) | (go_at_call 10; go_in) | (go_at_call 9; go_in) | (go_at_call 7; go_in))
    have hO := HO.out
    clear HO c9_0_0 c9_0_1 lt9_0 y9_0 c9_1_0 c9_1_1 lt9_1 y9_1 c9_2_0 c9_2_1 c9_2_2 c9_2_3 c9_2_4 lt9_2 y9_2 c9_3_0 c9_3_1 c9_3_2 c9_3_3 c9_3_4 c9_3_5 c9_3_6 c9_3_7 c9_3_8 lt9_3 y9_3 lt9_4 y9_4 c9_5_0 c9_5_1 lt9_5 y9_5 c9_6_0 c9_6_1 lt9_6 y9_6 c9_9_0 c9_9_1 lt9_9 y9_9
    have hL := hO.apart
    have hX := hO.apartX
    have HL := Lib.hid hL
    have HX := Lib.hid hX
    clear hL hX
    have hP9 := hO.pick [7] (by decide)
    have T9 := shlYes nd2 nd5 nd3 nd4 false true loc B8_2 _ _ _ hP9 pr6 pr7
    refine Calls.mono T9 ?_
    clear hP9 T9
    rintro e u16 ⟨rfl, hQ⟩
    have hN : Own w0 u16 [row (nd2) 206 nd5, row (B8_4) 30 #[.iface 209 (.pointer (some ⟨nd12, 0, none⟩)), .int .i32 loc], row (B8_3) 30 #[.iface 244 (.pointer (some ⟨B8_2, 0, none⟩)), .int .i32 loc], row (nd11) 214 #[.slice (some ⟨nd13, 0, none⟩) (nd14) (nd15), .int .i32 0, .bool false, .bool false, .bool false], row (nd12) 211 #[(.iface 244 (.pointer (some ⟨B8_2, 0, none⟩))), .int .i32 loc, (.iface 50 (.pointer (some ⟨nd11, 0, none⟩))), .int .i32 loc, .int .i32 0, .int .u8 0, .bool false, .bool false, .bool false], row (B8_2) 246 #[], row (B8_1) 30 #[.iface 244 (.pointer (some ⟨B8_2, 0, none⟩)), .int .i32 loc], row (B8) 30 #[.iface 244 (.pointer (some ⟨B8_2, 0, none⟩)), .int .i32 loc], (nd3, .map map3 3), row (nd4) 68 #[.int .u32 0, .int .u32 1]] X := hQ.back HL.out HX.out [0, 1, 2, 3, 4, 5, 6, 8, 9] (by decide) (by decide)
    clear hQ HL HX hO
    have hO := hN
    clear hN
    obtain ⟨c9_1_0, c9_1_1, lt9_1, y9_1, -⟩ := hO.k2 1 rfl
    obtain ⟨c9_2_0, c9_2_1, lt9_2, y9_2, -⟩ := hO.k2 2 rfl
    obtain ⟨c9_3_0, c9_3_1, c9_3_2, c9_3_3, c9_3_4, lt9_3, y9_3, -⟩ := hO.k5 3 rfl
    obtain ⟨c9_4_0, c9_4_1, c9_4_2, c9_4_3, c9_4_4, c9_4_5, c9_4_6, c9_4_7, c9_4_8, lt9_4, y9_4, -⟩ := hO.k9 4 rfl
    obtain ⟨lt9_5, y9_5, -⟩ := hO.k0 5 rfl
    obtain ⟨c9_6_0, c9_6_1, lt9_6, y9_6, -⟩ := hO.k2 6 rfl
    obtain ⟨c9_7_0, c9_7_1, lt9_7, y9_7, -⟩ := hO.k2 7 rfl
    obtain ⟨c9_9_0, c9_9_1, lt9_9, y9_9, -⟩ := hO.k2 9 rfl
    have HO := Lib.hid hO
    clear hO
    go_wp2_with (first | (go_at_call 34; go_in) | (go_at_call 30; go_in) | (go_at_call 31; go_in) | (go_at_call 32; go_in) | (go_at_call 12; go_in) | (go_at_call 10; go_in) | (go_at_call 9; go_in) | (go_at_call 7; go_in))
    have hO := HO.out
    clear HO c9_1_0 c9_1_1 lt9_1 y9_1 c9_2_0 c9_2_1 lt9_2 y9_2 c9_3_0 c9_3_1 c9_3_2 c9_3_3 c9_3_4 lt9_3 y9_3 c9_4_0 c9_4_1 c9_4_2 c9_4_3 c9_4_4 c9_4_5 c9_4_6 c9_4_7 c9_4_8 lt9_4 y9_4 lt9_5 y9_5 c9_6_0 c9_6_1 lt9_6 y9_6 c9_7_0 c9_7_1 lt9_7 y9_7 c9_9_0 c9_9_1 lt9_9 y9_9
    have hL := hO.apart
    have hX := hO.apartX
    have HL := Lib.hid hL
    have HX := Lib.hid hX
    clear hL hX
    have hP9 := hO.pick [0, 8, 9, 4] (by decide)
    have T9 := dasgXyns nd2 nd5 nd3 nd4 nd12 loc B8_2 nd11 _ _ _ hP9 pr6 pr7
    refine Calls.mono T9 ?_
    clear hP9 T9
    rintro e u17 ⟨nd18, rfl, hQ⟩
    have hN : Own w0 u17 [row (nd2) 206 nd5, (nd3, .map map3 3), row (nd4) 68 #[.int .u32 0, .int .u32 1], row (B8_4) 30 #[.iface 209 (.pointer (some ⟨nd12, 0, none⟩)), .int .i32 loc], row (B8_3) 30 #[.iface 244 (.pointer (some ⟨B8_2, 0, none⟩)), .int .i32 loc], row (nd11) 214 #[.slice (some ⟨nd13, 0, none⟩) (nd14) (nd15), .int .i32 0, .bool false, .bool false, .bool false], row (B8_2) 246 #[], row (B8_1) 30 #[.iface 244 (.pointer (some ⟨B8_2, 0, none⟩)), .int .i32 loc], row (B8) 30 #[.iface 244 (.pointer (some ⟨B8_2, 0, none⟩)), .int .i32 loc]] X := hQ.back HL.out HX.out [1, 2, 3, 5, 6, 7] (by decide) (by decide)
    clear hQ HL HX hO
    have hO := hN
    clear hN
    obtain ⟨c9_2_0, c9_2_1, lt9_2, y9_2, -⟩ := hO.k2 2 rfl
    obtain ⟨c9_3_0, c9_3_1, lt9_3, y9_3, -⟩ := hO.k2 3 rfl
    obtain ⟨c9_4_0, c9_4_1, lt9_4, y9_4, -⟩ := hO.k2 4 rfl
    obtain ⟨c9_5_0, c9_5_1, c9_5_2, c9_5_3, c9_5_4, lt9_5, y9_5, -⟩ := hO.k5 5 rfl
    obtain ⟨lt9_6, y9_6, -⟩ := hO.k0 6 rfl
    obtain ⟨c9_7_0, c9_7_1, lt9_7, y9_7, -⟩ := hO.k2 7 rfl
    obtain ⟨c9_8_0, c9_8_1, lt9_8, y9_8, -⟩ := hO.k2 8 rfl
    have HO := Lib.hid hO
    clear hO
    go_wp2_with (first | (go_at_call 34; go_in) | (go_at_call 30; go_in) | (go_at_call 31; go_in) | (go_at_call 32; go_in) | (go_at_call 12; go_in) | (go_at_call 10; go_in) | (go_at_call 9; go_in) | (go_at_call 7; go_in))
    have hO := HO.out
    clear HO c9_2_0 c9_2_1 lt9_2 y9_2 c9_3_0 c9_3_1 lt9_3 y9_3 c9_4_0 c9_4_1 lt9_4 y9_4 c9_5_0 c9_5_1 c9_5_2 c9_5_3 c9_5_4 lt9_5 y9_5 lt9_6 y9_6 c9_7_0 c9_7_1 lt9_7 y9_7 c9_8_0 c9_8_1 lt9_8 y9_8
    generalize hW : World.alloc _ _ = W20
    have hN : Own w0 W20 [row (u17.heap.size) 30 #[.iface 40 (.pointer (some ⟨nd18, 0, none⟩)), .int .i32 loc], row (nd2) 206 nd5, (nd3, .map map3 3), row (nd4) 68 #[.int .u32 0, .int .u32 1], row (B8_4) 30 #[.iface 209 (.pointer (some ⟨nd12, 0, none⟩)), .int .i32 loc], row (B8_3) 30 #[.iface 244 (.pointer (some ⟨B8_2, 0, none⟩)), .int .i32 loc], row (nd11) 214 #[.slice (some ⟨nd13, 0, none⟩) (nd14) (nd15), .int .i32 0, .bool false, .bool false, .bool false], row (B8_2) 246 #[], row (B8_1) 30 #[.iface 244 (.pointer (some ⟨B8_2, 0, none⟩)), .int .i32 loc], row (B8) 30 #[.iface 244 (.pointer (some ⟨B8_2, 0, none⟩)), .int .i32 loc]] X := by
      rw [← hW]
      exact (hO).alloc' _ (u17.heap.size) (by simp)
    clear hW hO
    generalize u17.heap.size = B19 at hN ⊢
    have hO := hN
    clear hN
    refine bodyPost_ret (v := .bool true) ?_ rfl ⟨rfl, hO.sub [] (by decide)⟩
    simp [results, Tryd.results3, go_sem]
def rlaw5l0xri2E (loc : Int) (nm : ByteArray) (B8_4 : Nat) (B8_3 : Nat) (B8_2 : Nat) : Nat → Rega.Atoms → Value
  | 0, α => .int .i32 loc
  | 1, α => .agg #[.iface 244 (.pointer (some ⟨B8_2, 0, none⟩)), .int .i32 loc]
  | 2, α => .int .i32 loc
  | 3, α => .string nm
  | 4, α => .agg #[.iface 50 (.pointer (some ⟨α 4, 0, none⟩)), .int .i32 loc]
  | 5, α => .agg #[.iface 209 (.pointer (some ⟨α 5, 0, none⟩)), .int .i32 loc]
  | 6, α => undef
  | _, _ => undef
def rlaw5l0xri2Anc : Nat → List Nat
  | 4 => [2, 3]
  | 5 => [0, 1, 2, 3, 4]
  | 6 => [0, 1, 2, 3, 4, 5]
  | _ => []
def rlaw5l0xri2Trn : Nat → List Nat
  | 6 => [999]
  | _ => []
def rlaw5l0xri2Cnt : List (Nat × Nat) := [(4, 1), (5, 1)]
def rlaw5l0xri2T999 (loc : Int) (nm : ByteArray) (B8_4 : Nat) (B8_3 : Nat) (B8_2 : Nat) (L9 : Nat → Bool) (α : Rega.Atoms) : Rw := if L9 6 = true then row (B8_4) 30 #[.iface 209 (.pointer (some ⟨α 5, 0, none⟩)), .int .i32 loc] else row (B8_4) 30 #[.nilIface, .int .i32 0]
def rlaw5l0xri2R (loc : Int) (nm : ByteArray) (B8_4 : Nat) (B8_3 : Nat) (B8_2 : Nat) (L9 : Nat → Bool) (α : Rega.Atoms) (ix9 : Nat) : Rw := if ix9 = 999 then rlaw5l0xri2T999 loc nm B8_4 B8_3 B8_2 L9 α else if ix9 = 1999 then row (B8_3) 30 #[.iface 244 (.pointer (some ⟨B8_2, 0, none⟩)), .int .i32 loc] else if ix9 = 4 then row (α 4) 214 #[.slice (some ⟨α 1004, 0, none⟩) (α 2004) (α 3004), .int .i32 0, .bool false, .bool false, .bool false] else if ix9 = 5 then row (α 5) 211 #[(.iface 244 (.pointer (some ⟨B8_2, 0, none⟩))), .int .i32 loc, (.iface 50 (.pointer (some ⟨α 4, 0, none⟩))), .int .i32 loc, .int .i32 0, .int .u8 0, .bool false, .bool false, .bool false] else (0, .map #[] 0)
theorem rlaw5l0xri2_he (loc : Int) (nm : ByteArray) (B8_4 : Nat) (B8_3 : Nat) (B8_2 : Nat) : ∀ kk α α', (∀ j, (j % 1000 = kk ∨ j % 1000 ∈ rlaw5l0xri2Anc kk) → α j = α' j) → rlaw5l0xri2E loc nm B8_4 B8_3 B8_2 kk α = rlaw5l0xri2E loc nm B8_4 B8_3 B8_2 kk α' := by
  intro kk α α' h
  match kk with
  | 0 => rfl
  | 1 => rfl
  | 2 => rfl
  | 3 => rfl
  | 4 => simp only [rlaw5l0xri2E, h 4 (Or.inl rfl)]
  | 5 => simp only [rlaw5l0xri2E, h 5 (Or.inl rfl)]
  | 6 => rfl
  | n + 7 => rfl
theorem rlaw5l0xri2_st (loc : Int) (nm : ByteArray) (B8_4 : Nat) (B8_3 : Nat) (B8_2 : Nat) : Stable rlaw5l0xri2Cnt 2 rlaw5l0xri2Anc rlaw5l0xri2Trn (rlaw5l0xri2R loc nm B8_4 B8_3 B8_2) := by
  intro k9 L9 α α' ix9 hk hcl hα hact ht
  have hp := act_places hact
  replace hp : ix9 ∈ [999, 1999, 4, 5] := hp
  simp only [List.mem_cons, List.not_mem_nil, or_false] at hp
  rcases hp with rfl | rfl | rfl | rfl
  · show rlaw5l0xri2T999 loc nm B8_4 B8_3 B8_2 (Rega.ran L9 k9) α' = rlaw5l0xri2T999 loc nm B8_4 B8_3 B8_2 L9 α
    unfold rlaw5l0xri2T999
    have n6 : 6 ≠ k9 := fun e => ht (by rw [← e]; decide)
    rw [ran_ne n6]
    by_cases e6 : L9 6 = true
    · first | rw [if_pos e6, if_pos e6] | rw [if_pos e6]
      try simp only [hα 5 (ne_ran hk (hcl 6 e6 5 (by decide)))]
    first | rw [if_neg e6, if_neg e6] | rw [if_neg e6]
  · rfl
  · have e0 : L9 4 = true := act_lt hact (by decide)
    show row (α' 4) 214 #[.slice (some ⟨α' 1004, 0, none⟩) (α' 2004) (α' 3004), .int .i32 0, .bool false, .bool false, .bool false] = row (α 4) 214 #[.slice (some ⟨α 1004, 0, none⟩) (α 2004) (α 3004), .int .i32 0, .bool false, .bool false, .bool false]
    simp only [hα 4 (ne_ran hk e0), hα 1004 (ne_ran hk e0), hα 2004 (ne_ran hk e0), hα 3004 (ne_ran hk e0)]
  · have e0 : L9 5 = true := act_lt hact (by decide)
    show row (α' 5) 211 #[(.iface 244 (.pointer (some ⟨B8_2, 0, none⟩))), .int .i32 loc, (.iface 50 (.pointer (some ⟨α' 4, 0, none⟩))), .int .i32 loc, .int .i32 0, .int .u8 0, .bool false, .bool false, .bool false] = row (α 5) 211 #[(.iface 244 (.pointer (some ⟨B8_2, 0, none⟩))), .int .i32 loc, (.iface 50 (.pointer (some ⟨α 4, 0, none⟩))), .int .i32 loc, .int .i32 0, .int .u8 0, .bool false, .bool false, .bool false]
    simp only [hα 4 (ne_ran hk (hcl 5 e0 4 (by decide))), hα 5 (ne_ran hk e0)]
def law5l0xriPost (kd loc : Int) (nm : ByteArray) (w0 : World) (X : Nat → Obj → Prop) (e : Ending) (w' : World) : Prop :=
  e = .returned (.bool true) ∧ Own w0 w' [] X
set_option maxRecDepth 100000 in
set_option maxHeartbeats 1000000 in
theorem law5l0xri (kd loc : Int) (nm : ByteArray) (w0 w : World) (X : Nat → Obj → Prop) (hO : Own w0 w [] X) (hlen : nm.size ≤ 65536) (hk0 : (kd.tmod 6 == 0) = true) :
    Calls Tryd.prog 3 #[.bool true, .bool true, .bool false, .int .u8 kd, .bool true, .int .i32 loc, .string nm] w (law5l0xriPost kd loc nm w0 X) := by
  go_enter Tryd.func3, Tryd.ntmps3
  have hl9 : (nm.size : Int) ≤ 65536 := by omega
  go_wp2_with (first | (go_at_call 34; go_in) | (go_at_call 30; go_in) | (go_at_call 31; go_in) | (go_at_call 32; go_in) | (go_at_call 12; go_in) | (go_at_call 10; go_in) | (go_at_call 9; go_in) | (go_at_call 7; go_in))
  have hL := hO.apart
  have hX := hO.apartX
  have HL := Lib.hid hL
  have HX := Lib.hid hX
  clear hL hX
  have hP9 := hO.pick [] (by decide)
  have T9 := newDeadL true true false _ _ _ hP9 
  refine Calls.mono T9 ?_
  clear hP9 T9
  rintro e u1 ⟨nd2, nd3, nd4, nd5, rfl, pr6, pr7, hQ⟩
  have hN : Own w0 u1 [row (nd2) 206 nd5, (nd3, .map map3 3), row (nd4) 68 #[.int .u32 0, .int .u32 1]] X := hQ.back HL.out HX.out [] (by decide) (by decide)
  clear hQ HL HX hO
  have hO := hN
  clear hN
  obtain ⟨c9_2_0, c9_2_1, lt9_2, y9_2, -⟩ := hO.k2 2 rfl
  have HO := Lib.hid hO
  clear hO
  go_wp2_with (first | (go_at_call 34; go_in) | (go_at_call 30; go_in) | (go_at_call 31; go_in) | (go_at_call 32; go_in) | (go_at_call 12; go_in) | (go_at_call 10; go_in) | (go_at_call 9; go_in) | (go_at_call 7; go_in))
  have hO := HO.out
  clear HO c9_2_0 c9_2_1 lt9_2 y9_2
  generalize hW : World.alloc _ _ = W9
  have hN : Own w0 W9 [row (u1.heap.size + 1 + 1 + 1 + 1) 30 #[.nilIface, .int .i32 0], row (u1.heap.size + 1 + 1 + 1) 30 #[.iface 244 (.pointer (some ⟨u1.heap.size + 1 + 1, 0, none⟩)), .int .i32 loc], row (u1.heap.size + 1 + 1) 246 #[], row (u1.heap.size + 1) 30 #[.iface 244 (.pointer (some ⟨u1.heap.size + 1 + 1, 0, none⟩)), .int .i32 loc], row (u1.heap.size) 30 #[.iface 244 (.pointer (some ⟨u1.heap.size + 1 + 1, 0, none⟩)), .int .i32 loc], row (nd2) 206 nd5, (nd3, .map map3 3), row (nd4) 68 #[.int .u32 0, .int .u32 1]] X := by
    rw [← hW]
    exact (((((hO).alloc' _ (u1.heap.size) (by simp)).alloc' _ (u1.heap.size + 1) (by simp)).alloc' _ (u1.heap.size + 1 + 1) (by simp)).alloc' _ (u1.heap.size + 1 + 1 + 1) (by simp)).alloc' _ (u1.heap.size + 1 + 1 + 1 + 1) (by simp)
  clear hW hO
  generalize u1.heap.size + 1 + 1 + 1 + 1 = B8_4 at hN ⊢
  generalize u1.heap.size + 1 + 1 + 1 = B8_3 at hN ⊢
  generalize u1.heap.size + 1 + 1 = B8_2 at hN ⊢
  generalize u1.heap.size + 1 = B8_1 at hN ⊢
  generalize u1.heap.size = B8 at hN ⊢
  have hO := hN
  clear hN
  have hL := hO.apart
  have hX := hO.apartX
  have HL := Lib.hid hL
  have HX := Lib.hid hX
  clear hL hX
  have hP9 := hO.pick [0, 1] (by decide)
  generalize hX9_10 : Own.Rest _ _ X = X9_10 at hP9
  replace hP9 : Own w0 W9 [row (B8_4) 30 #[.nilIface, .int .i32 0], row (B8_3) 30 #[.iface 244 (.pointer (some ⟨B8_2, 0, none⟩)), .int .i32 loc]] X9_10 := hP9
  clear hO
  have hO := hP9
  clear hP9
  have st9 := rlaw5l0xri2_st loc nm B8_4 B8_3 B8_2
  refine wp_region_own (e := rlaw5l0xri2E loc nm B8_4 B8_3 B8_2) (anc := rlaw5l0xri2Anc) (G := (fun L9 α u9 => OwnF w0 u9 (act rlaw5l0xri2Cnt 2 L9) (rlaw5l0xri2R loc nm B8_4 B8_3 B8_2 L9 α) X9_10)) (by kernel_rfl) (by kernel_rfl) (by kernel_rfl) (by kernel_rfl) (rlaw5l0xri2_he loc nm B8_4 B8_3 B8_2) ?_ (RunsAll.all ?_) ?_
  · have hp : ∀ i, act rlaw5l0xri2Cnt 2 (fun _ => false) i → i ∈ [999, 1999] := by
      intro i hi
      have h9 : i % 1000 = 999 := by
        by_cases h : i % 1000 = 999
        · exact h
        · exact absurd (act_lt hi h) (by simp)
      unfold act at hi
      rw [if_pos h9] at hi
      simp only [List.mem_cons, List.not_mem_nil, or_false]
      omega
    refine hO.drew.family (fun i hi => ?_) (fun i j hi hj hij => ?_)
    · have := hp i hi
      simp only [List.mem_cons, List.not_mem_nil, or_false] at this
      rcases this with rfl | rfl <;> rfl
    · have h1 := hp i hi
      have h2 := hp j hj
      simp only [List.mem_cons, List.not_mem_nil, or_false] at h1 h2
      omega
  · refine ⟨?_, ?_, ?_, ?_, ?_, ?_, ?_, trivial⟩
    · intro L9 α a9 u9 K9 hL hcl hA hG hS h0 hK
      replace hL : L9 0 = false := hL
      have q5 : a9.tmps[5]? = some (.int .i32 loc) := (h0 5 (by kernel_rfl)).trans rfl
      have s5 := Rega.eval_of q5
      go_simp
      exact hK _ α _ (fun _ _ => rfl) rfl (step_same (st9) hL hcl rfl rfl hG)
    · intro L9 α a9 u9 K9 hL hcl hA hG hS h0 hK
      replace hL : L9 1 = false := hL
      have q16 : a9.tmps[16]? = some (.pointer (some ⟨B8_3, 0, none⟩)) := (h0 16 (by kernel_rfl)).trans rfl
      have s16 := Rega.eval_of q16
      have e0 : rlaw5l0xri2R loc nm B8_4 B8_3 B8_2 L9 α 1999 = row (B8_3) 30 #[.iface 244 (.pointer (some ⟨B8_2, 0, none⟩)), .int .i32 loc] := rfl
      have hr := hG.rowAt 1999 (act_base 1999 rfl) e0
      have c0 : u9.cell? ⟨B8_3, 0, none⟩ = some (.iface 244 (.pointer (some ⟨B8_2, 0, none⟩))) := hr.cell rfl
      have c1 : u9.cell? ⟨B8_3, 1, none⟩ = some (.int .i32 loc) := hr.cell rfl
      clear hr e0
      go_simp
      exact hK _ α _ (fun _ _ => rfl) rfl (step_same (st9) hL hcl rfl rfl hG)
    · intro L9 α a9 u9 K9 hL hcl hA hG hS h0 hK
      replace hL : L9 2 = false := hL
      have q5 : a9.tmps[5]? = some (.int .i32 loc) := (h0 5 (by kernel_rfl)).trans rfl
      have s5 := Rega.eval_of q5
      go_simp
      exact hK _ α _ (fun _ _ => rfl) rfl (step_same (st9) hL hcl rfl rfl hG)
    · intro L9 α a9 u9 K9 hL hcl hA hG hS h0 hK
      replace hL : L9 3 = false := hL
      have q6 : a9.tmps[6]? = some (.string nm) := (h0 6 (by kernel_rfl)).trans rfl
      have s6 := Rega.eval_of q6
      go_simp
      exact hK _ α _ (fun _ _ => rfl) rfl (step_same (st9) hL hcl rfl rfl hG)
    · intro L9 α a9 u9 K9 hL hcl hA hG hS h0 hK
      replace hL : L9 4 = false := hL
      have q43 : a9.tmps[43]? = some (.int .i32 loc) := hS 2 43 (by decide) rfl (by show 43 < 64; decide)
      have s43 := Rega.eval_of q43
      have q44 : a9.tmps[44]? = some (.string nm) := hS 3 44 (by decide) rfl (by show 44 < 64; decide)
      have s44 := Rega.eval_of q44
      go_simp
      have hM : ∀ i, i ∈ [] → act rlaw5l0xri2Cnt 2 L9 i := by intro i hi; simp at hi
      have hP : Own w0 u9 [] _ := hG.pick [] (by decide) (by simp)
      clear hM
      refine Calls.mono (exprStr loc nm _ _ _ hP (by omega)) ?_
      rintro e9 u1 ⟨b0, b1, b2, b3, rfl, hQ⟩
      obtain ⟨α', hα'⟩ : ∃ α' : Rega.Atoms, α' = (fun j => if j = 4 then b0 else if j = 1004 then b1 else if j = 2004 then b2 else if j = 3004 then b3 else α j) := ⟨_, rfl⟩
      have f0 : rlaw5l0xri2R loc nm B8_4 B8_3 B8_2 (Rega.ran L9 4) α' 4 = row (α' 4) 214 #[.slice (some ⟨α' 1004, 0, none⟩) (α' 2004) (α' 3004), .int .i32 0, .bool false, .bool false, .bool false] := rfl
      have hα : ∀ j, j % 1000 ≠ 4 → α' j = α j := fun j hj => by rw [hα']; simp only []; rw [if_neg (by omega), if_neg (by omega), if_neg (by omega), if_neg (by omega)]
      have hb0 : α' 4 = b0 := by rw [hα']; rfl
      have hb1 : α' 1004 = b1 := by rw [hα']; rfl
      have hb2 : α' 2004 = b2 := by rw [hα']; rfl
      have hb3 : α' 3004 = b3 := by rw [hα']; rfl
      skip
      refine hK _ α' _ hα ?_ (step_call (st9) hL hcl hα [] [4] (by decide) (by decide) (by decide) (M := _) ?_ hG hQ)
      · show _ = (.agg #[.iface 50 (.pointer (some ⟨α' 4, 0, none⟩)), .int .i32 loc] : Value)
        simp only [hb0]
      · show [rlaw5l0xri2R loc nm B8_4 B8_3 B8_2 (Rega.ran L9 4) α' 4] = _
        rw [f0]
        simp only [hb0, hb1, hb2, hb3]
    · intro L9 α a9 u9 K9 hL hcl hA hG hS h0 hK
      replace hL : L9 5 = false := hL
      have q41 : a9.tmps[41]? = some (.int .i32 loc) := hS 0 41 (by decide) rfl (by show 41 < 64; decide)
      have s41 := Rega.eval_of q41
      have q42 : a9.tmps[42]? = some (.agg #[.iface 244 (.pointer (some ⟨B8_2, 0, none⟩)), .int .i32 loc]) := hS 1 42 (by decide) rfl (by show 42 < 64; decide)
      have s42 := Rega.eval_of q42
      have q45 : a9.tmps[45]? = some (.agg #[.iface 50 (.pointer (some ⟨α 4, 0, none⟩)), .int .i32 loc]) := hS 4 45 (by decide) rfl (by show 45 < 64; decide)
      have s45 := Rega.eval_of q45
      go_simp
      have hM : ∀ i, i ∈ [] → act rlaw5l0xri2Cnt 2 L9 i := by intro i hi; simp at hi
      have hP : Own w0 u9 [] _ := hG.pick [] (by decide) (by simp)
      clear hM
      refine Calls.mono (exprIx loc (.iface 244 (.pointer (some ⟨B8_2, 0, none⟩))) loc (.iface 50 (.pointer (some ⟨α 4, 0, none⟩))) loc _ _ _ hP ) ?_
      rintro e9 u1 ⟨b0, rfl, hQ⟩
      obtain ⟨α', hα'⟩ : ∃ α' : Rega.Atoms, α' = (fun j => if j = 5 then b0 else α j) := ⟨_, rfl⟩
      have f0 : rlaw5l0xri2R loc nm B8_4 B8_3 B8_2 (Rega.ran L9 5) α' 5 = row (α' 5) 211 #[(.iface 244 (.pointer (some ⟨B8_2, 0, none⟩))), .int .i32 loc, (.iface 50 (.pointer (some ⟨α' 4, 0, none⟩))), .int .i32 loc, .int .i32 0, .int .u8 0, .bool false, .bool false, .bool false] := rfl
      have hα : ∀ j, j % 1000 ≠ 5 → α' j = α j := fun j hj => by rw [hα']; simp only []; rw [if_neg (by omega)]
      have hb0 : α' 5 = b0 := by rw [hα']; rfl
      have ha4 : α' 4 = α 4 := hα 4 (by decide)
      skip
      refine hK _ α' _ hα ?_ (step_call (st9) hL hcl hα [] [5] (by decide) (by decide) (by decide) (M := _) ?_ hG hQ)
      · show _ = (.agg #[.iface 209 (.pointer (some ⟨α' 5, 0, none⟩)), .int .i32 loc] : Value)
        simp only [hb0]
      · show [rlaw5l0xri2R loc nm B8_4 B8_3 B8_2 (Rega.ran L9 5) α' 5] = _
        rw [f0]
        simp only [hb0, ha4]
    · intro L9 α a9 u9 K9 hL hcl hA hG hS h0 hK
      replace hL : L9 6 = false := hL
      have q17 : a9.tmps[17]? = some (.pointer (some ⟨B8_4, 0, none⟩)) := (h0 17 (by kernel_rfl)).trans rfl
      have s17 := Rega.eval_of q17
      have q46 : a9.tmps[46]? = some (.agg #[.iface 209 (.pointer (some ⟨α 5, 0, none⟩)), .int .i32 loc]) := hS 5 46 (by decide) rfl (by show 46 < 64; decide)
      have s46 := Rega.eval_of q46
      have e0 : rlaw5l0xri2R loc nm B8_4 B8_3 B8_2 L9 α 999 = row (B8_4) 30 #[.nilIface, .int .i32 0] := by
        show rlaw5l0xri2T999 loc nm B8_4 B8_3 B8_2 L9 α = _
        unfold rlaw5l0xri2T999
        rw [if_neg (by rw [hL]; decide)]
      have hr := hG.rowAt 999 (act_base 999 rfl) e0
      have c0 : u9.cell? ⟨B8_4, 0, none⟩ = some (.nilIface) := hr.cell rfl
      have y0 : u9.frozen? ⟨B8_4, 0, none⟩ = false := hr.free 0
      have c1 : u9.cell? ⟨B8_4, 1, none⟩ = some (.int .i32 0) := hr.cell rfl
      have y1 : u9.frozen? ⟨B8_4, 1, none⟩ = false := hr.free 1
      clear hr
      have E0 := Lib.hid e0
      clear e0
      go_simp
      have e1 : rlaw5l0xri2R loc nm B8_4 B8_3 B8_2 (Rega.ran L9 6) α 999 = row (B8_4) 30 #[.iface 209 (.pointer (some ⟨α 5, 0, none⟩)), .int .i32 loc] := by
        show rlaw5l0xri2T999 loc nm B8_4 B8_3 B8_2 (Rega.ran L9 6) α = _
        unfold rlaw5l0xri2T999
        rw [if_pos (show Rega.ran L9 6 6 = true from rfl)]
      exact hK _ α _ (fun _ _ => rfl) rfl (step_sets (st9) hL hcl rfl 999 rfl (act_base 999 rfl) E0.out 0 [.iface 209 (.pointer (some ⟨α 5, 0, none⟩)), .int .i32 loc] (e1.trans rfl) hG)
  · clear st9
    intro α u hG
    have e0 : rlaw5l0xri2R loc nm B8_4 B8_3 B8_2 (fun k => decide (k < 7)) α 999 = row (B8_4) 30 #[.iface 209 (.pointer (some ⟨α 5, 0, none⟩)), .int .i32 loc] := by
      show rlaw5l0xri2T999 loc nm B8_4 B8_3 B8_2 (fun k => decide (k < 7)) α = _
      unfold rlaw5l0xri2T999
      rw [if_pos (by decide)]
    have e1 : rlaw5l0xri2R loc nm B8_4 B8_3 B8_2 (fun k => decide (k < 7)) α 1999 = row (B8_3) 30 #[.iface 244 (.pointer (some ⟨B8_2, 0, none⟩)), .int .i32 loc] := rfl
    have e2 : rlaw5l0xri2R loc nm B8_4 B8_3 B8_2 (fun k => decide (k < 7)) α 4 = row (α 4) 214 #[.slice (some ⟨α 1004, 0, none⟩) (α 2004) (α 3004), .int .i32 0, .bool false, .bool false, .bool false] := rfl
    have e3 : rlaw5l0xri2R loc nm B8_4 B8_3 B8_2 (fun k => decide (k < 7)) α 5 = row (α 5) 211 #[(.iface 244 (.pointer (some ⟨B8_2, 0, none⟩))), .int .i32 loc, (.iface 50 (.pointer (some ⟨α 4, 0, none⟩))), .int .i32 loc, .int .i32 0, .int .u8 0, .bool false, .bool false, .bool false] := rfl
    have hO : Own w0 u [row (B8_4) 30 #[.iface 209 (.pointer (some ⟨α 5, 0, none⟩)), .int .i32 loc], row (B8_3) 30 #[.iface 244 (.pointer (some ⟨B8_2, 0, none⟩)), .int .i32 loc], row (α 4) 214 #[.slice (some ⟨α 1004, 0, none⟩) (α 2004) (α 3004), .int .i32 0, .bool false, .bool false, .bool false], row (α 5) 211 #[(.iface 244 (.pointer (some ⟨B8_2, 0, none⟩))), .int .i32 loc, (.iface 50 (.pointer (some ⟨α 4, 0, none⟩))), .int .i32 loc, .int .i32 0, .int .u8 0, .bool false, .bool false, .bool false]] X9_10 := (hG.list [999, 1999, 4, 5] (by decide) (act_all (by decide))).conv (by
      show [rlaw5l0xri2R loc nm B8_4 B8_3 B8_2 (fun k => decide (k < 7)) α 999, rlaw5l0xri2R loc nm B8_4 B8_3 B8_2 (fun k => decide (k < 7)) α 1999, rlaw5l0xri2R loc nm B8_4 B8_3 B8_2 (fun k => decide (k < 7)) α 4, rlaw5l0xri2R loc nm B8_4 B8_3 B8_2 (fun k => decide (k < 7)) α 5] = _
      rw [e0, e1, e2, e3])
    clear hG e0 e1 e2 e3
    generalize hfr : Rega.frameAt _ _ _ _ _ = fr
    have hdf : fr = ⟨#[.bool true, .bool true, .bool false, .int .u8 kd, .bool true, .int .i32 loc, .string nm, undef, undef, undef, undef, undef, undef, undef, .bool false, .pointer (some ⟨nd2, 0, none⟩), .pointer (some ⟨B8_3, 0, none⟩), .pointer (some ⟨B8_4, 0, none⟩), undef, undef, undef, .bool true, .bool true, .bool false, .int .u8 kd, .bool true, .int .i32 loc, .string nm, .bool true, .bool false, .string nm, .int .i64 (nm.size : Int), .bool (decide (65536 < (nm.size : Int))), .bool true, .bool true, .bool false, .pointer (some ⟨nd2, 0, none⟩), .int .u8 kd, .int .i32 loc, .agg #[.iface 244 (.pointer (some ⟨B8_2, 0, none⟩)), .int .i32 loc], .bool true, .int .i32 loc, .agg #[.iface 244 (.pointer (some ⟨B8_2, 0, none⟩)), .int .i32 loc], .int .i32 loc, .string nm, .agg #[.iface 50 (.pointer (some ⟨α 4, 0, none⟩)), .int .i32 loc], .agg #[.iface 209 (.pointer (some ⟨α 5, 0, none⟩)), .int .i32 loc], undef, undef, undef, undef, undef, undef, undef, undef, undef, undef, undef, undef, undef, undef, undef, undef, undef], []⟩ := by rw [← hfr]; kernel_rfl
    clear hfr
    subst hdf
    generalize α 4 = nd11 at hO ⊢
    generalize α 5 = nd12 at hO ⊢
    generalize α 1004 = nd13 at hO ⊢
    generalize α 2004 = nd14 at hO ⊢
    generalize α 3004 = nd15 at hO ⊢
    clear α
    subst hX9_10
    have hN : Own w0 u [row (B8_4) 30 #[.iface 209 (.pointer (some ⟨nd12, 0, none⟩)), .int .i32 loc], row (B8_3) 30 #[.iface 244 (.pointer (some ⟨B8_2, 0, none⟩)), .int .i32 loc], row (nd11) 214 #[.slice (some ⟨nd13, 0, none⟩) (nd14) (nd15), .int .i32 0, .bool false, .bool false, .bool false], row (nd12) 211 #[(.iface 244 (.pointer (some ⟨B8_2, 0, none⟩))), .int .i32 loc, (.iface 50 (.pointer (some ⟨nd11, 0, none⟩))), .int .i32 loc, .int .i32 0, .int .u8 0, .bool false, .bool false, .bool false], row (B8_2) 246 #[], row (B8_1) 30 #[.iface 244 (.pointer (some ⟨B8_2, 0, none⟩)), .int .i32 loc], row (B8) 30 #[.iface 244 (.pointer (some ⟨B8_2, 0, none⟩)), .int .i32 loc], row (nd2) 206 nd5, (nd3, .map map3 3), row (nd4) 68 #[.int .u32 0, .int .u32 1]] X := hO.back HL.out HX.out [2, 3, 4, 5, 6, 7] (by decide) (by decide)
    clear hO HL HX
    have hO := hN
    clear hN
    obtain ⟨c9_0_0, c9_0_1, lt9_0, y9_0, -⟩ := hO.k2 0 rfl
    obtain ⟨c9_1_0, c9_1_1, lt9_1, y9_1, -⟩ := hO.k2 1 rfl
    obtain ⟨c9_2_0, c9_2_1, c9_2_2, c9_2_3, c9_2_4, lt9_2, y9_2, -⟩ := hO.k5 2 rfl
    obtain ⟨c9_3_0, c9_3_1, c9_3_2, c9_3_3, c9_3_4, c9_3_5, c9_3_6, c9_3_7, c9_3_8, lt9_3, y9_3, -⟩ := hO.k9 3 rfl
    obtain ⟨lt9_4, y9_4, -⟩ := hO.k0 4 rfl
    obtain ⟨c9_5_0, c9_5_1, lt9_5, y9_5, -⟩ := hO.k2 5 rfl
    obtain ⟨c9_6_0, c9_6_1, lt9_6, y9_6, -⟩ := hO.k2 6 rfl
    obtain ⟨c9_9_0, c9_9_1, lt9_9, y9_9, -⟩ := hO.k2 9 rfl
    have HO := Lib.hid hO
    clear hO
    go_wp2_with (first | (go_at_call 34; go_in) | (go_at_call 30; go_in) | (go_at_call 31; go_in) | (go_at_call 32; go_in) | (go_at_call 12; go_in) | (go_at_call 10; go_in) | (go_at_call 9; go_in) | (go_at_call 7; go_in))
    have hO := HO.out
    clear HO c9_0_0 c9_0_1 lt9_0 y9_0 c9_1_0 c9_1_1 lt9_1 y9_1 c9_2_0 c9_2_1 c9_2_2 c9_2_3 c9_2_4 lt9_2 y9_2 c9_3_0 c9_3_1 c9_3_2 c9_3_3 c9_3_4 c9_3_5 c9_3_6 c9_3_7 c9_3_8 lt9_3 y9_3 lt9_4 y9_4 c9_5_0 c9_5_1 lt9_5 y9_5 c9_6_0 c9_6_1 lt9_6 y9_6 c9_9_0 c9_9_1 lt9_9 y9_9
    have hL := hO.apart
    have hX := hO.apartX
    have HL := Lib.hid hL
    have HX := Lib.hid hX
    clear hL hX
    have hP9 := hO.pick [7] (by decide)
    have T9 := shlYes nd2 nd5 nd3 nd4 true false loc B8_2 _ _ _ hP9 pr6 pr7
    refine Calls.mono T9 ?_
    clear hP9 T9
    rintro e u16 ⟨rfl, hQ⟩
    have hN : Own w0 u16 [row (nd2) 206 nd5, row (B8_4) 30 #[.iface 209 (.pointer (some ⟨nd12, 0, none⟩)), .int .i32 loc], row (B8_3) 30 #[.iface 244 (.pointer (some ⟨B8_2, 0, none⟩)), .int .i32 loc], row (nd11) 214 #[.slice (some ⟨nd13, 0, none⟩) (nd14) (nd15), .int .i32 0, .bool false, .bool false, .bool false], row (nd12) 211 #[(.iface 244 (.pointer (some ⟨B8_2, 0, none⟩))), .int .i32 loc, (.iface 50 (.pointer (some ⟨nd11, 0, none⟩))), .int .i32 loc, .int .i32 0, .int .u8 0, .bool false, .bool false, .bool false], row (B8_2) 246 #[], row (B8_1) 30 #[.iface 244 (.pointer (some ⟨B8_2, 0, none⟩)), .int .i32 loc], row (B8) 30 #[.iface 244 (.pointer (some ⟨B8_2, 0, none⟩)), .int .i32 loc], (nd3, .map map3 3), row (nd4) 68 #[.int .u32 0, .int .u32 1]] X := hQ.back HL.out HX.out [0, 1, 2, 3, 4, 5, 6, 8, 9] (by decide) (by decide)
    clear hQ HL HX hO
    have hO := hN
    clear hN
    obtain ⟨c9_1_0, c9_1_1, lt9_1, y9_1, -⟩ := hO.k2 1 rfl
    obtain ⟨c9_2_0, c9_2_1, lt9_2, y9_2, -⟩ := hO.k2 2 rfl
    obtain ⟨c9_3_0, c9_3_1, c9_3_2, c9_3_3, c9_3_4, lt9_3, y9_3, -⟩ := hO.k5 3 rfl
    obtain ⟨c9_4_0, c9_4_1, c9_4_2, c9_4_3, c9_4_4, c9_4_5, c9_4_6, c9_4_7, c9_4_8, lt9_4, y9_4, -⟩ := hO.k9 4 rfl
    obtain ⟨lt9_5, y9_5, -⟩ := hO.k0 5 rfl
    obtain ⟨c9_6_0, c9_6_1, lt9_6, y9_6, -⟩ := hO.k2 6 rfl
    obtain ⟨c9_7_0, c9_7_1, lt9_7, y9_7, -⟩ := hO.k2 7 rfl
    obtain ⟨c9_9_0, c9_9_1, lt9_9, y9_9, -⟩ := hO.k2 9 rfl
    have HO := Lib.hid hO
    clear hO
    go_wp2_with (first | (go_at_call 34; go_in) | (go_at_call 30; go_in) | (go_at_call 31; go_in) | (go_at_call 32; go_in) | (go_at_call 12; go_in) | (go_at_call 10; go_in) | (go_at_call 9; go_in) | (go_at_call 7; go_in))
    have hO := HO.out
    clear HO c9_1_0 c9_1_1 lt9_1 y9_1 c9_2_0 c9_2_1 lt9_2 y9_2 c9_3_0 c9_3_1 c9_3_2 c9_3_3 c9_3_4 lt9_3 y9_3 c9_4_0 c9_4_1 c9_4_2 c9_4_3 c9_4_4 c9_4_5 c9_4_6 c9_4_7 c9_4_8 lt9_4 y9_4 lt9_5 y9_5 c9_6_0 c9_6_1 lt9_6 y9_6 c9_7_0 c9_7_1 lt9_7 y9_7 c9_9_0 c9_9_1 lt9_9 y9_9
    have hL := hO.apart
    have hX := hO.apartX
    have HL := Lib.hid hL
    have HX := Lib.hid hX
    clear hL hX
    have hP9 := hO.pick [0, 8, 9, 4] (by decide)
    have T9 := dasgXyri nd2 nd5 nd3 nd4 nd12 loc B8_2 nd11 _ _ _ hP9 pr6 pr7
    refine Calls.mono T9 ?_
    clear hP9 T9
    rintro e u17 ⟨nd18, rfl, hQ⟩
    have hN : Own w0 u17 [row (nd2) 206 nd5, (nd3, .map map3 3), row (nd4) 68 #[.int .u32 0, .int .u32 1], row (B8_4) 30 #[.iface 209 (.pointer (some ⟨nd12, 0, none⟩)), .int .i32 loc], row (B8_3) 30 #[.iface 244 (.pointer (some ⟨B8_2, 0, none⟩)), .int .i32 loc], row (nd11) 214 #[.slice (some ⟨nd13, 0, none⟩) (nd14) (nd15), .int .i32 0, .bool false, .bool false, .bool false], row (B8_2) 246 #[], row (B8_1) 30 #[.iface 244 (.pointer (some ⟨B8_2, 0, none⟩)), .int .i32 loc], row (B8) 30 #[.iface 244 (.pointer (some ⟨B8_2, 0, none⟩)), .int .i32 loc]] X := hQ.back HL.out HX.out [1, 2, 3, 5, 6, 7] (by decide) (by decide)
    clear hQ HL HX hO
    have hO := hN
    clear hN
    obtain ⟨c9_2_0, c9_2_1, lt9_2, y9_2, -⟩ := hO.k2 2 rfl
    obtain ⟨c9_3_0, c9_3_1, lt9_3, y9_3, -⟩ := hO.k2 3 rfl
    obtain ⟨c9_4_0, c9_4_1, lt9_4, y9_4, -⟩ := hO.k2 4 rfl
    obtain ⟨c9_5_0, c9_5_1, c9_5_2, c9_5_3, c9_5_4, lt9_5, y9_5, -⟩ := hO.k5 5 rfl
    obtain ⟨lt9_6, y9_6, -⟩ := hO.k0 6 rfl
    obtain ⟨c9_7_0, c9_7_1, lt9_7, y9_7, -⟩ := hO.k2 7 rfl
    obtain ⟨c9_8_0, c9_8_1, lt9_8, y9_8, -⟩ := hO.k2 8 rfl
    have HO := Lib.hid hO
    clear hO
    go_wp2_with (first | (go_at_call 34; go_in) | (go_at_call 30; go_in) | (go_at_call 31; go_in) | (go_at_call 32; go_in) | (go_at_call 12; go_in) | (go_at_call 10; go_in) | (go_at_call 9; go_in) | (go_at_call 7; go_in))
    have hO := HO.out
    clear HO c9_2_0 c9_2_1 lt9_2 y9_2 c9_3_0 c9_3_1 lt9_3 y9_3 c9_4_0 c9_4_1 lt9_4 y9_4 c9_5_0 c9_5_1 c9_5_2 c9_5_3 c9_5_4 lt9_5 y9_5 lt9_6 y9_6 c9_7_0 c9_7_1 lt9_7 y9_7 c9_8_0 c9_8_1 lt9_8 y9_8
    generalize hW : World.alloc _ _ = W20
    have hN : Own w0 W20 [row (u17.heap.size) 30 #[.iface 40 (.pointer (some ⟨nd18, 0, none⟩)), .int .i32 loc], row (nd2) 206 nd5, (nd3, .map map3 3), row (nd4) 68 #[.int .u32 0, .int .u32 1], row (B8_4) 30 #[.iface 209 (.pointer (some ⟨nd12, 0, none⟩)), .int .i32 loc], row (B8_3) 30 #[.iface 244 (.pointer (some ⟨B8_2, 0, none⟩)), .int .i32 loc], row (nd11) 214 #[.slice (some ⟨nd13, 0, none⟩) (nd14) (nd15), .int .i32 0, .bool false, .bool false, .bool false], row (B8_2) 246 #[], row (B8_1) 30 #[.iface 244 (.pointer (some ⟨B8_2, 0, none⟩)), .int .i32 loc], row (B8) 30 #[.iface 244 (.pointer (some ⟨B8_2, 0, none⟩)), .int .i32 loc]] X := by
      rw [← hW]
      exact (hO).alloc' _ (u17.heap.size) (by simp)
    clear hW hO
    generalize u17.heap.size = B19 at hN ⊢
    have hO := hN
    clear hN
    refine bodyPost_ret (v := .bool true) ?_ rfl ⟨rfl, hO.sub [] (by decide)⟩
    simp [results, Tryd.results3, go_sem]
def rlaw5l0xrs2E (loc : Int) (nm : ByteArray) (B8_4 : Nat) (B8_3 : Nat) (B8_2 : Nat) : Nat → Rega.Atoms → Value
  | 0, α => .int .i32 loc
  | 1, α => .agg #[.iface 244 (.pointer (some ⟨B8_2, 0, none⟩)), .int .i32 loc]
  | 2, α => .int .i32 loc
  | 3, α => .string nm
  | 4, α => .agg #[.iface 50 (.pointer (some ⟨α 4, 0, none⟩)), .int .i32 loc]
  | 5, α => .agg #[.iface 209 (.pointer (some ⟨α 5, 0, none⟩)), .int .i32 loc]
  | 6, α => undef
  | _, _ => undef
def rlaw5l0xrs2Anc : Nat → List Nat
  | 4 => [2, 3]
  | 5 => [0, 1, 2, 3, 4]
  | 6 => [0, 1, 2, 3, 4, 5]
  | _ => []
def rlaw5l0xrs2Trn : Nat → List Nat
  | 6 => [999]
  | _ => []
def rlaw5l0xrs2Cnt : List (Nat × Nat) := [(4, 1), (5, 1)]
def rlaw5l0xrs2T999 (loc : Int) (nm : ByteArray) (B8_4 : Nat) (B8_3 : Nat) (B8_2 : Nat) (L9 : Nat → Bool) (α : Rega.Atoms) : Rw := if L9 6 = true then row (B8_4) 30 #[.iface 209 (.pointer (some ⟨α 5, 0, none⟩)), .int .i32 loc] else row (B8_4) 30 #[.nilIface, .int .i32 0]
def rlaw5l0xrs2R (loc : Int) (nm : ByteArray) (B8_4 : Nat) (B8_3 : Nat) (B8_2 : Nat) (L9 : Nat → Bool) (α : Rega.Atoms) (ix9 : Nat) : Rw := if ix9 = 999 then rlaw5l0xrs2T999 loc nm B8_4 B8_3 B8_2 L9 α else if ix9 = 1999 then row (B8_3) 30 #[.iface 244 (.pointer (some ⟨B8_2, 0, none⟩)), .int .i32 loc] else if ix9 = 4 then row (α 4) 214 #[.slice (some ⟨α 1004, 0, none⟩) (α 2004) (α 3004), .int .i32 0, .bool false, .bool false, .bool false] else if ix9 = 5 then row (α 5) 211 #[(.iface 244 (.pointer (some ⟨B8_2, 0, none⟩))), .int .i32 loc, (.iface 50 (.pointer (some ⟨α 4, 0, none⟩))), .int .i32 loc, .int .i32 0, .int .u8 0, .bool false, .bool false, .bool false] else (0, .map #[] 0)
theorem rlaw5l0xrs2_he (loc : Int) (nm : ByteArray) (B8_4 : Nat) (B8_3 : Nat) (B8_2 : Nat) : ∀ kk α α', (∀ j, (j % 1000 = kk ∨ j % 1000 ∈ rlaw5l0xrs2Anc kk) → α j = α' j) → rlaw5l0xrs2E loc nm B8_4 B8_3 B8_2 kk α = rlaw5l0xrs2E loc nm B8_4 B8_3 B8_2 kk α' := by
  intro kk α α' h
  match kk with
  | 0 => rfl
  | 1 => rfl
  | 2 => rfl
  | 3 => rfl
  | 4 => simp only [rlaw5l0xrs2E, h 4 (Or.inl rfl)]
  | 5 => simp only [rlaw5l0xrs2E, h 5 (Or.inl rfl)]
  | 6 => rfl
  | n + 7 => rfl
theorem rlaw5l0xrs2_st (loc : Int) (nm : ByteArray) (B8_4 : Nat) (B8_3 : Nat) (B8_2 : Nat) : Stable rlaw5l0xrs2Cnt 2 rlaw5l0xrs2Anc rlaw5l0xrs2Trn (rlaw5l0xrs2R loc nm B8_4 B8_3 B8_2) := by
  intro k9 L9 α α' ix9 hk hcl hα hact ht
  have hp := act_places hact
  replace hp : ix9 ∈ [999, 1999, 4, 5] := hp
  simp only [List.mem_cons, List.not_mem_nil, or_false] at hp
  rcases hp with rfl | rfl | rfl | rfl
  · show rlaw5l0xrs2T999 loc nm B8_4 B8_3 B8_2 (Rega.ran L9 k9) α' = rlaw5l0xrs2T999 loc nm B8_4 B8_3 B8_2 L9 α
    unfold rlaw5l0xrs2T999
    have n6 : 6 ≠ k9 := fun e => ht (by rw [← e]; decide)
    rw [ran_ne n6]
    by_cases e6 : L9 6 = true
    · first | rw [if_pos e6, if_pos e6] | rw [if_pos e6]
      try simp only [hα 5 (ne_ran hk (hcl 6 e6 5 (by decide)))]
    first | rw [if_neg e6, if_neg e6] | rw [if_neg e6]
  · rfl
  · have e0 : L9 4 = true := act_lt hact (by decide)
    show row (α' 4) 214 #[.slice (some ⟨α' 1004, 0, none⟩) (α' 2004) (α' 3004), .int .i32 0, .bool false, .bool false, .bool false] = row (α 4) 214 #[.slice (some ⟨α 1004, 0, none⟩) (α 2004) (α 3004), .int .i32 0, .bool false, .bool false, .bool false]
    simp only [hα 4 (ne_ran hk e0), hα 1004 (ne_ran hk e0), hα 2004 (ne_ran hk e0), hα 3004 (ne_ran hk e0)]
  · have e0 : L9 5 = true := act_lt hact (by decide)
    show row (α' 5) 211 #[(.iface 244 (.pointer (some ⟨B8_2, 0, none⟩))), .int .i32 loc, (.iface 50 (.pointer (some ⟨α' 4, 0, none⟩))), .int .i32 loc, .int .i32 0, .int .u8 0, .bool false, .bool false, .bool false] = row (α 5) 211 #[(.iface 244 (.pointer (some ⟨B8_2, 0, none⟩))), .int .i32 loc, (.iface 50 (.pointer (some ⟨α 4, 0, none⟩))), .int .i32 loc, .int .i32 0, .int .u8 0, .bool false, .bool false, .bool false]
    simp only [hα 4 (ne_ran hk (hcl 5 e0 4 (by decide))), hα 5 (ne_ran hk e0)]
def law5l0xrsPost (kd loc : Int) (nm : ByteArray) (w0 : World) (X : Nat → Obj → Prop) (e : Ending) (w' : World) : Prop :=
  e = .returned (.bool true) ∧ Own w0 w' [] X
set_option maxRecDepth 100000 in
set_option maxHeartbeats 1000000 in
theorem law5l0xrs (kd loc : Int) (nm : ByteArray) (w0 w : World) (X : Nat → Obj → Prop) (hO : Own w0 w [] X) (hlen : nm.size ≤ 65536) (hk0 : (kd.tmod 6 == 0) = true) :
    Calls Tryd.prog 3 #[.bool true, .bool true, .bool true, .int .u8 kd, .bool true, .int .i32 loc, .string nm] w (law5l0xrsPost kd loc nm w0 X) := by
  go_enter Tryd.func3, Tryd.ntmps3
  have hl9 : (nm.size : Int) ≤ 65536 := by omega
  go_wp2_with (first | (go_at_call 34; go_in) | (go_at_call 30; go_in) | (go_at_call 31; go_in) | (go_at_call 32; go_in) | (go_at_call 12; go_in) | (go_at_call 10; go_in) | (go_at_call 9; go_in) | (go_at_call 7; go_in))
  have hL := hO.apart
  have hX := hO.apartX
  have HL := Lib.hid hL
  have HX := Lib.hid hX
  clear hL hX
  have hP9 := hO.pick [] (by decide)
  have T9 := newDeadL true true true _ _ _ hP9 
  refine Calls.mono T9 ?_
  clear hP9 T9
  rintro e u1 ⟨nd2, nd3, nd4, nd5, rfl, pr6, pr7, hQ⟩
  have hN : Own w0 u1 [row (nd2) 206 nd5, (nd3, .map map3 3), row (nd4) 68 #[.int .u32 0, .int .u32 1]] X := hQ.back HL.out HX.out [] (by decide) (by decide)
  clear hQ HL HX hO
  have hO := hN
  clear hN
  obtain ⟨c9_2_0, c9_2_1, lt9_2, y9_2, -⟩ := hO.k2 2 rfl
  have HO := Lib.hid hO
  clear hO
  go_wp2_with (first | (go_at_call 34; go_in) | (go_at_call 30; go_in) | (go_at_call 31; go_in) | (go_at_call 32; go_in) | (go_at_call 12; go_in) | (go_at_call 10; go_in) | (go_at_call 9; go_in) | (go_at_call 7; go_in))
  have hO := HO.out
  clear HO c9_2_0 c9_2_1 lt9_2 y9_2
  generalize hW : World.alloc _ _ = W9
  have hN : Own w0 W9 [row (u1.heap.size + 1 + 1 + 1 + 1) 30 #[.nilIface, .int .i32 0], row (u1.heap.size + 1 + 1 + 1) 30 #[.iface 244 (.pointer (some ⟨u1.heap.size + 1 + 1, 0, none⟩)), .int .i32 loc], row (u1.heap.size + 1 + 1) 246 #[], row (u1.heap.size + 1) 30 #[.iface 244 (.pointer (some ⟨u1.heap.size + 1 + 1, 0, none⟩)), .int .i32 loc], row (u1.heap.size) 30 #[.iface 244 (.pointer (some ⟨u1.heap.size + 1 + 1, 0, none⟩)), .int .i32 loc], row (nd2) 206 nd5, (nd3, .map map3 3), row (nd4) 68 #[.int .u32 0, .int .u32 1]] X := by
    rw [← hW]
    exact (((((hO).alloc' _ (u1.heap.size) (by simp)).alloc' _ (u1.heap.size + 1) (by simp)).alloc' _ (u1.heap.size + 1 + 1) (by simp)).alloc' _ (u1.heap.size + 1 + 1 + 1) (by simp)).alloc' _ (u1.heap.size + 1 + 1 + 1 + 1) (by simp)
  clear hW hO
  generalize u1.heap.size + 1 + 1 + 1 + 1 = B8_4 at hN ⊢
  generalize u1.heap.size + 1 + 1 + 1 = B8_3 at hN ⊢
  generalize u1.heap.size + 1 + 1 = B8_2 at hN ⊢
  generalize u1.heap.size + 1 = B8_1 at hN ⊢
  generalize u1.heap.size = B8 at hN ⊢
  have hO := hN
  clear hN
  have hL := hO.apart
  have hX := hO.apartX
  have HL := Lib.hid hL
  have HX := Lib.hid hX
  clear hL hX
  have hP9 := hO.pick [0, 1] (by decide)
  generalize hX9_10 : Own.Rest _ _ X = X9_10 at hP9
  replace hP9 : Own w0 W9 [row (B8_4) 30 #[.nilIface, .int .i32 0], row (B8_3) 30 #[.iface 244 (.pointer (some ⟨B8_2, 0, none⟩)), .int .i32 loc]] X9_10 := hP9
  clear hO
  have hO := hP9
  clear hP9
  have st9 := rlaw5l0xrs2_st loc nm B8_4 B8_3 B8_2
  refine wp_region_own (e := rlaw5l0xrs2E loc nm B8_4 B8_3 B8_2) (anc := rlaw5l0xrs2Anc) (G := (fun L9 α u9 => OwnF w0 u9 (act rlaw5l0xrs2Cnt 2 L9) (rlaw5l0xrs2R loc nm B8_4 B8_3 B8_2 L9 α) X9_10)) (by kernel_rfl) (by kernel_rfl) (by kernel_rfl) (by kernel_rfl) (rlaw5l0xrs2_he loc nm B8_4 B8_3 B8_2) ?_ (RunsAll.all ?_) ?_
  · have hp : ∀ i, act rlaw5l0xrs2Cnt 2 (fun _ => false) i → i ∈ [999, 1999] := by
      intro i hi
      have h9 : i % 1000 = 999 := by
        by_cases h : i % 1000 = 999
        · exact h
        · exact absurd (act_lt hi h) (by simp)
      unfold act at hi
      rw [if_pos h9] at hi
      simp only [List.mem_cons, List.not_mem_nil, or_false]
      omega
    refine hO.drew.family (fun i hi => ?_) (fun i j hi hj hij => ?_)
    · have := hp i hi
      simp only [List.mem_cons, List.not_mem_nil, or_false] at this
      rcases this with rfl | rfl <;> rfl
    · have h1 := hp i hi
      have h2 := hp j hj
      simp only [List.mem_cons, List.not_mem_nil, or_false] at h1 h2
      omega
  · refine ⟨?_, ?_, ?_, ?_, ?_, ?_, ?_, trivial⟩
    · intro L9 α a9 u9 K9 hL hcl hA hG hS h0 hK
      replace hL : L9 0 = false := hL
      have q5 : a9.tmps[5]? = some (.int .i32 loc) := (h0 5 (by kernel_rfl)).trans rfl
      have s5 := Rega.eval_of q5
      go_simp
      exact hK _ α _ (fun _ _ => rfl) rfl (step_same (st9) hL hcl rfl rfl hG)
    · intro L9 α a9 u9 K9 hL hcl hA hG hS h0 hK
      replace hL : L9 1 = false := hL
      have q16 : a9.tmps[16]? = some (.pointer (some ⟨B8_3, 0, none⟩)) := (h0 16 (by kernel_rfl)).trans rfl
      have s16 := Rega.eval_of q16
      have e0 : rlaw5l0xrs2R loc nm B8_4 B8_3 B8_2 L9 α 1999 = row (B8_3) 30 #[.iface 244 (.pointer (some ⟨B8_2, 0, none⟩)), .int .i32 loc] := rfl
      have hr := hG.rowAt 1999 (act_base 1999 rfl) e0
      have c0 : u9.cell? ⟨B8_3, 0, none⟩ = some (.iface 244 (.pointer (some ⟨B8_2, 0, none⟩))) := hr.cell rfl
      have c1 : u9.cell? ⟨B8_3, 1, none⟩ = some (.int .i32 loc) := hr.cell rfl
      clear hr e0
      go_simp
      exact hK _ α _ (fun _ _ => rfl) rfl (step_same (st9) hL hcl rfl rfl hG)
    · intro L9 α a9 u9 K9 hL hcl hA hG hS h0 hK
      replace hL : L9 2 = false := hL
      have q5 : a9.tmps[5]? = some (.int .i32 loc) := (h0 5 (by kernel_rfl)).trans rfl
      have s5 := Rega.eval_of q5
      go_simp
      exact hK _ α _ (fun _ _ => rfl) rfl (step_same (st9) hL hcl rfl rfl hG)
    · intro L9 α a9 u9 K9 hL hcl hA hG hS h0 hK
      replace hL : L9 3 = false := hL
      have q6 : a9.tmps[6]? = some (.string nm) := (h0 6 (by kernel_rfl)).trans rfl
      have s6 := Rega.eval_of q6
      go_simp
      exact hK _ α _ (fun _ _ => rfl) rfl (step_same (st9) hL hcl rfl rfl hG)
    · intro L9 α a9 u9 K9 hL hcl hA hG hS h0 hK
      replace hL : L9 4 = false := hL
      have q43 : a9.tmps[43]? = some (.int .i32 loc) := hS 2 43 (by decide) rfl (by show 43 < 64; decide)
      have s43 := Rega.eval_of q43
      have q44 : a9.tmps[44]? = some (.string nm) := hS 3 44 (by decide) rfl (by show 44 < 64; decide)
      have s44 := Rega.eval_of q44
      go_simp
      have hM : ∀ i, i ∈ [] → act rlaw5l0xrs2Cnt 2 L9 i := by intro i hi; simp at hi
      have hP : Own w0 u9 [] _ := hG.pick [] (by decide) (by simp)
      clear hM
      refine Calls.mono (exprStr loc nm _ _ _ hP (by omega)) ?_
      rintro e9 u1 ⟨b0, b1, b2, b3, rfl, hQ⟩
      obtain ⟨α', hα'⟩ : ∃ α' : Rega.Atoms, α' = (fun j => if j = 4 then b0 else if j = 1004 then b1 else if j = 2004 then b2 else if j = 3004 then b3 else α j) := ⟨_, rfl⟩
      have f0 : rlaw5l0xrs2R loc nm B8_4 B8_3 B8_2 (Rega.ran L9 4) α' 4 = row (α' 4) 214 #[.slice (some ⟨α' 1004, 0, none⟩) (α' 2004) (α' 3004), .int .i32 0, .bool false, .bool false, .bool false] := rfl
      have hα : ∀ j, j % 1000 ≠ 4 → α' j = α j := fun j hj => by rw [hα']; simp only []; rw [if_neg (by omega), if_neg (by omega), if_neg (by omega), if_neg (by omega)]
      have hb0 : α' 4 = b0 := by rw [hα']; rfl
      have hb1 : α' 1004 = b1 := by rw [hα']; rfl
      have hb2 : α' 2004 = b2 := by rw [hα']; rfl
      have hb3 : α' 3004 = b3 := by rw [hα']; rfl
      skip
      refine hK _ α' _ hα ?_ (step_call (st9) hL hcl hα [] [4] (by decide) (by decide) (by decide) (M := _) ?_ hG hQ)
      · show _ = (.agg #[.iface 50 (.pointer (some ⟨α' 4, 0, none⟩)), .int .i32 loc] : Value)
        simp only [hb0]
      · show [rlaw5l0xrs2R loc nm B8_4 B8_3 B8_2 (Rega.ran L9 4) α' 4] = _
        rw [f0]
        simp only [hb0, hb1, hb2, hb3]
    · intro L9 α a9 u9 K9 hL hcl hA hG hS h0 hK
      replace hL : L9 5 = false := hL
      have q41 : a9.tmps[41]? = some (.int .i32 loc) := hS 0 41 (by decide) rfl (by show 41 < 64; decide)
      have s41 := Rega.eval_of q41
      have q42 : a9.tmps[42]? = some (.agg #[.iface 244 (.pointer (some ⟨B8_2, 0, none⟩)), .int .i32 loc]) := hS 1 42 (by decide) rfl (by show 42 < 64; decide)
      have s42 := Rega.eval_of q42
      have q45 : a9.tmps[45]? = some (.agg #[.iface 50 (.pointer (some ⟨α 4, 0, none⟩)), .int .i32 loc]) := hS 4 45 (by decide) rfl (by show 45 < 64; decide)
      have s45 := Rega.eval_of q45
      go_simp
      have hM : ∀ i, i ∈ [] → act rlaw5l0xrs2Cnt 2 L9 i := by intro i hi; simp at hi
      have hP : Own w0 u9 [] _ := hG.pick [] (by decide) (by simp)
      clear hM
      refine Calls.mono (exprIx loc (.iface 244 (.pointer (some ⟨B8_2, 0, none⟩))) loc (.iface 50 (.pointer (some ⟨α 4, 0, none⟩))) loc _ _ _ hP ) ?_
      rintro e9 u1 ⟨b0, rfl, hQ⟩
      obtain ⟨α', hα'⟩ : ∃ α' : Rega.Atoms, α' = (fun j => if j = 5 then b0 else α j) := ⟨_, rfl⟩
      have f0 : rlaw5l0xrs2R loc nm B8_4 B8_3 B8_2 (Rega.ran L9 5) α' 5 = row (α' 5) 211 #[(.iface 244 (.pointer (some ⟨B8_2, 0, none⟩))), .int .i32 loc, (.iface 50 (.pointer (some ⟨α' 4, 0, none⟩))), .int .i32 loc, .int .i32 0, .int .u8 0, .bool false, .bool false, .bool false] := rfl
      have hα : ∀ j, j % 1000 ≠ 5 → α' j = α j := fun j hj => by rw [hα']; simp only []; rw [if_neg (by omega)]
      have hb0 : α' 5 = b0 := by rw [hα']; rfl
      have ha4 : α' 4 = α 4 := hα 4 (by decide)
      skip
      refine hK _ α' _ hα ?_ (step_call (st9) hL hcl hα [] [5] (by decide) (by decide) (by decide) (M := _) ?_ hG hQ)
      · show _ = (.agg #[.iface 209 (.pointer (some ⟨α' 5, 0, none⟩)), .int .i32 loc] : Value)
        simp only [hb0]
      · show [rlaw5l0xrs2R loc nm B8_4 B8_3 B8_2 (Rega.ran L9 5) α' 5] = _
        rw [f0]
        simp only [hb0, ha4]
    · intro L9 α a9 u9 K9 hL hcl hA hG hS h0 hK
      replace hL : L9 6 = false := hL
      have q17 : a9.tmps[17]? = some (.pointer (some ⟨B8_4, 0, none⟩)) := (h0 17 (by kernel_rfl)).trans rfl
      have s17 := Rega.eval_of q17
      have q46 : a9.tmps[46]? = some (.agg #[.iface 209 (.pointer (some ⟨α 5, 0, none⟩)), .int .i32 loc]) := hS 5 46 (by decide) rfl (by show 46 < 64; decide)
      have s46 := Rega.eval_of q46
      have e0 : rlaw5l0xrs2R loc nm B8_4 B8_3 B8_2 L9 α 999 = row (B8_4) 30 #[.nilIface, .int .i32 0] := by
        show rlaw5l0xrs2T999 loc nm B8_4 B8_3 B8_2 L9 α = _
        unfold rlaw5l0xrs2T999
        rw [if_neg (by rw [hL]; decide)]
      have hr := hG.rowAt 999 (act_base 999 rfl) e0
      have c0 : u9.cell? ⟨B8_4, 0, none⟩ = some (.nilIface) := hr.cell rfl
      have y0 : u9.frozen? ⟨B8_4, 0, none⟩ = false := hr.free 0
      have c1 : u9.cell? ⟨B8_4, 1, none⟩ = some (.int .i32 0) := hr.cell rfl
      have y1 : u9.frozen? ⟨B8_4, 1, none⟩ = false := hr.free 1
      clear hr
      have E0 := Lib.hid e0
      clear e0
      go_simp
      have e1 : rlaw5l0xrs2R loc nm B8_4 B8_3 B8_2 (Rega.ran L9 6) α 999 = row (B8_4) 30 #[.iface 209 (.pointer (some ⟨α 5, 0, none⟩)), .int .i32 loc] := by
        show rlaw5l0xrs2T999 loc nm B8_4 B8_3 B8_2 (Rega.ran L9 6) α = _
        unfold rlaw5l0xrs2T999
        rw [if_pos (show Rega.ran L9 6 6 = true from rfl)]
      exact hK _ α _ (fun _ _ => rfl) rfl (step_sets (st9) hL hcl rfl 999 rfl (act_base 999 rfl) E0.out 0 [.iface 209 (.pointer (some ⟨α 5, 0, none⟩)), .int .i32 loc] (e1.trans rfl) hG)
  · clear st9
    intro α u hG
    have e0 : rlaw5l0xrs2R loc nm B8_4 B8_3 B8_2 (fun k => decide (k < 7)) α 999 = row (B8_4) 30 #[.iface 209 (.pointer (some ⟨α 5, 0, none⟩)), .int .i32 loc] := by
      show rlaw5l0xrs2T999 loc nm B8_4 B8_3 B8_2 (fun k => decide (k < 7)) α = _
      unfold rlaw5l0xrs2T999
      rw [if_pos (by decide)]
    have e1 : rlaw5l0xrs2R loc nm B8_4 B8_3 B8_2 (fun k => decide (k < 7)) α 1999 = row (B8_3) 30 #[.iface 244 (.pointer (some ⟨B8_2, 0, none⟩)), .int .i32 loc] := rfl
    have e2 : rlaw5l0xrs2R loc nm B8_4 B8_3 B8_2 (fun k => decide (k < 7)) α 4 = row (α 4) 214 #[.slice (some ⟨α 1004, 0, none⟩) (α 2004) (α 3004), .int .i32 0, .bool false, .bool false, .bool false] := rfl
    have e3 : rlaw5l0xrs2R loc nm B8_4 B8_3 B8_2 (fun k => decide (k < 7)) α 5 = row (α 5) 211 #[(.iface 244 (.pointer (some ⟨B8_2, 0, none⟩))), .int .i32 loc, (.iface 50 (.pointer (some ⟨α 4, 0, none⟩))), .int .i32 loc, .int .i32 0, .int .u8 0, .bool false, .bool false, .bool false] := rfl
    have hO : Own w0 u [row (B8_4) 30 #[.iface 209 (.pointer (some ⟨α 5, 0, none⟩)), .int .i32 loc], row (B8_3) 30 #[.iface 244 (.pointer (some ⟨B8_2, 0, none⟩)), .int .i32 loc], row (α 4) 214 #[.slice (some ⟨α 1004, 0, none⟩) (α 2004) (α 3004), .int .i32 0, .bool false, .bool false, .bool false], row (α 5) 211 #[(.iface 244 (.pointer (some ⟨B8_2, 0, none⟩))), .int .i32 loc, (.iface 50 (.pointer (some ⟨α 4, 0, none⟩))), .int .i32 loc, .int .i32 0, .int .u8 0, .bool false, .bool false, .bool false]] X9_10 := (hG.list [999, 1999, 4, 5] (by decide) (act_all (by decide))).conv (by
      show [rlaw5l0xrs2R loc nm B8_4 B8_3 B8_2 (fun k => decide (k < 7)) α 999, rlaw5l0xrs2R loc nm B8_4 B8_3 B8_2 (fun k => decide (k < 7)) α 1999, rlaw5l0xrs2R loc nm B8_4 B8_3 B8_2 (fun k => decide (k < 7)) α 4, rlaw5l0xrs2R loc nm B8_4 B8_3 B8_2 (fun k => decide (k < 7)) α 5] = _
      rw [e0, e1, e2, e3])
    clear hG e0 e1 e2 e3
    generalize hfr : Rega.frameAt _ _ _ _ _ = fr
    have hdf : fr = ⟨#[.bool true, .bool true, .bool true, .int .u8 kd, .bool true, .int .i32 loc, .string nm, undef, undef, undef, undef, undef, undef, undef, .bool false, .pointer (some ⟨nd2, 0, none⟩), .pointer (some ⟨B8_3, 0, none⟩), .pointer (some ⟨B8_4, 0, none⟩), undef, undef, undef, .bool true, .bool true, .bool true, .int .u8 kd, .bool true, .int .i32 loc, .string nm, .bool true, .bool false, .string nm, .int .i64 (nm.size : Int), .bool (decide (65536 < (nm.size : Int))), .bool true, .bool true, .bool true, .pointer (some ⟨nd2, 0, none⟩), .int .u8 kd, .int .i32 loc, .agg #[.iface 244 (.pointer (some ⟨B8_2, 0, none⟩)), .int .i32 loc], .bool true, .int .i32 loc, .agg #[.iface 244 (.pointer (some ⟨B8_2, 0, none⟩)), .int .i32 loc], .int .i32 loc, .string nm, .agg #[.iface 50 (.pointer (some ⟨α 4, 0, none⟩)), .int .i32 loc], .agg #[.iface 209 (.pointer (some ⟨α 5, 0, none⟩)), .int .i32 loc], undef, undef, undef, undef, undef, undef, undef, undef, undef, undef, undef, undef, undef, undef, undef, undef, undef], []⟩ := by rw [← hfr]; kernel_rfl
    clear hfr
    subst hdf
    generalize α 4 = nd11 at hO ⊢
    generalize α 5 = nd12 at hO ⊢
    generalize α 1004 = nd13 at hO ⊢
    generalize α 2004 = nd14 at hO ⊢
    generalize α 3004 = nd15 at hO ⊢
    clear α
    subst hX9_10
    have hN : Own w0 u [row (B8_4) 30 #[.iface 209 (.pointer (some ⟨nd12, 0, none⟩)), .int .i32 loc], row (B8_3) 30 #[.iface 244 (.pointer (some ⟨B8_2, 0, none⟩)), .int .i32 loc], row (nd11) 214 #[.slice (some ⟨nd13, 0, none⟩) (nd14) (nd15), .int .i32 0, .bool false, .bool false, .bool false], row (nd12) 211 #[(.iface 244 (.pointer (some ⟨B8_2, 0, none⟩))), .int .i32 loc, (.iface 50 (.pointer (some ⟨nd11, 0, none⟩))), .int .i32 loc, .int .i32 0, .int .u8 0, .bool false, .bool false, .bool false], row (B8_2) 246 #[], row (B8_1) 30 #[.iface 244 (.pointer (some ⟨B8_2, 0, none⟩)), .int .i32 loc], row (B8) 30 #[.iface 244 (.pointer (some ⟨B8_2, 0, none⟩)), .int .i32 loc], row (nd2) 206 nd5, (nd3, .map map3 3), row (nd4) 68 #[.int .u32 0, .int .u32 1]] X := hO.back HL.out HX.out [2, 3, 4, 5, 6, 7] (by decide) (by decide)
    clear hO HL HX
    have hO := hN
    clear hN
    obtain ⟨c9_0_0, c9_0_1, lt9_0, y9_0, -⟩ := hO.k2 0 rfl
    obtain ⟨c9_1_0, c9_1_1, lt9_1, y9_1, -⟩ := hO.k2 1 rfl
    obtain ⟨c9_2_0, c9_2_1, c9_2_2, c9_2_3, c9_2_4, lt9_2, y9_2, -⟩ := hO.k5 2 rfl
    obtain ⟨c9_3_0, c9_3_1, c9_3_2, c9_3_3, c9_3_4, c9_3_5, c9_3_6, c9_3_7, c9_3_8, lt9_3, y9_3, -⟩ := hO.k9 3 rfl
    obtain ⟨lt9_4, y9_4, -⟩ := hO.k0 4 rfl
    obtain ⟨c9_5_0, c9_5_1, lt9_5, y9_5, -⟩ := hO.k2 5 rfl
    obtain ⟨c9_6_0, c9_6_1, lt9_6, y9_6, -⟩ := hO.k2 6 rfl
    obtain ⟨c9_9_0, c9_9_1, lt9_9, y9_9, -⟩ := hO.k2 9 rfl
    have HO := Lib.hid hO
    clear hO
    go_wp2_with (first | (go_at_call 34; go_in) | (go_at_call 30; go_in) | (go_at_call 31; go_in) | (go_at_call 32; go_in) | (go_at_call 12; go_in) | (go_at_call 10; go_in) | (go_at_call 9; go_in) | (go_at_call 7; go_in))
    have hO := HO.out
    clear HO c9_0_0 c9_0_1 lt9_0 y9_0 c9_1_0 c9_1_1 lt9_1 y9_1 c9_2_0 c9_2_1 c9_2_2 c9_2_3 c9_2_4 lt9_2 y9_2 c9_3_0 c9_3_1 c9_3_2 c9_3_3 c9_3_4 c9_3_5 c9_3_6 c9_3_7 c9_3_8 lt9_3 y9_3 lt9_4 y9_4 c9_5_0 c9_5_1 lt9_5 y9_5 c9_6_0 c9_6_1 lt9_6 y9_6 c9_9_0 c9_9_1 lt9_9 y9_9
    have hL := hO.apart
    have hX := hO.apartX
    have HL := Lib.hid hL
    have HX := Lib.hid hX
    clear hL hX
    have hP9 := hO.pick [7] (by decide)
    have T9 := shlYes nd2 nd5 nd3 nd4 true true loc B8_2 _ _ _ hP9 pr6 pr7
    refine Calls.mono T9 ?_
    clear hP9 T9
    rintro e u16 ⟨rfl, hQ⟩
    have hN : Own w0 u16 [row (nd2) 206 nd5, row (B8_4) 30 #[.iface 209 (.pointer (some ⟨nd12, 0, none⟩)), .int .i32 loc], row (B8_3) 30 #[.iface 244 (.pointer (some ⟨B8_2, 0, none⟩)), .int .i32 loc], row (nd11) 214 #[.slice (some ⟨nd13, 0, none⟩) (nd14) (nd15), .int .i32 0, .bool false, .bool false, .bool false], row (nd12) 211 #[(.iface 244 (.pointer (some ⟨B8_2, 0, none⟩))), .int .i32 loc, (.iface 50 (.pointer (some ⟨nd11, 0, none⟩))), .int .i32 loc, .int .i32 0, .int .u8 0, .bool false, .bool false, .bool false], row (B8_2) 246 #[], row (B8_1) 30 #[.iface 244 (.pointer (some ⟨B8_2, 0, none⟩)), .int .i32 loc], row (B8) 30 #[.iface 244 (.pointer (some ⟨B8_2, 0, none⟩)), .int .i32 loc], (nd3, .map map3 3), row (nd4) 68 #[.int .u32 0, .int .u32 1]] X := hQ.back HL.out HX.out [0, 1, 2, 3, 4, 5, 6, 8, 9] (by decide) (by decide)
    clear hQ HL HX hO
    have hO := hN
    clear hN
    obtain ⟨c9_1_0, c9_1_1, lt9_1, y9_1, -⟩ := hO.k2 1 rfl
    obtain ⟨c9_2_0, c9_2_1, lt9_2, y9_2, -⟩ := hO.k2 2 rfl
    obtain ⟨c9_3_0, c9_3_1, c9_3_2, c9_3_3, c9_3_4, lt9_3, y9_3, -⟩ := hO.k5 3 rfl
    obtain ⟨c9_4_0, c9_4_1, c9_4_2, c9_4_3, c9_4_4, c9_4_5, c9_4_6, c9_4_7, c9_4_8, lt9_4, y9_4, -⟩ := hO.k9 4 rfl
    obtain ⟨lt9_5, y9_5, -⟩ := hO.k0 5 rfl
    obtain ⟨c9_6_0, c9_6_1, lt9_6, y9_6, -⟩ := hO.k2 6 rfl
    obtain ⟨c9_7_0, c9_7_1, lt9_7, y9_7, -⟩ := hO.k2 7 rfl
    obtain ⟨c9_9_0, c9_9_1, lt9_9, y9_9, -⟩ := hO.k2 9 rfl
    have HO := Lib.hid hO
    clear hO
    go_wp2_with (first | (go_at_call 34; go_in) | (go_at_call 30; go_in) | (go_at_call 31; go_in) | (go_at_call 32; go_in) | (go_at_call 12; go_in) | (go_at_call 10; go_in) | (go_at_call 9; go_in) | (go_at_call 7; go_in))
    have hO := HO.out
    clear HO c9_1_0 c9_1_1 lt9_1 y9_1 c9_2_0 c9_2_1 lt9_2 y9_2 c9_3_0 c9_3_1 c9_3_2 c9_3_3 c9_3_4 lt9_3 y9_3 c9_4_0 c9_4_1 c9_4_2 c9_4_3 c9_4_4 c9_4_5 c9_4_6 c9_4_7 c9_4_8 lt9_4 y9_4 lt9_5 y9_5 c9_6_0 c9_6_1 lt9_6 y9_6 c9_7_0 c9_7_1 lt9_7 y9_7 c9_9_0 c9_9_1 lt9_9 y9_9
    have hL := hO.apart
    have hX := hO.apartX
    have HL := Lib.hid hL
    have HX := Lib.hid hX
    clear hL hX
    have hP9 := hO.pick [0, 8, 9, 4] (by decide)
    have T9 := dasgXyrs nd2 nd5 nd3 nd4 nd12 loc B8_2 nd11 _ _ _ hP9 pr6 pr7
    refine Calls.mono T9 ?_
    clear hP9 T9
    rintro e u17 ⟨nd18, rfl, hQ⟩
    have hN : Own w0 u17 [row (nd2) 206 nd5, (nd3, .map map3 3), row (nd4) 68 #[.int .u32 0, .int .u32 1], row (B8_4) 30 #[.iface 209 (.pointer (some ⟨nd12, 0, none⟩)), .int .i32 loc], row (B8_3) 30 #[.iface 244 (.pointer (some ⟨B8_2, 0, none⟩)), .int .i32 loc], row (nd11) 214 #[.slice (some ⟨nd13, 0, none⟩) (nd14) (nd15), .int .i32 0, .bool false, .bool false, .bool false], row (B8_2) 246 #[], row (B8_1) 30 #[.iface 244 (.pointer (some ⟨B8_2, 0, none⟩)), .int .i32 loc], row (B8) 30 #[.iface 244 (.pointer (some ⟨B8_2, 0, none⟩)), .int .i32 loc]] X := hQ.back HL.out HX.out [1, 2, 3, 5, 6, 7] (by decide) (by decide)
    clear hQ HL HX hO
    have hO := hN
    clear hN
    obtain ⟨c9_2_0, c9_2_1, lt9_2, y9_2, -⟩ := hO.k2 2 rfl
    obtain ⟨c9_3_0, c9_3_1, lt9_3, y9_3, -⟩ := hO.k2 3 rfl
    obtain ⟨c9_4_0, c9_4_1, lt9_4, y9_4, -⟩ := hO.k2 4 rfl
    obtain ⟨c9_5_0, c9_5_1, c9_5_2, c9_5_3, c9_5_4, lt9_5, y9_5, -⟩ := hO.k5 5 rfl
    obtain ⟨lt9_6, y9_6, -⟩ := hO.k0 6 rfl
    obtain ⟨c9_7_0, c9_7_1, lt9_7, y9_7, -⟩ := hO.k2 7 rfl
    obtain ⟨c9_8_0, c9_8_1, lt9_8, y9_8, -⟩ := hO.k2 8 rfl
    have HO := Lib.hid hO
    clear hO
    go_wp2_with (first | (go_at_call 34; go_in) | (go_at_call 30; go_in) | (go_at_call 31; go_in) | (go_at_call 32; go_in) | (go_at_call 12; go_in) | (go_at_call 10; go_in) | (go_at_call 9; go_in) | (go_at_call 7; go_in))
    have hO := HO.out
    clear HO c9_2_0 c9_2_1 lt9_2 y9_2 c9_3_0 c9_3_1 lt9_3 y9_3 c9_4_0 c9_4_1 lt9_4 y9_4 c9_5_0 c9_5_1 c9_5_2 c9_5_3 c9_5_4 lt9_5 y9_5 lt9_6 y9_6 c9_7_0 c9_7_1 lt9_7 y9_7 c9_8_0 c9_8_1 lt9_8 y9_8
    generalize hW : World.alloc _ _ = W20
    have hN : Own w0 W20 [row (u17.heap.size) 30 #[.iface 40 (.pointer (some ⟨nd18, 0, none⟩)), .int .i32 loc], row (nd2) 206 nd5, (nd3, .map map3 3), row (nd4) 68 #[.int .u32 0, .int .u32 1], row (B8_4) 30 #[.iface 209 (.pointer (some ⟨nd12, 0, none⟩)), .int .i32 loc], row (B8_3) 30 #[.iface 244 (.pointer (some ⟨B8_2, 0, none⟩)), .int .i32 loc], row (nd11) 214 #[.slice (some ⟨nd13, 0, none⟩) (nd14) (nd15), .int .i32 0, .bool false, .bool false, .bool false], row (B8_2) 246 #[], row (B8_1) 30 #[.iface 244 (.pointer (some ⟨B8_2, 0, none⟩)), .int .i32 loc], row (B8) 30 #[.iface 244 (.pointer (some ⟨B8_2, 0, none⟩)), .int .i32 loc]] X := by
      rw [← hW]
      exact (hO).alloc' _ (u17.heap.size) (by simp)
    clear hW hO
    generalize u17.heap.size = B19 at hN ⊢
    have hO := hN
    clear hN
    refine bodyPost_ret (v := .bool true) ?_ rfl ⟨rfl, hO.sub [] (by decide)⟩
    simp [results, Tryd.results3, go_sem]
end Go.Proofs.YtcbdjbjbikiaeaaDoor.Use
