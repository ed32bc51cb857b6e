/- Row 33: no items. No condition. -/
import Derived.Test.YtdbnnpoffpipjaaL33p
import Derived.Test.YtdbnnpoffpipjaaL33h
import Derived.Test.YtdbnnpoffpipjaaCuz
import Derived.Test.YtdbnnpoffpipjaaBsf
import Derived.Test.YtdbnnpoffpipjaaFlc
import Derived.Test.YtdbnnpoffpipjaaLp
import Derived.Test.YtdbnnpoffpipjaaCu
import Derived.Test.YtdbnnpoffpipjaaLf
import Derived.Test.YtdbnnpoffpipjaaIr
import Derived.Test.YtdbnnpoffpipjaaDr
import Derived.Test.YtdbnnpoffpipjaaLv
import Derived.Test.YtdbnnpoffpipjaaFlb
import Derived.Test.YtdbnnpoffpipjaaFin
import Derived.Test.YtdbnnpoffpipjaaFll
import Derived.Test.YtdbnnpoffpipjaaRdr
import Derived.Test.YtdbnnpoffpipjaaFfl
import Derived.Test.YtdbnnpoffpipjaaFfr
import Derived.Test.YtdbnnpoffpipjaaFnb
import Derived.Test.YtdbnnpoffpipjaaFp
import Derived.Test.YtdbnnpoffpipjaaFd
import Derived.Test.YtdbnnpoffpipjaaFn1
import Derived.Test.YtdbnnpoffpipjaaFf1
import Derived.Test.YtdbnnpoffpipjaaJn
import Derived.Test.YtdbnnpoffpipjaaTre
import Derived.Test.YtdbnnpoffpipjaaLoop
import Derived.Test.YtdbnnpoffpipjaaAppL
import Derived.Test.YtdbnnpoffpipjaaApp
import Derived.Test.YtdbnnpoffpipjaaOwnK
import Derived.Test.YtdbnnpoffpipjaaOwn
import Derived.Test.YtdbnnpoffpipjaaDeepCells
import Derived.Test.YtdbnnpoffpipjaaRows
namespace Go.Proofs.Ytdbnnpoffpipjaa.Use
open Go.ChangeShapes Go.WideShapes Go.ChangeAt Go.RowKit Go.Sort Own
set_option linter.unusedVariables false

set_option maxRecDepth 100000 in
set_option maxHeartbeats 4000000 in
theorem tl33z (ia : Option Addr) (src inn : Int) (spv tz4 tz5 tz6 tz7 tz8 tz9 tz10 tz11 tz12 tz13 tz14 tz15 tz16 tz17 tz18 tz19 tz20 tz21 tz22 tz23 tz24 tz25 tz26 tz27 tz28 tz29 tz30 tz31 tz32 tz33 tz34 tz35 tz36 tz37 tz38 tz39 tz40 tz41 tz42 tz43 tz44 tz45 tz46 tz47 tz48 tz49 tz50 tz51 tz52 tz53 tz54 tz55 tz56 tz57 tz58 tz59 tz60 tz61 tz62 tz63 tz64 tz65 tz66 tz67 tz68 tz69 tz70 tz71 tz72 tz73 tz74 tz75 tz76 tz77 tz78 tz79 tz80 tz81 tz82 tz83 tz84 tz85 tz86 tz87 tz88 tz89 tz90 tz91 tz92 tz93 tz94 tz95 tz96 tz97 tz98 tz99 tz100 tz101 tz102 tz103 tz104 tz105 tz106 tz107 tz108 tz109 tz110 tz111 tz112 tz113 tz114 tz115 tz116 tz117 tz118 tz119 tz120 tz121 tz122 tz123 tz124 tz125 tz126 tz127 tz128 tz129 tz130 tz131 tz132 tz133 tz134 tz135 tz136 tz137 tz138 tz139 tz140 tz141 tz142 tz143 tz144 tz145 tz146 tz147 tz148 tz149 tz150 tz151 tz152 tz153 tz154 tz155 tz156 tz157 tz158 tz159 tz160 tz161 tz162 tz163 tz164 tz165 tz166 tz167 tz168 : Value) (w0 w : World) (X : Nat → Obj → Prop) (hO : Own w0 w [] X)  :
    Code.wp Try.prog rest33 (bodyPost Try.prog Try.f4 (l32Post w0 X)) ⟨#[.slice ia 0 0, spv, .int .u32 src, .int .u32 inn, tz4, tz5, tz6, tz7, tz8, tz9, tz10, tz11, tz12, tz13, tz14, tz15, tz16, tz17, tz18, tz19, tz20, tz21, tz22, tz23, tz24, tz25, tz26, tz27, tz28, tz29, tz30, tz31, tz32, tz33, tz34, tz35, tz36, tz37, tz38, tz39, tz40, tz41, tz42, tz43, tz44, tz45, tz46, tz47, tz48, tz49, tz50, tz51, tz52, tz53, tz54, tz55, tz56, tz57, tz58, tz59, tz60, tz61, tz62, tz63, tz64, tz65, tz66, tz67, tz68, tz69, tz70, tz71, tz72, tz73, tz74, tz75, tz76, tz77, tz78, tz79, tz80, tz81, tz82, tz83, tz84, tz85, tz86, tz87, tz88, tz89, tz90, tz91, tz92, tz93, tz94, tz95, tz96, tz97, tz98, tz99, tz100, tz101, tz102, tz103, tz104, tz105, tz106, tz107, tz108, tz109, tz110, tz111, tz112, tz113, tz114, tz115, tz116, tz117, tz118, tz119, tz120, tz121, tz122, tz123, tz124, tz125, tz126, tz127, tz128, tz129, tz130, tz131, tz132, tz133, tz134, tz135, tz136, tz137, tz138, tz139, tz140, tz141, tz142, tz143, tz144, tz145, tz146, tz147, tz148, tz149, tz150, tz151, tz152, tz153, tz154, tz155, tz156, tz157, tz158, tz159, tz160, tz161, tz162, tz163, tz164, tz165, tz166, tz167, tz168], []⟩ w := by
  simp only [rest33, Try.f4, Option.getD_some, cutC]
  have hme := makeExprs0
  have hmp := makePtrs0
  go_wp2_with (first | (with_reducible refine Own.stay (fn := Try.f4) ?_) | fail)
  try with_reducible refine Own.Stay.mk ?_
  generalize hW : World.alloc _ _ = W2
  have hN : Own w0 W2 [row (w.heap.size + 1 + 1 + 1) 36 (full ptrZ [] 0), row (w.heap.size + 1 + 1) 35 (full exprZ [] 0), row (w.heap.size + 1) 27 #[.int .u32 src, .int .u32 (bits BinOp.xor .u32 inn 1)], row (w.heap.size) 27 #[.int .u32 src, .int .u32 inn]] X := by
    rw [← hW]
    exact ((((hO).alloc' _ (w.heap.size) (by simp)).alloc' _ (w.heap.size + 1) (by simp)).alloc' _ (w.heap.size + 1 + 1) (by simp)).alloc' _ (w.heap.size + 1 + 1 + 1) (by simp)
  clear hW hO
  generalize w.heap.size + 1 + 1 + 1 = B1_3 at hN ⊢
  generalize w.heap.size + 1 + 1 = B1_2 at hN ⊢
  generalize w.heap.size + 1 = B1_1 at hN ⊢
  generalize w.heap.size = B1 at hN ⊢
  have hO := hN
  clear hN
  go_loopg [14, 15] 1 (fun gf s14 s15 wx => s14 = .slice none 0 0 ∧ s15 = .int .i64 0 ∧ Own w0 wx [row (B1_3) 36 (full ptrZ [] 0), row (B1_2) 35 (full exprZ [] 0), row (B1_1) 27 #[.int .u32 src, .int .u32 (bits BinOp.xor .u32 inn 1)], row (B1) 27 #[.int .u32 src, .int .u32 inn]] X)
  case atStart => exact ⟨rfl, rfl, hO⟩
  obtain ⟨rfl, rfl, hO⟩ := hrel
  obtain ⟨c9_2_0, c9_2_1, lt9_2, y9_2, -⟩ := hO.k2 2 rfl
  obtain ⟨c9_3_0, c9_3_1, lt9_3, y9_3, -⟩ := hO.k2 3 rfl
  have HO := Lib.hid hO
  clear hO
  go_wp2_with (first | (with_reducible refine Own.stay (fn := Try.f4) ?_) | fail)
  try with_reducible refine Own.Stay.mk ?_
  have hO := HO.out
  clear HO c9_2_0 c9_2_1 lt9_2 y9_2 c9_3_0 c9_3_1 lt9_3 y9_3
  generalize hW : World.alloc _ _ = W4
  have hN : Own w0 W4 [row (wr.heap.size) 35 #[.nilIface, .int .i32 0], row (B1_3) 36 (full ptrZ [] 0), row (B1_2) 35 (full exprZ [] 0), row (B1_1) 27 #[.int .u32 src, .int .u32 (bits BinOp.xor .u32 inn 1)], row (B1) 27 #[.int .u32 src, .int .u32 inn]] X := by
    rw [← hW]
    exact (hO).alloc' _ (wr.heap.size) (by simp)
  clear hW hO
  generalize wr.heap.size = B3 at hN ⊢
  have hO := hN
  clear hN
  go_loopg [19, 20, 21] 1 (fun gf s19 s20 s21 wx => s19 = .int .i64 0 ∧ s20 = .int .i64 (-1) ∧ s21 = .int .i64 0 ∧ Own w0 wx [row (B3) 35 #[.nilIface, .int .i32 0], row (B1_3) 36 (full ptrZ [] 0), row (B1_2) 35 (full exprZ [] 0), row (B1_1) 27 #[.int .u32 src, .int .u32 (bits BinOp.xor .u32 inn 1)], row (B1) 27 #[.int .u32 src, .int .u32 inn]] X)
  case atStart => exact ⟨rfl, rfl, rfl, hO⟩
  obtain ⟨rfl, rfl, rfl, hO⟩ := hrel
  obtain ⟨c9_0_0, c9_0_1, lt9_0, y9_0, -⟩ := hO.k2 0 rfl
  obtain ⟨c9_3_0, c9_3_1, lt9_3, y9_3, -⟩ := hO.k2 3 rfl
  obtain ⟨c9_4_0, c9_4_1, lt9_4, y9_4, -⟩ := hO.k2 4 rfl
  have HO := Lib.hid hO
  clear hO
  go_wp2_with (first | (with_reducible refine Own.stay (fn := Try.f4) ?_) | fail)
  try with_reducible refine Own.Stay.mk ?_
  have hO := HO.out
  clear HO c9_0_0 c9_0_1 lt9_0 y9_0 c9_3_0 c9_3_1 lt9_3 y9_3 c9_4_0 c9_4_1 lt9_4 y9_4
  have hL := hO.apart
  have hX := hO.apartX
  have HL := Lib.hid hL
  have HX := Lib.hid hX
  clear hL hX
  have hP9 := hO.pick [] (by decide)
  have T9 := doorNil 0 src inn _ _ _ hP9 
  refine Calls.mono T9 ?_
  clear hP9 T9
  rintro e uw5 ⟨rfl, hQ⟩
  have hN : Own w0 uw5 [row (B3) 35 #[.nilIface, .int .i32 0], row (B1_3) 36 (full ptrZ [] 0), row (B1_2) 35 (full exprZ [] 0), row (B1_1) 27 #[.int .u32 src, .int .u32 (bits BinOp.xor .u32 inn 1)], row (B1) 27 #[.int .u32 src, .int .u32 inn]] X := hQ.back HL.out HX.out [0, 1, 2, 3, 4] (by decide) (by decide)
  clear hQ HL HX hO
  have hO := hN
  clear hN
  try simp only []
  obtain ⟨c9_0_0, c9_0_1, lt9_0, y9_0, -⟩ := hO.k2 0 rfl
  obtain ⟨c9_3_0, c9_3_1, lt9_3, y9_3, -⟩ := hO.k2 3 rfl
  obtain ⟨c9_4_0, c9_4_1, lt9_4, y9_4, -⟩ := hO.k2 4 rfl
  have HO := Lib.hid hO
  clear hO
  go_wp2_with (first | (with_reducible refine Own.stay (fn := Try.f4) ?_) | fail)
  try with_reducible refine Own.Stay.mk ?_
  have hO := HO.out
  clear HO c9_0_0 c9_0_1 lt9_0 y9_0 c9_3_0 c9_3_1 lt9_3 y9_3 c9_4_0 c9_4_1 lt9_4 y9_4
  generalize hW : World.alloc _ _ = W7
  have hN : Own w0 W7 [row (uw5.heap.size + 1 + 1) 35 #[.nilIface, .int .i32 0], row (uw5.heap.size + 1) 33 #[.int .i32 0], row (uw5.heap.size) 35 #[.nilIface, .int .i32 0], row (B3) 35 #[.nilIface, .int .i32 0], row (B1_3) 36 (full ptrZ [] 0), row (B1_2) 35 (full exprZ [] 0), row (B1_1) 27 #[.int .u32 src, .int .u32 (bits BinOp.xor .u32 inn 1)], row (B1) 27 #[.int .u32 src, .int .u32 inn]] X := by
    rw [← hW]
    exact (((hO).alloc' _ (uw5.heap.size) (by simp)).alloc' _ (uw5.heap.size + 1) (by simp)).alloc' _ (uw5.heap.size + 1 + 1) (by simp)
  clear hW hO
  generalize uw5.heap.size + 1 + 1 = B6_2 at hN ⊢
  generalize uw5.heap.size + 1 = B6_1 at hN ⊢
  generalize uw5.heap.size = B6 at hN ⊢
  have hO := hN
  clear hN
  have hL := hO.apart
  have hX := hO.apartX
  have HL := Lib.hid hL
  have HX := Lib.hid hX
  clear hL hX
  have hP9 := hO.pick [] (by decide)
  have T9 := flatNil 0 _ _ _ hP9 
  refine Calls.mono T9 ?_
  clear hP9 T9
  rintro e uw8 ⟨rfl, hQ⟩
  have hN : Own w0 uw8 [row (B6_2) 35 #[.nilIface, .int .i32 0], row (B6_1) 33 #[.int .i32 0], row (B6) 35 #[.nilIface, .int .i32 0], row (B3) 35 #[.nilIface, .int .i32 0], row (B1_3) 36 (full ptrZ [] 0), row (B1_2) 35 (full exprZ [] 0), row (B1_1) 27 #[.int .u32 src, .int .u32 (bits BinOp.xor .u32 inn 1)], row (B1) 27 #[.int .u32 src, .int .u32 inn]] X := hQ.back HL.out HX.out [0, 1, 2, 3, 4, 5, 6, 7] (by decide) (by decide)
  clear hQ HL HX hO
  have hO := hN
  clear hN
  try simp only []
  obtain ⟨c9_0_0, c9_0_1, lt9_0, y9_0, -⟩ := hO.k2 0 rfl
  obtain ⟨c9_1_0, lt9_1, y9_1, -⟩ := hO.k1 1 rfl
  obtain ⟨c9_2_0, c9_2_1, lt9_2, y9_2, -⟩ := hO.k2 2 rfl
  obtain ⟨c9_3_0, c9_3_1, lt9_3, y9_3, -⟩ := hO.k2 3 rfl
  obtain ⟨c9_6_0, c9_6_1, lt9_6, y9_6, -⟩ := hO.k2 6 rfl
  obtain ⟨c9_7_0, c9_7_1, lt9_7, y9_7, -⟩ := hO.k2 7 rfl
  have HO := Lib.hid hO
  clear hO
  go_wp2_with (first | (with_reducible refine Own.stay (fn := Try.f4) ?_) | fail)
  try with_reducible refine Own.Stay.mk ?_
  have hO := HO.out
  clear HO c9_0_0 c9_0_1 lt9_0 y9_0 c9_1_0 lt9_1 y9_1 c9_2_0 c9_2_1 lt9_2 y9_2 c9_3_0 c9_3_1 lt9_3 y9_3 c9_6_0 c9_6_1 lt9_6 y9_6 c9_7_0 c9_7_1 lt9_7 y9_7
  have hL := hO.apart
  have hX := hO.apartX
  have HL := Lib.hid hL
  have HX := Lib.hid hX
  clear hL hX
  have hP9 := hO.pick [] (by decide)
  have T9 := isRng0 0 _ _ _ hP9 (by decide) (by decide)
  refine Calls.mono T9 ?_
  clear hP9 T9
  rintro e uw9 ⟨rfl, hQ⟩
  have hN : Own w0 uw9 [row (B6_2) 35 #[.nilIface, .int .i32 0], row (B6_1) 33 #[.int .i32 0], row (B6) 35 #[.nilIface, .int .i32 0], row (B3) 35 #[.nilIface, .int .i32 0], row (B1_3) 36 (full ptrZ [] 0), row (B1_2) 35 (full exprZ [] 0), row (B1_1) 27 #[.int .u32 src, .int .u32 (bits BinOp.xor .u32 inn 1)], row (B1) 27 #[.int .u32 src, .int .u32 inn]] X := hQ.back HL.out HX.out [0, 1, 2, 3, 4, 5, 6, 7] (by decide) (by decide)
  clear hQ HL HX hO
  have hO := hN
  clear hN
  try simp only []
  obtain ⟨c9_0_0, c9_0_1, lt9_0, y9_0, -⟩ := hO.k2 0 rfl
  obtain ⟨c9_1_0, lt9_1, y9_1, -⟩ := hO.k1 1 rfl
  obtain ⟨c9_2_0, c9_2_1, lt9_2, y9_2, -⟩ := hO.k2 2 rfl
  obtain ⟨c9_3_0, c9_3_1, lt9_3, y9_3, -⟩ := hO.k2 3 rfl
  obtain ⟨c9_6_0, c9_6_1, lt9_6, y9_6, -⟩ := hO.k2 6 rfl
  obtain ⟨c9_7_0, c9_7_1, lt9_7, y9_7, -⟩ := hO.k2 7 rfl
  have HO := Lib.hid hO
  clear hO
  go_wp2_with (first | (with_reducible refine Own.stay (fn := Try.f4) ?_) | fail)
  try with_reducible refine Own.Stay.mk ?_
  have hO := HO.out
  clear HO c9_0_0 c9_0_1 lt9_0 y9_0 c9_1_0 lt9_1 y9_1 c9_2_0 c9_2_1 lt9_2 y9_2 c9_3_0 c9_3_1 lt9_3 y9_3 c9_6_0 c9_6_1 lt9_6 y9_6 c9_7_0 c9_7_1 lt9_7 y9_7
  have hO : Below w0.heap.size w0 uw9 := hO.below
  refine bodyPost_ret (v := .bool true) ?_ rfl ⟨rfl, hO⟩
  simp [results, go_sem]
end Go.Proofs.Ytdbnnpoffpipjaa.Use
