/- The law on top-level temporaries, walked: one of its cases. No condition. -/
import Derived.Test.YtkmojepgbbdeiaaDoorRd2
import Derived.Test.YtkmojepgbbdeiaaDoorTop
import Derived.Test.YtkmojepgbbdeiaaDoorSt
import Derived.Test.YtkmojepgbbdeiaaDoorLoop
import Derived.Test.YtkmojepgbbdeiaaDoorNewP
import Derived.Test.YtkmojepgbbdeiaaDoorMini
import Derived.Test.YtkmojepgbbdeiaaDoorAppL
import Derived.Test.YtkmojepgbbdeiaaDoorApp
import Derived.Test.YtkmojepgbbdeiaaDoorOwnK
import Derived.Test.YtkmojepgbbdeiaaDoorOwn
import Derived.Test.YtkmojepgbbdeiaaDoorDeepCells
import Derived.Test.YtkmojepgbbdeiaaDoorRows
import Derived.Test.YtkmojepgbbdeiaaDoorLive
namespace Go.Proofs.YtkmojepgbbdeiaaDoor.Use
open Go.ChangeShapes Go.WideShapes Go.ChangeAt Go.RowKit Go.Sort Own
set_option linter.unusedVariables false
def law7T0Post (src : Int) (n : Nat) (w0 : World) (X : Nat → Obj → Prop) (e : Ending) (w' : World) : Prop :=
  e = .returned (.bool true) ∧ Own w0 w' [] X
set_option maxRecDepth 100000 in
set_option maxHeartbeats 1000000 in
theorem law7T0 (src : Int) (n : Nat) (w0 w : World) (X : Nat → Obj → Prop) (hO : Own w0 w [] X) (hn4 : n ≤ 65536) (hg0 : w0.cell? ⟨0, 0, none⟩ = some (.int .u32 4294967295)) (hg1 : w0.cell? ⟨0, 1, none⟩ = some (.int .u32 4294967295)) :
    Calls Tryd.prog 3 #[.int .u32 src, .int .i64 0, .int .i64 (n : Int), .bool true] w (law7T0Post src n w0 X) := by
  go_enter Tryd.func3, Tryd.ntmps3
  have hn9 : (n : Int) ≤ 65536 := by omega
  have hn8 : (0 : Int) ≤ n := by omega
  have hn7 : IntKind.u32.wrap (n : Int) = (n : Int) := by rw [IntKind.wrap_u32]; omega
  go_wp2_with (first | (with_reducible refine Own.stay (fn := Tryd.f3) ?_) | fail)
  try with_reducible refine Own.Stay.mk ?_
  generalize hW : World.alloc _ _ = W2
  have hN : Own w0 W2 [row (w.heap.size + 1 + 1) 38 #[.pointer none, .pointer (some ⟨w.heap.size + 1, 0, none⟩), .slice none 0 0, .map none, .slice none 0 0, .slice none 0 0, .int .i32 0, .int .i32 0, .int .u32 0, .int .u32 0, .bool false, .bool false, .bool false, .bool false, .int .u8 0, .int .u8 0], row (w.heap.size + 1) 38 #[.pointer none, .pointer (some ⟨w.heap.size, 0, none⟩), .slice none 0 0, .map none, .slice none 0 0, .slice none 0 0, .int .i32 0, .int .i32 0, .int .u32 0, .int .u32 0, .bool false, .bool false, .bool false, .bool false, .int .u8 0, .int .u8 8], row (w.heap.size) 38 #[.pointer none, .pointer none, .slice none 0 0, .map none, .slice none 0 0, .slice none 0 0, .int .i32 0, .int .i32 0, .int .u32 0, .int .u32 0, .bool false, .bool false, .bool false, .bool false, .int .u8 0, .int .u8 6]] X := by
    rw [← hW]
    exact (((hO).alloc' _ (w.heap.size) (by simp)).alloc' _ (w.heap.size + 1) (by simp)).alloc' _ (w.heap.size + 1 + 1) (by simp)
  clear hW hO
  generalize w.heap.size + 1 + 1 = B1_2 at hN ⊢
  generalize w.heap.size + 1 = B1_1 at hN ⊢
  generalize w.heap.size = B1 at hN ⊢
  have hO := hN
  clear hN
  have hL := hO.apart
  have hX := hO.apartX
  have HL := Lib.hid hL
  have HX := Lib.hid hX
  clear hL hX
  have hP9 := hO.pick [] (by decide)
  have h9_hn5 : n ≤ 100000 := (by first | assumption | omega | (simp; done) | (simp; omega))
  have T9 := newPTO src n B1_2 B1 _ _ _ hP9 h9_hn5
  refine Calls.mono T9 ?_
  clear hP9 T9 h9_hn5
  rintro e uw3 ⟨nd4, nd5, nd6, rfl, hQ⟩
  have hN : Own w0 uw3 [row (nd4) 176 (newPT src n nd5 nd6 B1_2 B1), row (nd5) 183 (full symZ (symL (zSys n)) 0), row (nd6) 22 (full u32Z (zU n) 0), row (B1_2) 38 #[.pointer none, .pointer (some ⟨B1_1, 0, none⟩), .slice none 0 0, .map none, .slice none 0 0, .slice none 0 0, .int .i32 0, .int .i32 0, .int .u32 0, .int .u32 0, .bool false, .bool false, .bool false, .bool false, .int .u8 0, .int .u8 0], row (B1_1) 38 #[.pointer none, .pointer (some ⟨B1, 0, none⟩), .slice none 0 0, .map none, .slice none 0 0, .slice none 0 0, .int .i32 0, .int .i32 0, .int .u32 0, .int .u32 0, .bool false, .bool false, .bool false, .bool false, .int .u8 0, .int .u8 8], row (B1) 38 #[.pointer none, .pointer none, .slice none 0 0, .map none, .slice none 0 0, .slice none 0 0, .int .i32 0, .int .i32 0, .int .u32 0, .int .u32 0, .bool false, .bool false, .bool false, .bool false, .int .u8 0, .int .u8 6]] X := hQ.back HL.out HX.out [0, 1, 2] (by decide) (by decide)
  clear hQ HL HX hO
  have hO := hN
  clear hN
  have c9_3_5 : uw3.cell? ⟨B1_2, 5, none⟩ = some (.slice none 0 0) := hO.cell 3 rfl (5) rfl
  have lt9_3 : B1_2 < uw3.heap.size := hO.lt 3 rfl
  have y9_3 : ∀ o, uw3.frozen? ⟨B1_2, o, none⟩ = false := hO.free 3 rfl
  have c9_4_5 : uw3.cell? ⟨B1_1, 5, none⟩ = some (.slice none 0 0) := hO.cell 4 rfl (5) rfl
  have lt9_4 : B1_1 < uw3.heap.size := hO.lt 4 rfl
  have y9_4 : ∀ o, uw3.frozen? ⟨B1_1, o, none⟩ = false := hO.free 4 rfl
  have c9_5_5 : uw3.cell? ⟨B1, 5, none⟩ = some (.slice none 0 0) := hO.cell 5 rfl (5) rfl
  have lt9_5 : B1 < uw3.heap.size := hO.lt 5 rfl
  have y9_5 : ∀ o, uw3.frozen? ⟨B1, o, none⟩ = false := hO.free 5 rfl
  have HO := Lib.hid hO
  clear hO
  go_wp2_with (first | (with_reducible refine Own.stay (fn := Tryd.f3) ?_) | fail)
  try with_reducible refine Own.Stay.mk ?_
  have hO := HO.out
  clear HO c9_3_5 lt9_3 y9_3 c9_4_5 lt9_4 y9_4 c9_5_5 lt9_5 y9_5
  have hN : Own w0 uw3 [row (nd4) 176 (newPT src n nd5 nd6 B1_2 B1), row (nd5) 183 (full symZ (symL (zSys n)) 0), row (nd6) 22 (full u32Z (zU n) 0), row (B1) 38 #[.pointer none, .pointer none, .slice none 0 0, .map none, .slice none 0 0, .slice none 0 0, .int .i32 0, .int .i32 0, .int .u32 0, .int .u32 0, .bool false, .bool false, .bool false, .bool false, .int .u8 0, .int .u8 6], row (B1_2) 38 #[.pointer none, .pointer (some ⟨B1_1, 0, none⟩), .slice none 0 0, .map none, .slice none 0 0, .slice none 0 0, .int .i32 0, .int .i32 0, .int .u32 0, .int .u32 0, .bool false, .bool false, .bool false, .bool false, .int .u8 0, .int .u8 0], row (B1_1) 38 #[.pointer none, .pointer (some ⟨B1, 0, none⟩), .slice none 0 0, .map none, .slice none 0 0, .slice none 0 0, .int .i32 0, .int .i32 0, .int .u32 0, .int .u32 0, .bool false, .bool false, .bool false, .bool false, .int .u8 0, .int .u8 8]] X := hO.sub [0, 1, 2, 5, 3, 4] (by decide)
  clear hO
  have hO := hN
  clear hN
  go_loopg [13] 1 (fun gf s13 wx => s13 = .int .i64 0 ∧ Own w0 wx [row (nd4) 176 (newPT src n nd5 nd6 B1_2 B1), row (nd5) 183 (full symZ (symL (zSys n)) 0), row (nd6) 22 (full u32Z (zU n) 0), row (B1) 38 #[.pointer none, .pointer none, .slice none 0 0, .map none, .slice none 0 0, .slice none 0 0, .int .i32 0, .int .i32 0, .int .u32 0, .int .u32 0, .bool false, .bool false, .bool false, .bool false, .int .u8 0, .int .u8 6], row (B1_2) 38 #[.pointer none, .pointer (some ⟨B1_1, 0, none⟩), .slice none 0 0, .map none, .slice none 0 0, .slice none 0 0, .int .i32 0, .int .i32 0, .int .u32 0, .int .u32 0, .bool false, .bool false, .bool false, .bool false, .int .u8 0, .int .u8 0], row (B1_1) 38 #[.pointer none, .pointer (some ⟨B1, 0, none⟩), .slice none 0 0, .map none, .slice none 0 0, .slice none 0 0, .int .i32 0, .int .i32 0, .int .u32 0, .int .u32 0, .bool false, .bool false, .bool false, .bool false, .int .u8 0, .int .u8 8]] X)
  case atStart => exact ⟨rfl, hO⟩
  obtain ⟨rfl, hO⟩ := hrel
  have c9_3_5 : wr.cell? ⟨B1, 5, none⟩ = some (.slice none 0 0) := hO.cell 3 rfl (5) rfl
  have lt9_3 : B1 < wr.heap.size := hO.lt 3 rfl
  have y9_3 : ∀ o, wr.frozen? ⟨B1, o, none⟩ = false := hO.free 3 rfl
  have c9_4_5 : wr.cell? ⟨B1_2, 5, none⟩ = some (.slice none 0 0) := hO.cell 4 rfl (5) rfl
  have lt9_4 : B1_2 < wr.heap.size := hO.lt 4 rfl
  have y9_4 : ∀ o, wr.frozen? ⟨B1_2, o, none⟩ = false := hO.free 4 rfl
  have c9_5_5 : wr.cell? ⟨B1_1, 5, none⟩ = some (.slice none 0 0) := hO.cell 5 rfl (5) rfl
  have lt9_5 : B1_1 < wr.heap.size := hO.lt 5 rfl
  have y9_5 : ∀ o, wr.frozen? ⟨B1_1, o, none⟩ = false := hO.free 5 rfl
  have HO := Lib.hid hO
  clear hO
  go_wp2_with (first | (with_reducible refine Own.stay (fn := Tryd.f3) ?_) | fail)
  try with_reducible refine Own.Stay.mk ?_
  have hO := HO.out
  clear HO c9_3_5 lt9_3 y9_3 c9_4_5 lt9_4 y9_4 c9_5_5 lt9_5 y9_5
  have hL := hO.apart
  have hX := hO.apartX
  have HL := Lib.hid hL
  have HX := Lib.hid hX
  clear hL hX
  have hP9 := hO.pick [0] (by decide)
  have T9 := symCnt0 nd4 (newPT src n nd5 nd6 B1_2 B1) nd5 n _ _ _ hP9 (newPT_106 _ _ _ _ _ _)
  refine Calls.mono T9 ?_
  clear hP9 T9
  rintro e uw7 ⟨rfl, hQ⟩
  have hN : Own w0 uw7 [row (nd4) 176 (newPT src n nd5 nd6 B1_2 B1), row (nd5) 183 (full symZ (symL (zSys n)) 0), row (nd6) 22 (full u32Z (zU n) 0), row (B1) 38 #[.pointer none, .pointer none, .slice none 0 0, .map none, .slice none 0 0, .slice none 0 0, .int .i32 0, .int .i32 0, .int .u32 0, .int .u32 0, .bool false, .bool false, .bool false, .bool false, .int .u8 0, .int .u8 6], row (B1_2) 38 #[.pointer none, .pointer (some ⟨B1_1, 0, none⟩), .slice none 0 0, .map none, .slice none 0 0, .slice none 0 0, .int .i32 0, .int .i32 0, .int .u32 0, .int .u32 0, .bool false, .bool false, .bool false, .bool false, .int .u8 0, .int .u8 0], row (B1_1) 38 #[.pointer none, .pointer (some ⟨B1, 0, none⟩), .slice none 0 0, .map none, .slice none 0 0, .slice none 0 0, .int .i32 0, .int .i32 0, .int .u32 0, .int .u32 0, .bool false, .bool false, .bool false, .bool false, .int .u8 0, .int .u8 8]] X := hQ.back HL.out HX.out [1, 2, 3, 4, 5] (by decide) (by decide)
  clear hQ HL HX hO
  have hO := hN
  clear hN
  have c9_3_5 : uw7.cell? ⟨B1, 5, none⟩ = some (.slice none 0 0) := hO.cell 3 rfl (5) rfl
  have lt9_3 : B1 < uw7.heap.size := hO.lt 3 rfl
  have y9_3 : ∀ o, uw7.frozen? ⟨B1, o, none⟩ = false := hO.free 3 rfl
  have c9_4_5 : uw7.cell? ⟨B1_2, 5, none⟩ = some (.slice none 0 0) := hO.cell 4 rfl (5) rfl
  have lt9_4 : B1_2 < uw7.heap.size := hO.lt 4 rfl
  have y9_4 : ∀ o, uw7.frozen? ⟨B1_2, o, none⟩ = false := hO.free 4 rfl
  have c9_5_5 : uw7.cell? ⟨B1_1, 5, none⟩ = some (.slice none 0 0) := hO.cell 5 rfl (5) rfl
  have lt9_5 : B1_1 < uw7.heap.size := hO.lt 5 rfl
  have y9_5 : ∀ o, uw7.frozen? ⟨B1_1, o, none⟩ = false := hO.free 5 rfl
  have HO := Lib.hid hO
  clear hO
  go_wp2_with (first | (with_reducible refine Own.stay (fn := Tryd.f3) ?_) | fail)
  try with_reducible refine Own.Stay.mk ?_
  have hO := HO.out
  clear HO c9_3_5 lt9_3 y9_3 c9_4_5 lt9_4 y9_4 c9_5_5 lt9_5 y9_5
  have hL := hO.apart
  have hX := hO.apartX
  have HL := Lib.hid hL
  have HX := Lib.hid hX
  clear hL hX
  have hP9 := hO.pick [0] (by decide)
  have T9 := tsLenN nd4 (newPT src n nd5 nd6 B1_2 B1) nd6 n _ _ _ hP9 (newPT_108 _ _ _ _ _ _)
  refine Calls.mono T9 ?_
  clear hP9 T9
  rintro e uw8 ⟨rfl, hQ⟩
  have hN : Own w0 uw8 [row (nd4) 176 (newPT src n nd5 nd6 B1_2 B1), row (nd5) 183 (full symZ (symL (zSys n)) 0), row (nd6) 22 (full u32Z (zU n) 0), row (B1) 38 #[.pointer none, .pointer none, .slice none 0 0, .map none, .slice none 0 0, .slice none 0 0, .int .i32 0, .int .i32 0, .int .u32 0, .int .u32 0, .bool false, .bool false, .bool false, .bool false, .int .u8 0, .int .u8 6], row (B1_2) 38 #[.pointer none, .pointer (some ⟨B1_1, 0, none⟩), .slice none 0 0, .map none, .slice none 0 0, .slice none 0 0, .int .i32 0, .int .i32 0, .int .u32 0, .int .u32 0, .bool false, .bool false, .bool false, .bool false, .int .u8 0, .int .u8 0], row (B1_1) 38 #[.pointer none, .pointer (some ⟨B1, 0, none⟩), .slice none 0 0, .map none, .slice none 0 0, .slice none 0 0, .int .i32 0, .int .i32 0, .int .u32 0, .int .u32 0, .bool false, .bool false, .bool false, .bool false, .int .u8 0, .int .u8 8]] X := hQ.back HL.out HX.out [1, 2, 3, 4, 5] (by decide) (by decide)
  clear hQ HL HX hO
  have hO := hN
  clear hN
  have c9_3_5 : uw8.cell? ⟨B1, 5, none⟩ = some (.slice none 0 0) := hO.cell 3 rfl (5) rfl
  have lt9_3 : B1 < uw8.heap.size := hO.lt 3 rfl
  have y9_3 : ∀ o, uw8.frozen? ⟨B1, o, none⟩ = false := hO.free 3 rfl
  have c9_4_5 : uw8.cell? ⟨B1_2, 5, none⟩ = some (.slice none 0 0) := hO.cell 4 rfl (5) rfl
  have lt9_4 : B1_2 < uw8.heap.size := hO.lt 4 rfl
  have y9_4 : ∀ o, uw8.frozen? ⟨B1_2, o, none⟩ = false := hO.free 4 rfl
  have c9_5_5 : uw8.cell? ⟨B1_1, 5, none⟩ = some (.slice none 0 0) := hO.cell 5 rfl (5) rfl
  have lt9_5 : B1_1 < uw8.heap.size := hO.lt 5 rfl
  have y9_5 : ∀ o, uw8.frozen? ⟨B1_1, o, none⟩ = false := hO.free 5 rfl
  have HO := Lib.hid hO
  clear hO
  go_wp2_with (first | (with_reducible refine Own.stay (fn := Tryd.f3) ?_) | fail)
  try with_reducible refine Own.Stay.mk ?_
  have hO := HO.out
  clear HO c9_3_5 lt9_3 y9_3 c9_4_5 lt9_4 y9_4 c9_5_5 lt9_5 y9_5
  have hL := hO.apart
  have hX := hO.apartX
  have HL := Lib.hid hL
  have HX := Lib.hid hX
  clear hL hX
  have hP9 := hO.pick [0] (by decide)
  have T9 := topRefs0 nd4 (newPT src n nd5 nd6 B1_2 B1) _ _ _ hP9 (newPT_200 _ _ _ _ _ _)
  refine Calls.mono T9 ?_
  clear hP9 T9
  rintro e uw9 ⟨nd10, rfl, hQ⟩
  have hN : Own w0 uw9 [row (nd4) 176 (newPT src n nd5 nd6 B1_2 B1), row (nd5) 183 (full symZ (symL (zSys n)) 0), row (nd6) 22 (full u32Z (zU n) 0), row (B1) 38 #[.pointer none, .pointer none, .slice none 0 0, .map none, .slice none 0 0, .slice none 0 0, .int .i32 0, .int .i32 0, .int .u32 0, .int .u32 0, .bool false, .bool false, .bool false, .bool false, .int .u8 0, .int .u8 6], row (B1_2) 38 #[.pointer none, .pointer (some ⟨B1_1, 0, none⟩), .slice none 0 0, .map none, .slice none 0 0, .slice none 0 0, .int .i32 0, .int .i32 0, .int .u32 0, .int .u32 0, .bool false, .bool false, .bool false, .bool false, .int .u8 0, .int .u8 0], row (B1_1) 38 #[.pointer none, .pointer (some ⟨B1, 0, none⟩), .slice none 0 0, .map none, .slice none 0 0, .slice none 0 0, .int .i32 0, .int .i32 0, .int .u32 0, .int .u32 0, .bool false, .bool false, .bool false, .bool false, .int .u8 0, .int .u8 8]] X := hQ.back HL.out HX.out [1, 2, 3, 4, 5] (by decide) (by decide)
  clear hQ HL HX hO
  have hO := hN
  clear hN
  have c9_3_5 : uw9.cell? ⟨B1, 5, none⟩ = some (.slice none 0 0) := hO.cell 3 rfl (5) rfl
  have lt9_3 : B1 < uw9.heap.size := hO.lt 3 rfl
  have y9_3 : ∀ o, uw9.frozen? ⟨B1, o, none⟩ = false := hO.free 3 rfl
  have c9_4_5 : uw9.cell? ⟨B1_2, 5, none⟩ = some (.slice none 0 0) := hO.cell 4 rfl (5) rfl
  have lt9_4 : B1_2 < uw9.heap.size := hO.lt 4 rfl
  have y9_4 : ∀ o, uw9.frozen? ⟨B1_2, o, none⟩ = false := hO.free 4 rfl
  have c9_5_5 : uw9.cell? ⟨B1_1, 5, none⟩ = some (.slice none 0 0) := hO.cell 5 rfl (5) rfl
  have lt9_5 : B1_1 < uw9.heap.size := hO.lt 5 rfl
  have y9_5 : ∀ o, uw9.frozen? ⟨B1_1, o, none⟩ = false := hO.free 5 rfl
  have HO := Lib.hid hO
  clear hO
  go_wp2_with (first | (with_reducible refine Own.stay (fn := Tryd.f3) ?_) | fail)
  try with_reducible refine Own.Stay.mk ?_
  have hO := HO.out
  clear HO c9_3_5 lt9_3 y9_3 c9_4_5 lt9_4 y9_4 c9_5_5 lt9_5 y9_5
  go_loopg [18] 1 (fun gf s18 wx => s18 = .int .i64 0 ∧ Own w0 wx [row (nd4) 176 (newPT src n nd5 nd6 B1_2 B1), row (nd5) 183 (full symZ (symL (zSys n)) 0), row (nd6) 22 (full u32Z (zU n) 0), row (B1) 38 #[.pointer none, .pointer none, .slice none 0 0, .map none, .slice none 0 0, .slice none 0 0, .int .i32 0, .int .i32 0, .int .u32 0, .int .u32 0, .bool false, .bool false, .bool false, .bool false, .int .u8 0, .int .u8 6], row (B1_2) 38 #[.pointer none, .pointer (some ⟨B1_1, 0, none⟩), .slice none 0 0, .map none, .slice none 0 0, .slice none 0 0, .int .i32 0, .int .i32 0, .int .u32 0, .int .u32 0, .bool false, .bool false, .bool false, .bool false, .int .u8 0, .int .u8 0], row (B1_1) 38 #[.pointer none, .pointer (some ⟨B1, 0, none⟩), .slice none 0 0, .map none, .slice none 0 0, .slice none 0 0, .int .i32 0, .int .i32 0, .int .u32 0, .int .u32 0, .bool false, .bool false, .bool false, .bool false, .int .u8 0, .int .u8 8]] X)
  case atStart => exact ⟨rfl, hO⟩
  obtain ⟨rfl, hO⟩ := hrel
  have c9_3_5 : wr.cell? ⟨B1, 5, none⟩ = some (.slice none 0 0) := hO.cell 3 rfl (5) rfl
  have lt9_3 : B1 < wr.heap.size := hO.lt 3 rfl
  have y9_3 : ∀ o, wr.frozen? ⟨B1, o, none⟩ = false := hO.free 3 rfl
  have c9_4_5 : wr.cell? ⟨B1_2, 5, none⟩ = some (.slice none 0 0) := hO.cell 4 rfl (5) rfl
  have lt9_4 : B1_2 < wr.heap.size := hO.lt 4 rfl
  have y9_4 : ∀ o, wr.frozen? ⟨B1_2, o, none⟩ = false := hO.free 4 rfl
  have c9_5_5 : wr.cell? ⟨B1_1, 5, none⟩ = some (.slice none 0 0) := hO.cell 5 rfl (5) rfl
  have lt9_5 : B1_1 < wr.heap.size := hO.lt 5 rfl
  have y9_5 : ∀ o, wr.frozen? ⟨B1_1, o, none⟩ = false := hO.free 5 rfl
  have HO := Lib.hid hO
  clear hO
  go_wp2_with (first | (with_reducible refine Own.stay (fn := Tryd.f3) ?_) | fail)
  try with_reducible refine Own.Stay.mk ?_
  have hO := HO.out
  clear HO c9_3_5 lt9_3 y9_3 c9_4_5 lt9_4 y9_4 c9_5_5 lt9_5 y9_5
  have hL := hO.apart
  have hX := hO.apartX
  have HL := Lib.hid hL
  have HX := Lib.hid hX
  clear hL hX
  have hP9 := hO.pick [0] (by decide)
  have T9 := topCnt nd4 (newPT src n nd5 nd6 B1_2 B1) 0 _ _ _ hP9 (newPT_288 _ _ _ _ _ _)
  refine Calls.mono T9 ?_
  clear hP9 T9
  rintro e uw11 ⟨rfl, hQ⟩
  have hN : Own w0 uw11 [row (nd4) 176 (newPT src n nd5 nd6 B1_2 B1), row (nd5) 183 (full symZ (symL (zSys n)) 0), row (nd6) 22 (full u32Z (zU n) 0), row (B1) 38 #[.pointer none, .pointer none, .slice none 0 0, .map none, .slice none 0 0, .slice none 0 0, .int .i32 0, .int .i32 0, .int .u32 0, .int .u32 0, .bool false, .bool false, .bool false, .bool false, .int .u8 0, .int .u8 6], row (B1_2) 38 #[.pointer none, .pointer (some ⟨B1_1, 0, none⟩), .slice none 0 0, .map none, .slice none 0 0, .slice none 0 0, .int .i32 0, .int .i32 0, .int .u32 0, .int .u32 0, .bool false, .bool false, .bool false, .bool false, .int .u8 0, .int .u8 0], row (B1_1) 38 #[.pointer none, .pointer (some ⟨B1, 0, none⟩), .slice none 0 0, .map none, .slice none 0 0, .slice none 0 0, .int .i32 0, .int .i32 0, .int .u32 0, .int .u32 0, .bool false, .bool false, .bool false, .bool false, .int .u8 0, .int .u8 8]] X := hQ.back HL.out HX.out [1, 2, 3, 4, 5] (by decide) (by decide)
  clear hQ HL HX hO
  have hO := hN
  clear hN
  have c9_3_5 : uw11.cell? ⟨B1, 5, none⟩ = some (.slice none 0 0) := hO.cell 3 rfl (5) rfl
  have lt9_3 : B1 < uw11.heap.size := hO.lt 3 rfl
  have y9_3 : ∀ o, uw11.frozen? ⟨B1, o, none⟩ = false := hO.free 3 rfl
  have c9_4_5 : uw11.cell? ⟨B1_2, 5, none⟩ = some (.slice none 0 0) := hO.cell 4 rfl (5) rfl
  have lt9_4 : B1_2 < uw11.heap.size := hO.lt 4 rfl
  have y9_4 : ∀ o, uw11.frozen? ⟨B1_2, o, none⟩ = false := hO.free 4 rfl
  have c9_5_5 : uw11.cell? ⟨B1_1, 5, none⟩ = some (.slice none 0 0) := hO.cell 5 rfl (5) rfl
  have lt9_5 : B1_1 < uw11.heap.size := hO.lt 5 rfl
  have y9_5 : ∀ o, uw11.frozen? ⟨B1_1, o, none⟩ = false := hO.free 5 rfl
  have HO := Lib.hid hO
  clear hO
  go_wp2_with (first | (with_reducible refine Own.stay (fn := Tryd.f3) ?_) | fail)
  try with_reducible refine Own.Stay.mk ?_
  have hO := HO.out
  clear HO c9_3_5 lt9_3 y9_3 c9_4_5 lt9_4 y9_4 c9_5_5 lt9_5 y9_5
  have hL := hO.apart
  have hX := hO.apartX
  have HL := Lib.hid hL
  have HX := Lib.hid hX
  clear hL hX
  have hP9 := hO.pick [0] (by decide)
  have T9 := tmpCnt nd4 (newPT src n nd5 nd6 B1_2 B1) 0 _ _ _ hP9 (newPT_287 _ _ _ _ _ _)
  refine Calls.mono T9 ?_
  clear hP9 T9
  rintro e uw12 ⟨rfl, hQ⟩
  have hN : Own w0 uw12 [row (nd4) 176 (newPT src n nd5 nd6 B1_2 B1), row (nd5) 183 (full symZ (symL (zSys n)) 0), row (nd6) 22 (full u32Z (zU n) 0), row (B1) 38 #[.pointer none, .pointer none, .slice none 0 0, .map none, .slice none 0 0, .slice none 0 0, .int .i32 0, .int .i32 0, .int .u32 0, .int .u32 0, .bool false, .bool false, .bool false, .bool false, .int .u8 0, .int .u8 6], row (B1_2) 38 #[.pointer none, .pointer (some ⟨B1_1, 0, none⟩), .slice none 0 0, .map none, .slice none 0 0, .slice none 0 0, .int .i32 0, .int .i32 0, .int .u32 0, .int .u32 0, .bool false, .bool false, .bool false, .bool false, .int .u8 0, .int .u8 0], row (B1_1) 38 #[.pointer none, .pointer (some ⟨B1, 0, none⟩), .slice none 0 0, .map none, .slice none 0 0, .slice none 0 0, .int .i32 0, .int .i32 0, .int .u32 0, .int .u32 0, .bool false, .bool false, .bool false, .bool false, .int .u8 0, .int .u8 8]] X := hQ.back HL.out HX.out [1, 2, 3, 4, 5] (by decide) (by decide)
  clear hQ HL HX hO
  have hO := hN
  clear hN
  have c9_3_5 : uw12.cell? ⟨B1, 5, none⟩ = some (.slice none 0 0) := hO.cell 3 rfl (5) rfl
  have lt9_3 : B1 < uw12.heap.size := hO.lt 3 rfl
  have y9_3 : ∀ o, uw12.frozen? ⟨B1, o, none⟩ = false := hO.free 3 rfl
  have c9_4_5 : uw12.cell? ⟨B1_2, 5, none⟩ = some (.slice none 0 0) := hO.cell 4 rfl (5) rfl
  have lt9_4 : B1_2 < uw12.heap.size := hO.lt 4 rfl
  have y9_4 : ∀ o, uw12.frozen? ⟨B1_2, o, none⟩ = false := hO.free 4 rfl
  have c9_5_5 : uw12.cell? ⟨B1_1, 5, none⟩ = some (.slice none 0 0) := hO.cell 5 rfl (5) rfl
  have lt9_5 : B1_1 < uw12.heap.size := hO.lt 5 rfl
  have y9_5 : ∀ o, uw12.frozen? ⟨B1_1, o, none⟩ = false := hO.free 5 rfl
  have HO := Lib.hid hO
  clear hO
  go_wp2_with (first | (with_reducible refine Own.stay (fn := Tryd.f3) ?_) | fail)
  try with_reducible refine Own.Stay.mk ?_
  have hO := HO.out
  clear HO c9_3_5 lt9_3 y9_3 c9_4_5 lt9_4 y9_4 c9_5_5 lt9_5 y9_5
  have hL := hO.apart
  have hX := hO.apartX
  have HL := Lib.hid hL
  have HX := Lib.hid hX
  clear hL hX
  have hP9 := hO.pick [0] (by decide)
  have T9 := tmpRefs0 nd4 (newPT src n nd5 nd6 B1_2 B1) _ _ _ hP9 (newPT_199 _ _ _ _ _ _)
  refine Calls.mono T9 ?_
  clear hP9 T9
  rintro e uw13 ⟨nd14, rfl, hQ⟩
  have hN : Own w0 uw13 [row (nd4) 176 (newPT src n nd5 nd6 B1_2 B1), row (nd5) 183 (full symZ (symL (zSys n)) 0), row (nd6) 22 (full u32Z (zU n) 0), row (B1) 38 #[.pointer none, .pointer none, .slice none 0 0, .map none, .slice none 0 0, .slice none 0 0, .int .i32 0, .int .i32 0, .int .u32 0, .int .u32 0, .bool false, .bool false, .bool false, .bool false, .int .u8 0, .int .u8 6], row (B1_2) 38 #[.pointer none, .pointer (some ⟨B1_1, 0, none⟩), .slice none 0 0, .map none, .slice none 0 0, .slice none 0 0, .int .i32 0, .int .i32 0, .int .u32 0, .int .u32 0, .bool false, .bool false, .bool false, .bool false, .int .u8 0, .int .u8 0], row (B1_1) 38 #[.pointer none, .pointer (some ⟨B1, 0, none⟩), .slice none 0 0, .map none, .slice none 0 0, .slice none 0 0, .int .i32 0, .int .i32 0, .int .u32 0, .int .u32 0, .bool false, .bool false, .bool false, .bool false, .int .u8 0, .int .u8 8]] X := hQ.back HL.out HX.out [1, 2, 3, 4, 5] (by decide) (by decide)
  clear hQ HL HX hO
  have hO := hN
  clear hN
  have c9_3_5 : uw13.cell? ⟨B1, 5, none⟩ = some (.slice none 0 0) := hO.cell 3 rfl (5) rfl
  have lt9_3 : B1 < uw13.heap.size := hO.lt 3 rfl
  have y9_3 : ∀ o, uw13.frozen? ⟨B1, o, none⟩ = false := hO.free 3 rfl
  have c9_4_5 : uw13.cell? ⟨B1_2, 5, none⟩ = some (.slice none 0 0) := hO.cell 4 rfl (5) rfl
  have lt9_4 : B1_2 < uw13.heap.size := hO.lt 4 rfl
  have y9_4 : ∀ o, uw13.frozen? ⟨B1_2, o, none⟩ = false := hO.free 4 rfl
  have c9_5_5 : uw13.cell? ⟨B1_1, 5, none⟩ = some (.slice none 0 0) := hO.cell 5 rfl (5) rfl
  have lt9_5 : B1_1 < uw13.heap.size := hO.lt 5 rfl
  have y9_5 : ∀ o, uw13.frozen? ⟨B1_1, o, none⟩ = false := hO.free 5 rfl
  have HO := Lib.hid hO
  clear hO
  go_wp2_with (first | (with_reducible refine Own.stay (fn := Tryd.f3) ?_) | fail)
  try with_reducible refine Own.Stay.mk ?_
  have hO := HO.out
  clear HO c9_3_5 lt9_3 y9_3 c9_4_5 lt9_4 y9_4 c9_5_5 lt9_5 y9_5
  have hL := hO.apart
  have hX := hO.apartX
  have HL := Lib.hid hL
  have HX := Lib.hid hX
  clear hL hX
  have hP9 := hO.pick [0] (by decide)
  have T9 := tmpLets0 nd4 (newPT src n nd5 nd6 B1_2 B1) _ _ _ hP9 (newPT_198 _ _ _ _ _ _)
  refine Calls.mono T9 ?_
  clear hP9 T9
  rintro e uw15 ⟨rfl, hQ⟩
  have hN : Own w0 uw15 [row (nd4) 176 (newPT src n nd5 nd6 B1_2 B1), row (nd5) 183 (full symZ (symL (zSys n)) 0), row (nd6) 22 (full u32Z (zU n) 0), row (B1) 38 #[.pointer none, .pointer none, .slice none 0 0, .map none, .slice none 0 0, .slice none 0 0, .int .i32 0, .int .i32 0, .int .u32 0, .int .u32 0, .bool false, .bool false, .bool false, .bool false, .int .u8 0, .int .u8 6], row (B1_2) 38 #[.pointer none, .pointer (some ⟨B1_1, 0, none⟩), .slice none 0 0, .map none, .slice none 0 0, .slice none 0 0, .int .i32 0, .int .i32 0, .int .u32 0, .int .u32 0, .bool false, .bool false, .bool false, .bool false, .int .u8 0, .int .u8 0], row (B1_1) 38 #[.pointer none, .pointer (some ⟨B1, 0, none⟩), .slice none 0 0, .map none, .slice none 0 0, .slice none 0 0, .int .i32 0, .int .i32 0, .int .u32 0, .int .u32 0, .bool false, .bool false, .bool false, .bool false, .int .u8 0, .int .u8 8]] X := hQ.back HL.out HX.out [1, 2, 3, 4, 5] (by decide) (by decide)
  clear hQ HL HX hO
  have hO := hN
  clear hN
  have c9_3_5 : uw15.cell? ⟨B1, 5, none⟩ = some (.slice none 0 0) := hO.cell 3 rfl (5) rfl
  have lt9_3 : B1 < uw15.heap.size := hO.lt 3 rfl
  have y9_3 : ∀ o, uw15.frozen? ⟨B1, o, none⟩ = false := hO.free 3 rfl
  have c9_4_5 : uw15.cell? ⟨B1_2, 5, none⟩ = some (.slice none 0 0) := hO.cell 4 rfl (5) rfl
  have lt9_4 : B1_2 < uw15.heap.size := hO.lt 4 rfl
  have y9_4 : ∀ o, uw15.frozen? ⟨B1_2, o, none⟩ = false := hO.free 4 rfl
  have c9_5_5 : uw15.cell? ⟨B1_1, 5, none⟩ = some (.slice none 0 0) := hO.cell 5 rfl (5) rfl
  have lt9_5 : B1_1 < uw15.heap.size := hO.lt 5 rfl
  have y9_5 : ∀ o, uw15.frozen? ⟨B1_1, o, none⟩ = false := hO.free 5 rfl
  have HO := Lib.hid hO
  clear hO
  go_wp2_with (first | (with_reducible refine Own.stay (fn := Tryd.f3) ?_) | fail)
  try with_reducible refine Own.Stay.mk ?_
  have hO := HO.out
  clear HO c9_3_5 lt9_3 y9_3 c9_4_5 lt9_4 y9_4 c9_5_5 lt9_5 y9_5
  refine bodyPost_ret (v := .bool true) ?_ rfl ⟨rfl, hO.sub [] (by decide)⟩
  simp [results, Tryd.results3, go_sem]
end Go.Proofs.YtkmojepgbbdeiaaDoor.Use
