/- The law on top-level temporaries, walked: one of its cases. No condition. -/
import Derived.Test.YtkmojepgbbdeiaaDoorRd2
import Derived.Test.YtkmojepgbbdeiaaDoorTop
import Derived.Test.YtkmojepgbbdeiaaDoorSt
import Derived.Test.YtkmojepgbbdeiaaDoorLoop
import Derived.Test.YtkmojepgbbdeiaaDoorNewP
import Derived.Test.YtkmojepgbbdeiaaDoorMini
import Derived.Test.YtkmojepgbbdeiaaDoorAppL
import Derived.Test.YtkmojepgbbdeiaaDoorApp
import Derived.Test.YtkmojepgbbdeiaaDoorOwnK
import Derived.Test.YtkmojepgbbdeiaaDoorOwn
import Derived.Test.YtkmojepgbbdeiaaDoorDeepCells
import Derived.Test.YtkmojepgbbdeiaaDoorRows
import Derived.Test.YtkmojepgbbdeiaaDoorLive
namespace Go.Proofs.YtkmojepgbbdeiaaDoor.Use
open Go.ChangeShapes Go.WideShapes Go.ChangeAt Go.RowKit Go.Sort Own
set_option linter.unusedVariables false
def law7F0Post (src : Int) (n : Nat) (w0 : World) (X : Nat → Obj → Prop) (e : Ending) (w' : World) : Prop :=
  e = .returned (.bool true) ∧ Own w0 w' [] X
set_option maxRecDepth 100000 in
set_option maxHeartbeats 1000000 in
theorem law7F0 (src : Int) (n : Nat) (w0 w : World) (X : Nat → Obj → Prop) (hO : Own w0 w [] X) (hn4 : n ≤ 65536) (hg0 : w0.cell? ⟨0, 0, none⟩ = some (.int .u32 4294967295)) (hg1 : w0.cell? ⟨0, 1, none⟩ = some (.int .u32 4294967295)) :
    Calls Tryd.prog 3 #[.int .u32 src, .int .i64 0, .int .i64 (n : Int), .bool false] w (law7F0Post src n w0 X) := by
  go_enter Tryd.func3, Tryd.ntmps3
  have hn9 : (n : Int) ≤ 65536 := by omega
  have hn8 : (0 : Int) ≤ n := by omega
  have hn7 : IntKind.u32.wrap (n : Int) = (n : Int) := by rw [IntKind.wrap_u32]; omega
  go_wp2_with (first | (with_reducible refine Own.stay (fn := Tryd.f3) ?_) | fail)
  try with_reducible refine Own.Stay.mk ?_
  generalize hW : World.alloc _ _ = W2
  have hN : Own w0 W2 [row (w.heap.size + 1 + 1) 38 #[.pointer none, .pointer (some ⟨w.heap.size + 1, 0, none⟩), .slice none 0 0, .map none, .slice none 0 0, .slice none 0 0, .int .i32 0, .int .i32 0, .int .u32 0, .int .u32 0, .bool false, .bool false, .bool false, .bool false, .int .u8 0, .int .u8 0], row (w.heap.size + 1) 38 #[.pointer none, .pointer (some ⟨w.heap.size, 0, none⟩), .slice none 0 0, .map none, .slice none 0 0, .slice none 0 0, .int .i32 0, .int .i32 0, .int .u32 0, .int .u32 0, .bool false, .bool false, .bool false, .bool false, .int .u8 0, .int .u8 8], row (w.heap.size) 38 #[.pointer none, .pointer none, .slice none 0 0, .map none, .slice none 0 0, .slice none 0 0, .int .i32 0, .int .i32 0, .int .u32 0, .int .u32 0, .bool false, .bool false, .bool false, .bool false, .int .u8 0, .int .u8 6]] X := by
    rw [← hW]
    exact (((hO).alloc' _ (w.heap.size) (by simp)).alloc' _ (w.heap.size + 1) (by simp)).alloc' _ (w.heap.size + 1 + 1) (by simp)
  clear hW hO
  generalize w.heap.size + 1 + 1 = B1_2 at hN ⊢
  generalize w.heap.size + 1 = B1_1 at hN ⊢
  generalize w.heap.size = B1 at hN ⊢
  have hO := hN
  clear hN
  have hL := hO.apart
  have hX := hO.apartX
  have HL := Lib.hid hL
  have HX := Lib.hid hX
  clear hL hX
  have hP9 := hO.pick [] (by decide)
  have h9_hn5 : n ≤ 100000 := (by first | assumption | omega | (simp; done) | (simp; omega))
  have T9 := newPFO src n B1_2 B1 _ _ _ hP9 h9_hn5
  refine Calls.mono T9 ?_
  clear hP9 T9 h9_hn5
  rintro e u3 ⟨nd4, nd5, rfl, hQ⟩
  have hN : Own w0 u3 [row (nd4) 176 (newPF src n nd5 0 B1_2 B1), row (nd5) 183 (full symZ (symL (zSys n)) 0), row (B1_2) 38 #[.pointer none, .pointer (some ⟨B1_1, 0, none⟩), .slice none 0 0, .map none, .slice none 0 0, .slice none 0 0, .int .i32 0, .int .i32 0, .int .u32 0, .int .u32 0, .bool false, .bool false, .bool false, .bool false, .int .u8 0, .int .u8 0], row (B1_1) 38 #[.pointer none, .pointer (some ⟨B1, 0, none⟩), .slice none 0 0, .map none, .slice none 0 0, .slice none 0 0, .int .i32 0, .int .i32 0, .int .u32 0, .int .u32 0, .bool false, .bool false, .bool false, .bool false, .int .u8 0, .int .u8 8], row (B1) 38 #[.pointer none, .pointer none, .slice none 0 0, .map none, .slice none 0 0, .slice none 0 0, .int .i32 0, .int .i32 0, .int .u32 0, .int .u32 0, .bool false, .bool false, .bool false, .bool false, .int .u8 0, .int .u8 6]] X := hQ.back HL.out HX.out [0, 1, 2] (by decide) (by decide)
  clear hQ HL HX hO
  have hO := hN
  clear hN
  have c9_2_5 : u3.cell? ⟨B1_2, 5, none⟩ = some (.slice none 0 0) := hO.cell 2 rfl (5) rfl
  have lt9_2 : B1_2 < u3.heap.size := hO.lt 2 rfl
  have y9_2 : ∀ o, u3.frozen? ⟨B1_2, o, none⟩ = false := hO.free 2 rfl
  have c9_3_5 : u3.cell? ⟨B1_1, 5, none⟩ = some (.slice none 0 0) := hO.cell 3 rfl (5) rfl
  have lt9_3 : B1_1 < u3.heap.size := hO.lt 3 rfl
  have y9_3 : ∀ o, u3.frozen? ⟨B1_1, o, none⟩ = false := hO.free 3 rfl
  have c9_4_5 : u3.cell? ⟨B1, 5, none⟩ = some (.slice none 0 0) := hO.cell 4 rfl (5) rfl
  have lt9_4 : B1 < u3.heap.size := hO.lt 4 rfl
  have y9_4 : ∀ o, u3.frozen? ⟨B1, o, none⟩ = false := hO.free 4 rfl
  have HO := Lib.hid hO
  clear hO
  go_wp2_with (first | (with_reducible refine Own.stay (fn := Tryd.f3) ?_) | fail)
  try with_reducible refine Own.Stay.mk ?_
  have hO := HO.out
  clear HO c9_2_5 lt9_2 y9_2 c9_3_5 lt9_3 y9_3 c9_4_5 lt9_4 y9_4
  have hN : Own w0 u3 [row (nd4) 176 (newPF src n nd5 0 B1_2 B1), row (nd5) 183 (full symZ (symL (zSys n)) 0), row (B1) 38 #[.pointer none, .pointer none, .slice none 0 0, .map none, .slice none 0 0, .slice none 0 0, .int .i32 0, .int .i32 0, .int .u32 0, .int .u32 0, .bool false, .bool false, .bool false, .bool false, .int .u8 0, .int .u8 6], row (B1_2) 38 #[.pointer none, .pointer (some ⟨B1_1, 0, none⟩), .slice none 0 0, .map none, .slice none 0 0, .slice none 0 0, .int .i32 0, .int .i32 0, .int .u32 0, .int .u32 0, .bool false, .bool false, .bool false, .bool false, .int .u8 0, .int .u8 0], row (B1_1) 38 #[.pointer none, .pointer (some ⟨B1, 0, none⟩), .slice none 0 0, .map none, .slice none 0 0, .slice none 0 0, .int .i32 0, .int .i32 0, .int .u32 0, .int .u32 0, .bool false, .bool false, .bool false, .bool false, .int .u8 0, .int .u8 8]] X := hO.sub [0, 1, 4, 2, 3] (by decide)
  clear hO
  have hO := hN
  clear hN
  go_loopg [13] 1 (fun gf s13 wx => s13 = .int .i64 0 ∧ Own w0 wx [row (nd4) 176 (newPF src n nd5 0 B1_2 B1), row (nd5) 183 (full symZ (symL (zSys n)) 0), row (B1) 38 #[.pointer none, .pointer none, .slice none 0 0, .map none, .slice none 0 0, .slice none 0 0, .int .i32 0, .int .i32 0, .int .u32 0, .int .u32 0, .bool false, .bool false, .bool false, .bool false, .int .u8 0, .int .u8 6], row (B1_2) 38 #[.pointer none, .pointer (some ⟨B1_1, 0, none⟩), .slice none 0 0, .map none, .slice none 0 0, .slice none 0 0, .int .i32 0, .int .i32 0, .int .u32 0, .int .u32 0, .bool false, .bool false, .bool false, .bool false, .int .u8 0, .int .u8 0], row (B1_1) 38 #[.pointer none, .pointer (some ⟨B1, 0, none⟩), .slice none 0 0, .map none, .slice none 0 0, .slice none 0 0, .int .i32 0, .int .i32 0, .int .u32 0, .int .u32 0, .bool false, .bool false, .bool false, .bool false, .int .u8 0, .int .u8 8]] X)
  case atStart => exact ⟨rfl, hO⟩
  obtain ⟨rfl, hO⟩ := hrel
  have c9_2_5 : wr.cell? ⟨B1, 5, none⟩ = some (.slice none 0 0) := hO.cell 2 rfl (5) rfl
  have lt9_2 : B1 < wr.heap.size := hO.lt 2 rfl
  have y9_2 : ∀ o, wr.frozen? ⟨B1, o, none⟩ = false := hO.free 2 rfl
  have c9_3_5 : wr.cell? ⟨B1_2, 5, none⟩ = some (.slice none 0 0) := hO.cell 3 rfl (5) rfl
  have lt9_3 : B1_2 < wr.heap.size := hO.lt 3 rfl
  have y9_3 : ∀ o, wr.frozen? ⟨B1_2, o, none⟩ = false := hO.free 3 rfl
  have c9_4_5 : wr.cell? ⟨B1_1, 5, none⟩ = some (.slice none 0 0) := hO.cell 4 rfl (5) rfl
  have lt9_4 : B1_1 < wr.heap.size := hO.lt 4 rfl
  have y9_4 : ∀ o, wr.frozen? ⟨B1_1, o, none⟩ = false := hO.free 4 rfl
  have HO := Lib.hid hO
  clear hO
  go_wp2_with (first | (with_reducible refine Own.stay (fn := Tryd.f3) ?_) | fail)
  try with_reducible refine Own.Stay.mk ?_
  have hO := HO.out
  clear HO c9_2_5 lt9_2 y9_2 c9_3_5 lt9_3 y9_3 c9_4_5 lt9_4 y9_4
  have hL := hO.apart
  have hX := hO.apartX
  have HL := Lib.hid hL
  have HX := Lib.hid hX
  clear hL hX
  have hP9 := hO.pick [0] (by decide)
  have T9 := symCnt0 nd4 (newPF src n nd5 0 B1_2 B1) nd5 n _ _ _ hP9 (newPF_106 _ _ _ _ _ _)
  refine Calls.mono T9 ?_
  clear hP9 T9
  rintro e u6 ⟨rfl, hQ⟩
  have hN : Own w0 u6 [row (nd4) 176 (newPF src n nd5 0 B1_2 B1), row (nd5) 183 (full symZ (symL (zSys n)) 0), row (B1) 38 #[.pointer none, .pointer none, .slice none 0 0, .map none, .slice none 0 0, .slice none 0 0, .int .i32 0, .int .i32 0, .int .u32 0, .int .u32 0, .bool false, .bool false, .bool false, .bool false, .int .u8 0, .int .u8 6], row (B1_2) 38 #[.pointer none, .pointer (some ⟨B1_1, 0, none⟩), .slice none 0 0, .map none, .slice none 0 0, .slice none 0 0, .int .i32 0, .int .i32 0, .int .u32 0, .int .u32 0, .bool false, .bool false, .bool false, .bool false, .int .u8 0, .int .u8 0], row (B1_1) 38 #[.pointer none, .pointer (some ⟨B1, 0, none⟩), .slice none 0 0, .map none, .slice none 0 0, .slice none 0 0, .int .i32 0, .int .i32 0, .int .u32 0, .int .u32 0, .bool false, .bool false, .bool false, .bool false, .int .u8 0, .int .u8 8]] X := hQ.back HL.out HX.out [1, 2, 3, 4] (by decide) (by decide)
  clear hQ HL HX hO
  have hO := hN
  clear hN
  have c9_2_5 : u6.cell? ⟨B1, 5, none⟩ = some (.slice none 0 0) := hO.cell 2 rfl (5) rfl
  have lt9_2 : B1 < u6.heap.size := hO.lt 2 rfl
  have y9_2 : ∀ o, u6.frozen? ⟨B1, o, none⟩ = false := hO.free 2 rfl
  have c9_3_5 : u6.cell? ⟨B1_2, 5, none⟩ = some (.slice none 0 0) := hO.cell 3 rfl (5) rfl
  have lt9_3 : B1_2 < u6.heap.size := hO.lt 3 rfl
  have y9_3 : ∀ o, u6.frozen? ⟨B1_2, o, none⟩ = false := hO.free 3 rfl
  have c9_4_5 : u6.cell? ⟨B1_1, 5, none⟩ = some (.slice none 0 0) := hO.cell 4 rfl (5) rfl
  have lt9_4 : B1_1 < u6.heap.size := hO.lt 4 rfl
  have y9_4 : ∀ o, u6.frozen? ⟨B1_1, o, none⟩ = false := hO.free 4 rfl
  have HO := Lib.hid hO
  clear hO
  go_wp2_with (first | (with_reducible refine Own.stay (fn := Tryd.f3) ?_) | fail)
  try with_reducible refine Own.Stay.mk ?_
  have hO := HO.out
  clear HO c9_2_5 lt9_2 y9_2 c9_3_5 lt9_3 y9_3 c9_4_5 lt9_4 y9_4
  have hL := hO.apart
  have hX := hO.apartX
  have HL := Lib.hid hL
  have HX := Lib.hid hX
  clear hL hX
  have hP9 := hO.pick [0] (by decide)
  have T9 := tsLen0 nd4 (newPF src n nd5 0 B1_2 B1) _ _ _ hP9 (newPF_108 _ _ _ _ _ _)
  refine Calls.mono T9 ?_
  clear hP9 T9
  rintro e u7 ⟨rfl, hQ⟩
  have hN : Own w0 u7 [row (nd4) 176 (newPF src n nd5 0 B1_2 B1), row (nd5) 183 (full symZ (symL (zSys n)) 0), row (B1) 38 #[.pointer none, .pointer none, .slice none 0 0, .map none, .slice none 0 0, .slice none 0 0, .int .i32 0, .int .i32 0, .int .u32 0, .int .u32 0, .bool false, .bool false, .bool false, .bool false, .int .u8 0, .int .u8 6], row (B1_2) 38 #[.pointer none, .pointer (some ⟨B1_1, 0, none⟩), .slice none 0 0, .map none, .slice none 0 0, .slice none 0 0, .int .i32 0, .int .i32 0, .int .u32 0, .int .u32 0, .bool false, .bool false, .bool false, .bool false, .int .u8 0, .int .u8 0], row (B1_1) 38 #[.pointer none, .pointer (some ⟨B1, 0, none⟩), .slice none 0 0, .map none, .slice none 0 0, .slice none 0 0, .int .i32 0, .int .i32 0, .int .u32 0, .int .u32 0, .bool false, .bool false, .bool false, .bool false, .int .u8 0, .int .u8 8]] X := hQ.back HL.out HX.out [1, 2, 3, 4] (by decide) (by decide)
  clear hQ HL HX hO
  have hO := hN
  clear hN
  have c9_2_5 : u7.cell? ⟨B1, 5, none⟩ = some (.slice none 0 0) := hO.cell 2 rfl (5) rfl
  have lt9_2 : B1 < u7.heap.size := hO.lt 2 rfl
  have y9_2 : ∀ o, u7.frozen? ⟨B1, o, none⟩ = false := hO.free 2 rfl
  have c9_3_5 : u7.cell? ⟨B1_2, 5, none⟩ = some (.slice none 0 0) := hO.cell 3 rfl (5) rfl
  have lt9_3 : B1_2 < u7.heap.size := hO.lt 3 rfl
  have y9_3 : ∀ o, u7.frozen? ⟨B1_2, o, none⟩ = false := hO.free 3 rfl
  have c9_4_5 : u7.cell? ⟨B1_1, 5, none⟩ = some (.slice none 0 0) := hO.cell 4 rfl (5) rfl
  have lt9_4 : B1_1 < u7.heap.size := hO.lt 4 rfl
  have y9_4 : ∀ o, u7.frozen? ⟨B1_1, o, none⟩ = false := hO.free 4 rfl
  have HO := Lib.hid hO
  clear hO
  go_wp2_with (first | (with_reducible refine Own.stay (fn := Tryd.f3) ?_) | fail)
  try with_reducible refine Own.Stay.mk ?_
  have hO := HO.out
  clear HO c9_2_5 lt9_2 y9_2 c9_3_5 lt9_3 y9_3 c9_4_5 lt9_4 y9_4
  have hL := hO.apart
  have hX := hO.apartX
  have HL := Lib.hid hL
  have HX := Lib.hid hX
  clear hL hX
  have hP9 := hO.pick [0] (by decide)
  have T9 := topRefs0 nd4 (newPF src n nd5 0 B1_2 B1) _ _ _ hP9 (newPF_200 _ _ _ _ _ _)
  refine Calls.mono T9 ?_
  clear hP9 T9
  rintro e u8 ⟨nd9, rfl, hQ⟩
  have hN : Own w0 u8 [row (nd4) 176 (newPF src n nd5 0 B1_2 B1), row (nd5) 183 (full symZ (symL (zSys n)) 0), row (B1) 38 #[.pointer none, .pointer none, .slice none 0 0, .map none, .slice none 0 0, .slice none 0 0, .int .i32 0, .int .i32 0, .int .u32 0, .int .u32 0, .bool false, .bool false, .bool false, .bool false, .int .u8 0, .int .u8 6], row (B1_2) 38 #[.pointer none, .pointer (some ⟨B1_1, 0, none⟩), .slice none 0 0, .map none, .slice none 0 0, .slice none 0 0, .int .i32 0, .int .i32 0, .int .u32 0, .int .u32 0, .bool false, .bool false, .bool false, .bool false, .int .u8 0, .int .u8 0], row (B1_1) 38 #[.pointer none, .pointer (some ⟨B1, 0, none⟩), .slice none 0 0, .map none, .slice none 0 0, .slice none 0 0, .int .i32 0, .int .i32 0, .int .u32 0, .int .u32 0, .bool false, .bool false, .bool false, .bool false, .int .u8 0, .int .u8 8]] X := hQ.back HL.out HX.out [1, 2, 3, 4] (by decide) (by decide)
  clear hQ HL HX hO
  have hO := hN
  clear hN
  have c9_2_5 : u8.cell? ⟨B1, 5, none⟩ = some (.slice none 0 0) := hO.cell 2 rfl (5) rfl
  have lt9_2 : B1 < u8.heap.size := hO.lt 2 rfl
  have y9_2 : ∀ o, u8.frozen? ⟨B1, o, none⟩ = false := hO.free 2 rfl
  have c9_3_5 : u8.cell? ⟨B1_2, 5, none⟩ = some (.slice none 0 0) := hO.cell 3 rfl (5) rfl
  have lt9_3 : B1_2 < u8.heap.size := hO.lt 3 rfl
  have y9_3 : ∀ o, u8.frozen? ⟨B1_2, o, none⟩ = false := hO.free 3 rfl
  have c9_4_5 : u8.cell? ⟨B1_1, 5, none⟩ = some (.slice none 0 0) := hO.cell 4 rfl (5) rfl
  have lt9_4 : B1_1 < u8.heap.size := hO.lt 4 rfl
  have y9_4 : ∀ o, u8.frozen? ⟨B1_1, o, none⟩ = false := hO.free 4 rfl
  have HO := Lib.hid hO
  clear hO
  go_wp2_with (first | (with_reducible refine Own.stay (fn := Tryd.f3) ?_) | fail)
  try with_reducible refine Own.Stay.mk ?_
  have hO := HO.out
  clear HO c9_2_5 lt9_2 y9_2 c9_3_5 lt9_3 y9_3 c9_4_5 lt9_4 y9_4
  go_loopg [18] 1 (fun gf s18 wx => s18 = .int .i64 0 ∧ Own w0 wx [row (nd4) 176 (newPF src n nd5 0 B1_2 B1), row (nd5) 183 (full symZ (symL (zSys n)) 0), row (B1) 38 #[.pointer none, .pointer none, .slice none 0 0, .map none, .slice none 0 0, .slice none 0 0, .int .i32 0, .int .i32 0, .int .u32 0, .int .u32 0, .bool false, .bool false, .bool false, .bool false, .int .u8 0, .int .u8 6], row (B1_2) 38 #[.pointer none, .pointer (some ⟨B1_1, 0, none⟩), .slice none 0 0, .map none, .slice none 0 0, .slice none 0 0, .int .i32 0, .int .i32 0, .int .u32 0, .int .u32 0, .bool false, .bool false, .bool false, .bool false, .int .u8 0, .int .u8 0], row (B1_1) 38 #[.pointer none, .pointer (some ⟨B1, 0, none⟩), .slice none 0 0, .map none, .slice none 0 0, .slice none 0 0, .int .i32 0, .int .i32 0, .int .u32 0, .int .u32 0, .bool false, .bool false, .bool false, .bool false, .int .u8 0, .int .u8 8]] X)
  case atStart => exact ⟨rfl, hO⟩
  obtain ⟨rfl, hO⟩ := hrel
  have c9_2_5 : wr.cell? ⟨B1, 5, none⟩ = some (.slice none 0 0) := hO.cell 2 rfl (5) rfl
  have lt9_2 : B1 < wr.heap.size := hO.lt 2 rfl
  have y9_2 : ∀ o, wr.frozen? ⟨B1, o, none⟩ = false := hO.free 2 rfl
  have c9_3_5 : wr.cell? ⟨B1_2, 5, none⟩ = some (.slice none 0 0) := hO.cell 3 rfl (5) rfl
  have lt9_3 : B1_2 < wr.heap.size := hO.lt 3 rfl
  have y9_3 : ∀ o, wr.frozen? ⟨B1_2, o, none⟩ = false := hO.free 3 rfl
  have c9_4_5 : wr.cell? ⟨B1_1, 5, none⟩ = some (.slice none 0 0) := hO.cell 4 rfl (5) rfl
  have lt9_4 : B1_1 < wr.heap.size := hO.lt 4 rfl
  have y9_4 : ∀ o, wr.frozen? ⟨B1_1, o, none⟩ = false := hO.free 4 rfl
  have HO := Lib.hid hO
  clear hO
  go_wp2_with (first | (with_reducible refine Own.stay (fn := Tryd.f3) ?_) | fail)
  try with_reducible refine Own.Stay.mk ?_
  have hO := HO.out
  clear HO c9_2_5 lt9_2 y9_2 c9_3_5 lt9_3 y9_3 c9_4_5 lt9_4 y9_4
  have hL := hO.apart
  have hX := hO.apartX
  have HL := Lib.hid hL
  have HX := Lib.hid hX
  clear hL hX
  have hP9 := hO.pick [0] (by decide)
  have T9 := topCnt nd4 (newPF src n nd5 0 B1_2 B1) 0 _ _ _ hP9 (newPF_288 _ _ _ _ _ _)
  refine Calls.mono T9 ?_
  clear hP9 T9
  rintro e u10 ⟨rfl, hQ⟩
  have hN : Own w0 u10 [row (nd4) 176 (newPF src n nd5 0 B1_2 B1), row (nd5) 183 (full symZ (symL (zSys n)) 0), row (B1) 38 #[.pointer none, .pointer none, .slice none 0 0, .map none, .slice none 0 0, .slice none 0 0, .int .i32 0, .int .i32 0, .int .u32 0, .int .u32 0, .bool false, .bool false, .bool false, .bool false, .int .u8 0, .int .u8 6], row (B1_2) 38 #[.pointer none, .pointer (some ⟨B1_1, 0, none⟩), .slice none 0 0, .map none, .slice none 0 0, .slice none 0 0, .int .i32 0, .int .i32 0, .int .u32 0, .int .u32 0, .bool false, .bool false, .bool false, .bool false, .int .u8 0, .int .u8 0], row (B1_1) 38 #[.pointer none, .pointer (some ⟨B1, 0, none⟩), .slice none 0 0, .map none, .slice none 0 0, .slice none 0 0, .int .i32 0, .int .i32 0, .int .u32 0, .int .u32 0, .bool false, .bool false, .bool false, .bool false, .int .u8 0, .int .u8 8]] X := hQ.back HL.out HX.out [1, 2, 3, 4] (by decide) (by decide)
  clear hQ HL HX hO
  have hO := hN
  clear hN
  have c9_2_5 : u10.cell? ⟨B1, 5, none⟩ = some (.slice none 0 0) := hO.cell 2 rfl (5) rfl
  have lt9_2 : B1 < u10.heap.size := hO.lt 2 rfl
  have y9_2 : ∀ o, u10.frozen? ⟨B1, o, none⟩ = false := hO.free 2 rfl
  have c9_3_5 : u10.cell? ⟨B1_2, 5, none⟩ = some (.slice none 0 0) := hO.cell 3 rfl (5) rfl
  have lt9_3 : B1_2 < u10.heap.size := hO.lt 3 rfl
  have y9_3 : ∀ o, u10.frozen? ⟨B1_2, o, none⟩ = false := hO.free 3 rfl
  have c9_4_5 : u10.cell? ⟨B1_1, 5, none⟩ = some (.slice none 0 0) := hO.cell 4 rfl (5) rfl
  have lt9_4 : B1_1 < u10.heap.size := hO.lt 4 rfl
  have y9_4 : ∀ o, u10.frozen? ⟨B1_1, o, none⟩ = false := hO.free 4 rfl
  have HO := Lib.hid hO
  clear hO
  go_wp2_with (first | (with_reducible refine Own.stay (fn := Tryd.f3) ?_) | fail)
  try with_reducible refine Own.Stay.mk ?_
  have hO := HO.out
  clear HO c9_2_5 lt9_2 y9_2 c9_3_5 lt9_3 y9_3 c9_4_5 lt9_4 y9_4
  have hL := hO.apart
  have hX := hO.apartX
  have HL := Lib.hid hL
  have HX := Lib.hid hX
  clear hL hX
  have hP9 := hO.pick [0] (by decide)
  have T9 := tmpCnt nd4 (newPF src n nd5 0 B1_2 B1) 0 _ _ _ hP9 (newPF_287 _ _ _ _ _ _)
  refine Calls.mono T9 ?_
  clear hP9 T9
  rintro e u11 ⟨rfl, hQ⟩
  have hN : Own w0 u11 [row (nd4) 176 (newPF src n nd5 0 B1_2 B1), row (nd5) 183 (full symZ (symL (zSys n)) 0), row (B1) 38 #[.pointer none, .pointer none, .slice none 0 0, .map none, .slice none 0 0, .slice none 0 0, .int .i32 0, .int .i32 0, .int .u32 0, .int .u32 0, .bool false, .bool false, .bool false, .bool false, .int .u8 0, .int .u8 6], row (B1_2) 38 #[.pointer none, .pointer (some ⟨B1_1, 0, none⟩), .slice none 0 0, .map none, .slice none 0 0, .slice none 0 0, .int .i32 0, .int .i32 0, .int .u32 0, .int .u32 0, .bool false, .bool false, .bool false, .bool false, .int .u8 0, .int .u8 0], row (B1_1) 38 #[.pointer none, .pointer (some ⟨B1, 0, none⟩), .slice none 0 0, .map none, .slice none 0 0, .slice none 0 0, .int .i32 0, .int .i32 0, .int .u32 0, .int .u32 0, .bool false, .bool false, .bool false, .bool false, .int .u8 0, .int .u8 8]] X := hQ.back HL.out HX.out [1, 2, 3, 4] (by decide) (by decide)
  clear hQ HL HX hO
  have hO := hN
  clear hN
  have c9_2_5 : u11.cell? ⟨B1, 5, none⟩ = some (.slice none 0 0) := hO.cell 2 rfl (5) rfl
  have lt9_2 : B1 < u11.heap.size := hO.lt 2 rfl
  have y9_2 : ∀ o, u11.frozen? ⟨B1, o, none⟩ = false := hO.free 2 rfl
  have c9_3_5 : u11.cell? ⟨B1_2, 5, none⟩ = some (.slice none 0 0) := hO.cell 3 rfl (5) rfl
  have lt9_3 : B1_2 < u11.heap.size := hO.lt 3 rfl
  have y9_3 : ∀ o, u11.frozen? ⟨B1_2, o, none⟩ = false := hO.free 3 rfl
  have c9_4_5 : u11.cell? ⟨B1_1, 5, none⟩ = some (.slice none 0 0) := hO.cell 4 rfl (5) rfl
  have lt9_4 : B1_1 < u11.heap.size := hO.lt 4 rfl
  have y9_4 : ∀ o, u11.frozen? ⟨B1_1, o, none⟩ = false := hO.free 4 rfl
  have HO := Lib.hid hO
  clear hO
  go_wp2_with (first | (with_reducible refine Own.stay (fn := Tryd.f3) ?_) | fail)
  try with_reducible refine Own.Stay.mk ?_
  have hO := HO.out
  clear HO c9_2_5 lt9_2 y9_2 c9_3_5 lt9_3 y9_3 c9_4_5 lt9_4 y9_4
  have hL := hO.apart
  have hX := hO.apartX
  have HL := Lib.hid hL
  have HX := Lib.hid hX
  clear hL hX
  have hP9 := hO.pick [0] (by decide)
  have T9 := tmpRefs0 nd4 (newPF src n nd5 0 B1_2 B1) _ _ _ hP9 (newPF_199 _ _ _ _ _ _)
  refine Calls.mono T9 ?_
  clear hP9 T9
  rintro e u12 ⟨nd13, rfl, hQ⟩
  have hN : Own w0 u12 [row (nd4) 176 (newPF src n nd5 0 B1_2 B1), row (nd5) 183 (full symZ (symL (zSys n)) 0), row (B1) 38 #[.pointer none, .pointer none, .slice none 0 0, .map none, .slice none 0 0, .slice none 0 0, .int .i32 0, .int .i32 0, .int .u32 0, .int .u32 0, .bool false, .bool false, .bool false, .bool false, .int .u8 0, .int .u8 6], row (B1_2) 38 #[.pointer none, .pointer (some ⟨B1_1, 0, none⟩), .slice none 0 0, .map none, .slice none 0 0, .slice none 0 0, .int .i32 0, .int .i32 0, .int .u32 0, .int .u32 0, .bool false, .bool false, .bool false, .bool false, .int .u8 0, .int .u8 0], row (B1_1) 38 #[.pointer none, .pointer (some ⟨B1, 0, none⟩), .slice none 0 0, .map none, .slice none 0 0, .slice none 0 0, .int .i32 0, .int .i32 0, .int .u32 0, .int .u32 0, .bool false, .bool false, .bool false, .bool false, .int .u8 0, .int .u8 8]] X := hQ.back HL.out HX.out [1, 2, 3, 4] (by decide) (by decide)
  clear hQ HL HX hO
  have hO := hN
  clear hN
  have c9_2_5 : u12.cell? ⟨B1, 5, none⟩ = some (.slice none 0 0) := hO.cell 2 rfl (5) rfl
  have lt9_2 : B1 < u12.heap.size := hO.lt 2 rfl
  have y9_2 : ∀ o, u12.frozen? ⟨B1, o, none⟩ = false := hO.free 2 rfl
  have c9_3_5 : u12.cell? ⟨B1_2, 5, none⟩ = some (.slice none 0 0) := hO.cell 3 rfl (5) rfl
  have lt9_3 : B1_2 < u12.heap.size := hO.lt 3 rfl
  have y9_3 : ∀ o, u12.frozen? ⟨B1_2, o, none⟩ = false := hO.free 3 rfl
  have c9_4_5 : u12.cell? ⟨B1_1, 5, none⟩ = some (.slice none 0 0) := hO.cell 4 rfl (5) rfl
  have lt9_4 : B1_1 < u12.heap.size := hO.lt 4 rfl
  have y9_4 : ∀ o, u12.frozen? ⟨B1_1, o, none⟩ = false := hO.free 4 rfl
  have HO := Lib.hid hO
  clear hO
  go_wp2_with (first | (with_reducible refine Own.stay (fn := Tryd.f3) ?_) | fail)
  try with_reducible refine Own.Stay.mk ?_
  have hO := HO.out
  clear HO c9_2_5 lt9_2 y9_2 c9_3_5 lt9_3 y9_3 c9_4_5 lt9_4 y9_4
  have hL := hO.apart
  have hX := hO.apartX
  have HL := Lib.hid hL
  have HX := Lib.hid hX
  clear hL hX
  have hP9 := hO.pick [0] (by decide)
  have T9 := tmpLets0 nd4 (newPF src n nd5 0 B1_2 B1) _ _ _ hP9 (newPF_198 _ _ _ _ _ _)
  refine Calls.mono T9 ?_
  clear hP9 T9
  rintro e u14 ⟨rfl, hQ⟩
  have hN : Own w0 u14 [row (nd4) 176 (newPF src n nd5 0 B1_2 B1), row (nd5) 183 (full symZ (symL (zSys n)) 0), row (B1) 38 #[.pointer none, .pointer none, .slice none 0 0, .map none, .slice none 0 0, .slice none 0 0, .int .i32 0, .int .i32 0, .int .u32 0, .int .u32 0, .bool false, .bool false, .bool false, .bool false, .int .u8 0, .int .u8 6], row (B1_2) 38 #[.pointer none, .pointer (some ⟨B1_1, 0, none⟩), .slice none 0 0, .map none, .slice none 0 0, .slice none 0 0, .int .i32 0, .int .i32 0, .int .u32 0, .int .u32 0, .bool false, .bool false, .bool false, .bool false, .int .u8 0, .int .u8 0], row (B1_1) 38 #[.pointer none, .pointer (some ⟨B1, 0, none⟩), .slice none 0 0, .map none, .slice none 0 0, .slice none 0 0, .int .i32 0, .int .i32 0, .int .u32 0, .int .u32 0, .bool false, .bool false, .bool false, .bool false, .int .u8 0, .int .u8 8]] X := hQ.back HL.out HX.out [1, 2, 3, 4] (by decide) (by decide)
  clear hQ HL HX hO
  have hO := hN
  clear hN
  have c9_2_5 : u14.cell? ⟨B1, 5, none⟩ = some (.slice none 0 0) := hO.cell 2 rfl (5) rfl
  have lt9_2 : B1 < u14.heap.size := hO.lt 2 rfl
  have y9_2 : ∀ o, u14.frozen? ⟨B1, o, none⟩ = false := hO.free 2 rfl
  have c9_3_5 : u14.cell? ⟨B1_2, 5, none⟩ = some (.slice none 0 0) := hO.cell 3 rfl (5) rfl
  have lt9_3 : B1_2 < u14.heap.size := hO.lt 3 rfl
  have y9_3 : ∀ o, u14.frozen? ⟨B1_2, o, none⟩ = false := hO.free 3 rfl
  have c9_4_5 : u14.cell? ⟨B1_1, 5, none⟩ = some (.slice none 0 0) := hO.cell 4 rfl (5) rfl
  have lt9_4 : B1_1 < u14.heap.size := hO.lt 4 rfl
  have y9_4 : ∀ o, u14.frozen? ⟨B1_1, o, none⟩ = false := hO.free 4 rfl
  have HO := Lib.hid hO
  clear hO
  go_wp2_with (first | (with_reducible refine Own.stay (fn := Tryd.f3) ?_) | fail)
  try with_reducible refine Own.Stay.mk ?_
  have hO := HO.out
  clear HO c9_2_5 lt9_2 y9_2 c9_3_5 lt9_3 y9_3 c9_4_5 lt9_4 y9_4
  refine bodyPost_ret (v := .bool true) ?_ rfl ⟨rfl, hO.sub [] (by decide)⟩
  simp [results, Tryd.results3, go_sem]
end Go.Proofs.YtkmojepgbbdeiaaDoor.Use
