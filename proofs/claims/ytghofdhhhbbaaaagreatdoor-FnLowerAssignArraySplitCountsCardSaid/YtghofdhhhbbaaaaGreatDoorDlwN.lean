/- The door of lowerAssign, refusals. No condition. -/
import Derived.Test.YtghofdhhhbbaaaaGreatDoorLowN
import Derived.Test.YtghofdhhhbbaaaaGreatDoorIts
import Derived.Test.YtghofdhhhbbaaaaGreatDoorIfm
import Derived.Test.YtghofdhhhbbaaaaGreatDoorSla
import Derived.Test.YtghofdhhhbbaaaaGreatDoorLoop
import Derived.Test.YtghofdhhhbbaaaaGreatDoorMini
import Derived.Test.YtghofdhhhbbaaaaGreatDoorAppL
import Derived.Test.YtghofdhhhbbaaaaGreatDoorApp
import Derived.Test.YtghofdhhhbbaaaaGreatDoorOwnK
import Derived.Test.YtghofdhhhbbaaaaGreatDoorOwn
import Derived.Test.YtghofdhhhbbaaaaGreatDoorDeepCells
import Derived.Test.YtghofdhhhbbaaaaGreatDoorRows
import Derived.Test.YtghofdhhhbbaaaaGreatDoorLive
namespace Go.Proofs.YtghofdhhhbbaaaaGreatDoor.Use
open Go.ChangeShapes Go.WideShapes Go.ChangeAt Go.RowKit Go.Sort Own
set_option linter.unusedVariables false
def dlowMPost (pb : Nat) (PC : Array Value) (ab ib ci : Nat) (IL : List Value) (mm tt ob pr cp vb : Nat) (lo : Int) (vi : Nat) (li : Int) (w0 : World) (X : Nat → Obj → Prop) (e : Ending) (w' : World) : Prop :=
  e = .returned (.tuple #[.agg #[.nilIface, .int .i32 0], .bool false]) ∧ Own w0 w' [row (ab) 207 #[.slice (some ⟨ib, 0, none⟩) (mm + 1 + tt) (mm + 1 + tt + ci), .int .i32 0, .int .i32 0, .bool false, .bool false], row (ib) 29 (full exZ IL ci), row (ob) 204 #[.slice (some ⟨pr, 0, none⟩) 1 (1 + cp), .int .i32 0, .int .i32 0, .bool false, .bool false], row (pr) 52 (full prZ [.pointer none, .nilIface, .int .i32 0, .iface 56 (.pointer (some ⟨vb, 0, none⟩)), .int .i32 0, .nilIface, .int .i32 0, .slice none 0 0, .int .i32 0, .int .i32 0, .int .u8 5, .int .u8 0] cp), row (pb) 182 PC] X
set_option maxRecDepth 100000 in
set_option maxHeartbeats 1000000 in
theorem dlowM (pb : Nat) (PC : Array Value) (ab ib ci : Nat) (IL : List Value) (mm tt ob pr cp vb : Nat) (lo : Int) (vi : Nat) (li : Int) (w0 w : World) (X : Nat → Obj → Prop) (hO : Own w0 w [row (ab) 207 #[.slice (some ⟨ib, 0, none⟩) (mm + 1 + tt) (mm + 1 + tt + ci), .int .i32 0, .int .i32 0, .bool false, .bool false], row (ib) 29 (full exZ IL ci), row (ob) 204 #[.slice (some ⟨pr, 0, none⟩) 1 (1 + cp), .int .i32 0, .int .i32 0, .bool false, .bool false], row (pr) 52 (full prZ [.pointer none, .nilIface, .int .i32 0, .iface 56 (.pointer (some ⟨vb, 0, none⟩)), .int .i32 0, .nilIface, .int .i32 0, .slice none 0 0, .int .i32 0, .int .i32 0, .int .u8 5, .int .u8 0] cp), row (pb) 182 PC] X) (hk23 : PC[23]? = some (.int .u64 0)) (hI : ItP IL mm ob (mm + 1 + tt)) (hm4 : mm ≤ 4096) (ht4 : tt ≤ 4096) :
    Calls Tryz.prog 8 #[.pointer (some ⟨pb, 0, none⟩), .agg #[.iface 205 (.pointer (some ⟨ab, 0, none⟩)), .int .i32 lo], .agg #[.iface 56 (.pointer (some ⟨vi, 0, none⟩)), .int .i32 li]] w (dlowMPost pb PC ab ib ci IL mm tt ob pr cp vb lo vi li w0 X) := by
  go_enter Tryz.func8, Tryz.ntmps8
  have HI := Lib.hid hI
  clear hI
  obtain ⟨c9_0_0, c9_0_1, c9_0_2, c9_0_3, c9_0_4, lt9_0, y9_0, -⟩ := hO.k5 0 rfl
  obtain ⟨c9_2_0, c9_2_1, c9_2_2, c9_2_3, c9_2_4, lt9_2, y9_2, -⟩ := hO.k5 2 rfl
  have HO := Lib.hid hO
  clear hO
  go_wp2_with (first | (with_reducible refine Own.stay (fn := Tryz.f8) ?_) | fail)
  try with_reducible refine Own.Stay.mk ?_
  have hO := HO.out
  clear HO c9_0_0 c9_0_1 c9_0_2 c9_0_3 c9_0_4 lt9_0 y9_0 c9_2_0 c9_2_1 c9_2_2 c9_2_3 c9_2_4 lt9_2 y9_2
  generalize hW : World.alloc _ _ = W2
  have hN : Own w0 W2 [row (w.heap.size + 1 + 1) 29 #[.nilIface, .int .i32 0], row (w.heap.size + 1) 29 #[.iface 56 (.pointer (some ⟨vi, 0, none⟩)), .int .i32 li], row (w.heap.size) 29 #[.iface 205 (.pointer (some ⟨ab, 0, none⟩)), .int .i32 lo], row (ab) 207 #[.slice (some ⟨ib, 0, none⟩) (mm + 1 + tt) (mm + 1 + tt + ci), .int .i32 0, .int .i32 0, .bool false, .bool false], row (ib) 29 (full exZ IL ci), row (ob) 204 #[.slice (some ⟨pr, 0, none⟩) 1 (1 + cp), .int .i32 0, .int .i32 0, .bool false, .bool false], row (pr) 52 (full prZ [.pointer none, .nilIface, .int .i32 0, .iface 56 (.pointer (some ⟨vb, 0, none⟩)), .int .i32 0, .nilIface, .int .i32 0, .slice none 0 0, .int .i32 0, .int .i32 0, .int .u8 5, .int .u8 0] cp), row (pb) 182 PC] X := by
    rw [← hW]
    exact (((hO).alloc' _ (w.heap.size) (by simp)).alloc' _ (w.heap.size + 1) (by simp)).alloc' _ (w.heap.size + 1 + 1) (by simp)
  clear hW hO
  generalize w.heap.size + 1 + 1 = B1_2 at hN ⊢
  generalize w.heap.size + 1 = B1_1 at hN ⊢
  generalize w.heap.size = B1 at hN ⊢
  have hO := hN
  clear hN
  have hL := hO.apart
  have hX := hO.apartX
  have HL := Lib.hid hL
  have HX := Lib.hid hX
  clear hL hX
  have hP9 := hO.pick [3, 4, 5, 6, 7] (by decide)
  have h9_hI : ItP IL mm ob (mm + 1 + tt) := HI.out
  have T9 := lowM pb PC ab ib ci IL mm tt ob pr cp vb lo vi li _ _ _ hP9 hk23 h9_hI hm4 ht4
  refine Calls.mono T9 ?_
  clear hP9 T9 h9_hI
  rintro e uw3 ⟨rfl, hQ⟩
  have hN : Own w0 uw3 [row (ab) 207 #[.slice (some ⟨ib, 0, none⟩) (mm + 1 + tt) (mm + 1 + tt + ci), .int .i32 0, .int .i32 0, .bool false, .bool false], row (ib) 29 (full exZ IL ci), row (ob) 204 #[.slice (some ⟨pr, 0, none⟩) 1 (1 + cp), .int .i32 0, .int .i32 0, .bool false, .bool false], row (pr) 52 (full prZ [.pointer none, .nilIface, .int .i32 0, .iface 56 (.pointer (some ⟨vb, 0, none⟩)), .int .i32 0, .nilIface, .int .i32 0, .slice none 0 0, .int .i32 0, .int .i32 0, .int .u8 5, .int .u8 0] cp), row (pb) 182 PC, row (B1_2) 29 #[.nilIface, .int .i32 0], row (B1_1) 29 #[.iface 56 (.pointer (some ⟨vi, 0, none⟩)), .int .i32 li], row (B1) 29 #[.iface 205 (.pointer (some ⟨ab, 0, none⟩)), .int .i32 lo]] X := hQ.back HL.out HX.out [0, 1, 2] (by decide) (by decide)
  clear hQ HL HX hO
  have hO := hN
  clear hN
  obtain ⟨c9_0_0, c9_0_1, c9_0_2, c9_0_3, c9_0_4, lt9_0, y9_0, -⟩ := hO.k5 0 rfl
  obtain ⟨c9_2_0, c9_2_1, c9_2_2, c9_2_3, c9_2_4, lt9_2, y9_2, -⟩ := hO.k5 2 rfl
  obtain ⟨c9_5_0, c9_5_1, lt9_5, y9_5, -⟩ := hO.k2 5 rfl
  obtain ⟨c9_6_0, c9_6_1, lt9_6, y9_6, -⟩ := hO.k2 6 rfl
  obtain ⟨c9_7_0, c9_7_1, lt9_7, y9_7, -⟩ := hO.k2 7 rfl
  have HO := Lib.hid hO
  clear hO
  go_wp2_with (first | (with_reducible refine Own.stay (fn := Tryz.f8) ?_) | fail)
  try with_reducible refine Own.Stay.mk ?_
  have hO := HO.out
  clear HO c9_0_0 c9_0_1 c9_0_2 c9_0_3 c9_0_4 lt9_0 y9_0 c9_2_0 c9_2_1 c9_2_2 c9_2_3 c9_2_4 lt9_2 y9_2 c9_5_0 c9_5_1 lt9_5 y9_5 c9_6_0 c9_6_1 lt9_6 y9_6 c9_7_0 c9_7_1 lt9_7 y9_7
  generalize hW : World.setCell _ _ _ = W5
  have hN : Own w0 W5 [row (ab) 207 #[.slice (some ⟨ib, 0, none⟩) (mm + 1 + tt) (mm + 1 + tt + ci), .int .i32 0, .int .i32 0, .bool false, .bool false], row (ib) 29 (full exZ IL ci), row (ob) 204 #[.slice (some ⟨pr, 0, none⟩) 1 (1 + cp), .int .i32 0, .int .i32 0, .bool false, .bool false], row (pr) 52 (full prZ [.pointer none, .nilIface, .int .i32 0, .iface 56 (.pointer (some ⟨vb, 0, none⟩)), .int .i32 0, .nilIface, .int .i32 0, .slice none 0 0, .int .i32 0, .int .i32 0, .int .u8 5, .int .u8 0] cp), row (pb) 182 PC, row (B1_2) 29 #[.nilIface, .int .i32 0], row (B1_1) 29 #[.iface 56 (.pointer (some ⟨vi, 0, none⟩)), .int .i32 li], row (B1) 29 #[.iface 205 (.pointer (some ⟨ab, 0, none⟩)), .int .i32 lo]] X := by
    rw [← hW]
    exact ((hO).set 5 rfl 0 _).set 5 rfl 1 _
  clear hW hO
  have hO := hN
  clear hN
  have z9_5_0 : W5.cell? ⟨B1_2, 0, none⟩ = some (.nilIface) := hO.cell 5 rfl 0 rfl
  have z9_5_1 : W5.cell? ⟨B1_2, 1, none⟩ = some (.int .i32 0) := hO.cell 5 rfl 1 rfl
  refine bodyPost_ret (v := .tuple #[.agg #[.nilIface, .int .i32 0], .bool false]) ?_ rfl ⟨rfl, hO.sub [0, 1, 2, 3, 4] (by decide)⟩
  simp [results, Tryz.results8, go_sem, z9_5_0, z9_5_1]
def dlowI0Post (pb : Nat) (PC : Array Value) (vl : Nat) (lo : Int) (vi : Nat) (li : Int) (w0 : World) (X : Nat → Obj → Prop) (e : Ending) (w' : World) : Prop :=
  e = .returned (.tuple #[.agg #[.nilIface, .int .i32 0], .bool false]) ∧ Own w0 w' [row (pb) 182 PC] X
set_option maxRecDepth 100000 in
set_option maxHeartbeats 1000000 in
theorem dlowI0 (pb : Nat) (PC : Array Value) (vl : Nat) (lo : Int) (vi : Nat) (li : Int) (w0 w : World) (X : Nat → Obj → Prop) (hO : Own w0 w [row (pb) 182 PC] X) (hk23 : PC[23]? = some (.int .u64 0)) :
    Calls Tryz.prog 8 #[.pointer (some ⟨pb, 0, none⟩), .agg #[.iface 56 (.pointer (some ⟨vl, 0, none⟩)), .int .i32 lo], .agg #[.iface 56 (.pointer (some ⟨vi, 0, none⟩)), .int .i32 li]] w (dlowI0Post pb PC vl lo vi li w0 X) := by
  go_enter Tryz.func8, Tryz.ntmps8
  go_wp2_with (first | (with_reducible refine Own.stay (fn := Tryz.f8) ?_) | fail)
  try with_reducible refine Own.Stay.mk ?_
  generalize hW : World.alloc _ _ = W2
  have hN : Own w0 W2 [row (w.heap.size + 1 + 1) 29 #[.nilIface, .int .i32 0], row (w.heap.size + 1) 29 #[.iface 56 (.pointer (some ⟨vi, 0, none⟩)), .int .i32 li], row (w.heap.size) 29 #[.iface 56 (.pointer (some ⟨vl, 0, none⟩)), .int .i32 lo], row (pb) 182 PC] X := by
    rw [← hW]
    exact (((hO).alloc' _ (w.heap.size) (by simp)).alloc' _ (w.heap.size + 1) (by simp)).alloc' _ (w.heap.size + 1 + 1) (by simp)
  clear hW hO
  generalize w.heap.size + 1 + 1 = B1_2 at hN ⊢
  generalize w.heap.size + 1 = B1_1 at hN ⊢
  generalize w.heap.size = B1 at hN ⊢
  have hO := hN
  clear hN
  have hL := hO.apart
  have hX := hO.apartX
  have HL := Lib.hid hL
  have HX := Lib.hid hX
  clear hL hX
  have hP9 := hO.pick [3] (by decide)
  have T9 := lowI0 pb PC vl lo vi li _ _ _ hP9 hk23
  refine Calls.mono T9 ?_
  clear hP9 T9
  rintro e uw3 ⟨rfl, hQ⟩
  have hN : Own w0 uw3 [row (pb) 182 PC, row (B1_2) 29 #[.nilIface, .int .i32 0], row (B1_1) 29 #[.iface 56 (.pointer (some ⟨vi, 0, none⟩)), .int .i32 li], row (B1) 29 #[.iface 56 (.pointer (some ⟨vl, 0, none⟩)), .int .i32 lo]] X := hQ.back HL.out HX.out [0, 1, 2] (by decide) (by decide)
  clear hQ HL HX hO
  have hO := hN
  clear hN
  obtain ⟨c9_1_0, c9_1_1, lt9_1, y9_1, -⟩ := hO.k2 1 rfl
  obtain ⟨c9_2_0, c9_2_1, lt9_2, y9_2, -⟩ := hO.k2 2 rfl
  obtain ⟨c9_3_0, c9_3_1, lt9_3, y9_3, -⟩ := hO.k2 3 rfl
  have HO := Lib.hid hO
  clear hO
  go_wp2_with (first | (with_reducible refine Own.stay (fn := Tryz.f8) ?_) | fail)
  try with_reducible refine Own.Stay.mk ?_
  have hO := HO.out
  clear HO c9_1_0 c9_1_1 lt9_1 y9_1 c9_2_0 c9_2_1 lt9_2 y9_2 c9_3_0 c9_3_1 lt9_3 y9_3
  generalize hW : World.setCell _ _ _ = W5
  have hN : Own w0 W5 [row (pb) 182 PC, row (B1_2) 29 #[.nilIface, .int .i32 0], row (B1_1) 29 #[.iface 56 (.pointer (some ⟨vi, 0, none⟩)), .int .i32 li], row (B1) 29 #[.iface 56 (.pointer (some ⟨vl, 0, none⟩)), .int .i32 lo]] X := by
    rw [← hW]
    exact ((hO).set 1 rfl 0 _).set 1 rfl 1 _
  clear hW hO
  have hO := hN
  clear hN
  have z9_1_0 : W5.cell? ⟨B1_2, 0, none⟩ = some (.nilIface) := hO.cell 1 rfl 0 rfl
  have z9_1_1 : W5.cell? ⟨B1_2, 1, none⟩ = some (.int .i32 0) := hO.cell 1 rfl 1 rfl
  refine bodyPost_ret (v := .tuple #[.agg #[.nilIface, .int .i32 0], .bool false]) ?_ rfl ⟨rfl, hO.sub [0] (by decide)⟩
  simp [results, Tryz.results8, go_sem, z9_1_0, z9_1_1]
def dlowI1Post (pb : Nat) (PC : Array Value) (vl : Nat) (lo : Int) (vi : Nat) (li : Int) (w0 : World) (X : Nat → Obj → Prop) (e : Ending) (w' : World) : Prop :=
  e = .returned (.tuple #[.agg #[.nilIface, .int .i32 0], .bool false]) ∧ Own w0 w' [row (pb) 182 PC] X
set_option maxRecDepth 100000 in
set_option maxHeartbeats 1000000 in
theorem dlowI1 (pb : Nat) (PC : Array Value) (vl : Nat) (lo : Int) (vi : Nat) (li : Int) (w0 w : World) (X : Nat → Obj → Prop) (hO : Own w0 w [row (pb) 182 PC] X) (hk23 : PC[23]? = some (.int .u64 35184372088832)) :
    Calls Tryz.prog 8 #[.pointer (some ⟨pb, 0, none⟩), .agg #[.iface 56 (.pointer (some ⟨vl, 0, none⟩)), .int .i32 lo], .agg #[.iface 56 (.pointer (some ⟨vi, 0, none⟩)), .int .i32 li]] w (dlowI1Post pb PC vl lo vi li w0 X) := by
  go_enter Tryz.func8, Tryz.ntmps8
  go_wp2_with (first | (with_reducible refine Own.stay (fn := Tryz.f8) ?_) | fail)
  try with_reducible refine Own.Stay.mk ?_
  generalize hW : World.alloc _ _ = W2
  have hN : Own w0 W2 [row (w.heap.size + 1 + 1) 29 #[.nilIface, .int .i32 0], row (w.heap.size + 1) 29 #[.iface 56 (.pointer (some ⟨vi, 0, none⟩)), .int .i32 li], row (w.heap.size) 29 #[.iface 56 (.pointer (some ⟨vl, 0, none⟩)), .int .i32 lo], row (pb) 182 PC] X := by
    rw [← hW]
    exact (((hO).alloc' _ (w.heap.size) (by simp)).alloc' _ (w.heap.size + 1) (by simp)).alloc' _ (w.heap.size + 1 + 1) (by simp)
  clear hW hO
  generalize w.heap.size + 1 + 1 = B1_2 at hN ⊢
  generalize w.heap.size + 1 = B1_1 at hN ⊢
  generalize w.heap.size = B1 at hN ⊢
  have hO := hN
  clear hN
  have hL := hO.apart
  have hX := hO.apartX
  have HL := Lib.hid hL
  have HX := Lib.hid hX
  clear hL hX
  have hP9 := hO.pick [3] (by decide)
  have T9 := lowI1 pb PC vl lo vi li _ _ _ hP9 hk23
  refine Calls.mono T9 ?_
  clear hP9 T9
  rintro e uw3 ⟨rfl, hQ⟩
  have hN : Own w0 uw3 [row (pb) 182 PC, row (B1_2) 29 #[.nilIface, .int .i32 0], row (B1_1) 29 #[.iface 56 (.pointer (some ⟨vi, 0, none⟩)), .int .i32 li], row (B1) 29 #[.iface 56 (.pointer (some ⟨vl, 0, none⟩)), .int .i32 lo]] X := hQ.back HL.out HX.out [0, 1, 2] (by decide) (by decide)
  clear hQ HL HX hO
  have hO := hN
  clear hN
  obtain ⟨c9_1_0, c9_1_1, lt9_1, y9_1, -⟩ := hO.k2 1 rfl
  obtain ⟨c9_2_0, c9_2_1, lt9_2, y9_2, -⟩ := hO.k2 2 rfl
  obtain ⟨c9_3_0, c9_3_1, lt9_3, y9_3, -⟩ := hO.k2 3 rfl
  have HO := Lib.hid hO
  clear hO
  go_wp2_with (first | (with_reducible refine Own.stay (fn := Tryz.f8) ?_) | fail)
  try with_reducible refine Own.Stay.mk ?_
  have hO := HO.out
  clear HO c9_1_0 c9_1_1 lt9_1 y9_1 c9_2_0 c9_2_1 lt9_2 y9_2 c9_3_0 c9_3_1 lt9_3 y9_3
  generalize hW : World.setCell _ _ _ = W5
  have hN : Own w0 W5 [row (pb) 182 PC, row (B1_2) 29 #[.nilIface, .int .i32 0], row (B1_1) 29 #[.iface 56 (.pointer (some ⟨vi, 0, none⟩)), .int .i32 li], row (B1) 29 #[.iface 56 (.pointer (some ⟨vl, 0, none⟩)), .int .i32 lo]] X := by
    rw [← hW]
    exact ((hO).set 1 rfl 0 _).set 1 rfl 1 _
  clear hW hO
  have hO := hN
  clear hN
  have z9_1_0 : W5.cell? ⟨B1_2, 0, none⟩ = some (.nilIface) := hO.cell 1 rfl 0 rfl
  have z9_1_1 : W5.cell? ⟨B1_2, 1, none⟩ = some (.int .i32 0) := hO.cell 1 rfl 1 rfl
  refine bodyPost_ret (v := .tuple #[.agg #[.nilIface, .int .i32 0], .bool false]) ?_ rfl ⟨rfl, hO.sub [0] (by decide)⟩
  simp [results, Tryz.results8, go_sem, z9_1_0, z9_1_1]
end Go.Proofs.YtghofdhhhbbaaaaGreatDoor.Use
