/- lowerAssign refuses. No condition. -/
import Derived.Test.YtghofdhhhbbaaaaGreatDoorVl
import Derived.Test.YtghofdhhhbbaaaaGreatDoorHln
import Derived.Test.YtghofdhhhbbaaaaGreatDoorSupz
import Derived.Test.YtghofdhhhbbaaaaGreatDoorSup
import Derived.Test.YtghofdhhhbbaaaaGreatDoorIts
import Derived.Test.YtghofdhhhbbaaaaGreatDoorIfm
import Derived.Test.YtghofdhhhbbaaaaGreatDoorSla
import Derived.Test.YtghofdhhhbbaaaaGreatDoorLoop
import Derived.Test.YtghofdhhhbbaaaaGreatDoorMini
import Derived.Test.YtghofdhhhbbaaaaGreatDoorAppL
import Derived.Test.YtghofdhhhbbaaaaGreatDoorApp
import Derived.Test.YtghofdhhhbbaaaaGreatDoorOwnK
import Derived.Test.YtghofdhhhbbaaaaGreatDoorOwn
import Derived.Test.YtghofdhhhbbaaaaGreatDoorDeepCells
import Derived.Test.YtghofdhhhbbaaaaGreatDoorRows
import Derived.Test.YtghofdhhhbbaaaaGreatDoorLive
namespace Go.Proofs.YtghofdhhhbbaaaaGreatDoor.Use
open Go.ChangeShapes Go.WideShapes Go.ChangeAt Go.RowKit Go.Sort Own
set_option linter.unusedVariables false
def lowMPost (pb : Nat) (PC : Array Value) (ab ib ci : Nat) (IL : List Value) (mm tt ob pr cp vb : Nat) (lo : Int) (vi : Nat) (li : Int) (w0 : World) (X : Nat → Obj → Prop) (e : Ending) (w' : World) : Prop :=
  e = .returned (.tuple #[.agg #[.nilIface, .int .i32 0], .bool false]) ∧ Own w0 w' [row (ab) 207 #[.slice (some ⟨ib, 0, none⟩) (mm + 1 + tt) (mm + 1 + tt + ci), .int .i32 0, .int .i32 0, .bool false, .bool false], row (ib) 29 (full exZ IL ci), row (ob) 204 #[.slice (some ⟨pr, 0, none⟩) 1 (1 + cp), .int .i32 0, .int .i32 0, .bool false, .bool false], row (pr) 52 (full prZ [.pointer none, .nilIface, .int .i32 0, .iface 56 (.pointer (some ⟨vb, 0, none⟩)), .int .i32 0, .nilIface, .int .i32 0, .slice none 0 0, .int .i32 0, .int .i32 0, .int .u8 5, .int .u8 0] cp), row (pb) 182 PC] X
set_option maxRecDepth 100000 in
set_option maxHeartbeats 4000000 in
theorem lowM (pb : Nat) (PC : Array Value) (ab ib ci : Nat) (IL : List Value) (mm tt ob pr cp vb : Nat) (lo : Int) (vi : Nat) (li : Int) (w0 w : World) (X : Nat → Obj → Prop) (hO : Own w0 w [row (ab) 207 #[.slice (some ⟨ib, 0, none⟩) (mm + 1 + tt) (mm + 1 + tt + ci), .int .i32 0, .int .i32 0, .bool false, .bool false], row (ib) 29 (full exZ IL ci), row (ob) 204 #[.slice (some ⟨pr, 0, none⟩) 1 (1 + cp), .int .i32 0, .int .i32 0, .bool false, .bool false], row (pr) 52 (full prZ [.pointer none, .nilIface, .int .i32 0, .iface 56 (.pointer (some ⟨vb, 0, none⟩)), .int .i32 0, .nilIface, .int .i32 0, .slice none 0 0, .int .i32 0, .int .i32 0, .int .u8 5, .int .u8 0] cp), row (pb) 182 PC] X) (hk23 : PC[23]? = some (.int .u64 0)) (hI : ItP IL mm ob (mm + 1 + tt)) (hm4 : mm ≤ 4096) (ht4 : tt ≤ 4096) :
    Calls Tryz.prog 21 #[.pointer (some ⟨pb, 0, none⟩), .agg #[.iface 205 (.pointer (some ⟨ab, 0, none⟩)), .int .i32 lo], .agg #[.iface 56 (.pointer (some ⟨vi, 0, none⟩)), .int .i32 li], .int .u8 0] w (lowMPost pb PC ab ib ci IL mm tt ob pr cp vb lo vi li w0 X) := by
  go_enter Tryz.func21, Tryz.ntmps21
  have HI := Lib.hid hI
  clear hI
  obtain ⟨c9_0_0, c9_0_1, c9_0_2, c9_0_3, c9_0_4, lt9_0, y9_0, -⟩ := hO.k5 0 rfl
  obtain ⟨c9_2_0, c9_2_1, c9_2_2, c9_2_3, c9_2_4, lt9_2, y9_2, -⟩ := hO.k5 2 rfl
  have HO := Lib.hid hO
  clear hO
  go_wp2_with (first | (with_reducible refine Own.stay (fn := Tryz.f21) ?_) | fail)
  try with_reducible refine Own.Stay.mk ?_
  have hO := HO.out
  clear HO c9_0_0 c9_0_1 c9_0_2 c9_0_3 c9_0_4 lt9_0 y9_0 c9_2_0 c9_2_1 c9_2_2 c9_2_3 c9_2_4 lt9_2 y9_2
  generalize hW : World.alloc _ _ = W2
  have hN : Own w0 W2 [row (w.heap.size + 1 + 1) 29 #[.nilIface, .int .i32 0], row (w.heap.size + 1) 29 #[.iface 56 (.pointer (some ⟨vi, 0, none⟩)), .int .i32 li], row (w.heap.size) 29 #[.iface 205 (.pointer (some ⟨ab, 0, none⟩)), .int .i32 lo], row (ab) 207 #[.slice (some ⟨ib, 0, none⟩) (mm + 1 + tt) (mm + 1 + tt + ci), .int .i32 0, .int .i32 0, .bool false, .bool false], row (ib) 29 (full exZ IL ci), row (ob) 204 #[.slice (some ⟨pr, 0, none⟩) 1 (1 + cp), .int .i32 0, .int .i32 0, .bool false, .bool false], row (pr) 52 (full prZ [.pointer none, .nilIface, .int .i32 0, .iface 56 (.pointer (some ⟨vb, 0, none⟩)), .int .i32 0, .nilIface, .int .i32 0, .slice none 0 0, .int .i32 0, .int .i32 0, .int .u8 5, .int .u8 0] cp), row (pb) 182 PC] X := by
    rw [← hW]
    exact (((hO).alloc' _ (w.heap.size) (by simp)).alloc' _ (w.heap.size + 1) (by simp)).alloc' _ (w.heap.size + 1 + 1) (by simp)
  clear hW hO
  generalize w.heap.size + 1 + 1 = B1_2 at hN ⊢
  generalize w.heap.size + 1 = B1_1 at hN ⊢
  generalize w.heap.size = B1 at hN ⊢
  have hO := hN
  clear hN
  have hL := hO.apart
  have hX := hO.apartX
  have HL := Lib.hid hL
  have HX := Lib.hid hX
  clear hL hX
  have hP9 := hO.pick [3, 4, 5, 6] (by decide)
  have h9_hI : ItP IL mm ob (mm + 1 + tt) := HI.out
  have T9 := supA pb lo ab ib ci IL mm tt ob pr cp vb _ _ _ hP9 h9_hI hm4 ht4
  refine Calls.mono T9 ?_
  clear hP9 T9 h9_hI
  rintro e uw3 ⟨rfl, hQ⟩
  have hN : Own w0 uw3 [row (ab) 207 #[.slice (some ⟨ib, 0, none⟩) (mm + 1 + tt) (mm + 1 + tt + ci), .int .i32 0, .int .i32 0, .bool false, .bool false], row (ib) 29 (full exZ IL ci), row (ob) 204 #[.slice (some ⟨pr, 0, none⟩) 1 (1 + cp), .int .i32 0, .int .i32 0, .bool false, .bool false], row (pr) 52 (full prZ [.pointer none, .nilIface, .int .i32 0, .iface 56 (.pointer (some ⟨vb, 0, none⟩)), .int .i32 0, .nilIface, .int .i32 0, .slice none 0 0, .int .i32 0, .int .i32 0, .int .u8 5, .int .u8 0] cp), row (B1_2) 29 #[.nilIface, .int .i32 0], row (B1_1) 29 #[.iface 56 (.pointer (some ⟨vi, 0, none⟩)), .int .i32 li], row (B1) 29 #[.iface 205 (.pointer (some ⟨ab, 0, none⟩)), .int .i32 lo], row (pb) 182 PC] X := hQ.back HL.out HX.out [0, 1, 2, 7] (by decide) (by decide)
  clear hQ HL HX hO
  have hO := hN
  clear hN
  obtain ⟨ix9, hix9, hax9, hjx9⟩ := hO.ix
  have ix9_0 : ix9 ab = 0 := hjx9 0 _ _ rfl
  have ix9_1 : ix9 ib = 1 := hjx9 1 _ _ rfl
  have ix9_2 : ix9 ob = 2 := hjx9 2 _ _ rfl
  have ix9_3 : ix9 pr = 3 := hjx9 3 _ _ rfl
  have ix9_4 : ix9 B1_2 = 4 := hjx9 4 _ _ rfl
  have ix9_5 : ix9 B1_1 = 5 := hjx9 5 _ _ rfl
  have ix9_6 : ix9 B1 = 6 := hjx9 6 _ _ rfl
  have ix9_7 : ix9 pb = 7 := hjx9 7 _ _ rfl
  clear hjx9
  obtain ⟨c9_0_0, c9_0_1, c9_0_2, c9_0_3, c9_0_4, lt9_0, y9_0, -⟩ := hO.k5 0 rfl
  have pl9_1 : Base.plainAt uw3 (ib) = true := hO.plain 1 rfl
  obtain ⟨c9_2_0, c9_2_1, c9_2_2, c9_2_3, c9_2_4, lt9_2, y9_2, -⟩ := hO.k5 2 rfl
  have c9_3_0 : uw3.cell? ⟨pr, 0, none⟩ = some (.pointer none) := hO.cell 3 rfl (0) ((full_at rfl))
  have c9_3_1 : uw3.cell? ⟨pr, 1, none⟩ = some (.nilIface) := hO.cell 3 rfl (1) ((full_at rfl))
  have c9_3_2 : uw3.cell? ⟨pr, 2, none⟩ = some (.int .i32 0) := hO.cell 3 rfl (2) ((full_at rfl))
  have c9_3_3 : uw3.cell? ⟨pr, 3, none⟩ = some (.iface 56 (.pointer (some ⟨vb, 0, none⟩))) := hO.cell 3 rfl (3) ((full_at rfl))
  have c9_3_4 : uw3.cell? ⟨pr, 4, none⟩ = some (.int .i32 0) := hO.cell 3 rfl (4) ((full_at rfl))
  have c9_3_5 : uw3.cell? ⟨pr, 5, none⟩ = some (.nilIface) := hO.cell 3 rfl (5) ((full_at rfl))
  have c9_3_6 : uw3.cell? ⟨pr, 6, none⟩ = some (.int .i32 0) := hO.cell 3 rfl (6) ((full_at rfl))
  have c9_3_7 : uw3.cell? ⟨pr, 7, none⟩ = some (.slice none 0 0) := hO.cell 3 rfl (7) ((full_at rfl))
  have c9_3_8 : uw3.cell? ⟨pr, 8, none⟩ = some (.int .i32 0) := hO.cell 3 rfl (8) ((full_at rfl))
  have c9_3_9 : uw3.cell? ⟨pr, 9, none⟩ = some (.int .i32 0) := hO.cell 3 rfl (9) ((full_at rfl))
  have c9_3_10 : uw3.cell? ⟨pr, 10, none⟩ = some (.int .u8 5) := hO.cell 3 rfl (10) ((full_at rfl))
  have c9_3_11 : uw3.cell? ⟨pr, 11, none⟩ = some (.int .u8 0) := hO.cell 3 rfl (11) ((full_at rfl))
  have lt9_3 : pr < uw3.heap.size := hO.lt 3 rfl
  have y9_3 : ∀ o, uw3.frozen? ⟨pr, o, none⟩ = false := hO.free 3 rfl
  obtain ⟨c9_4_0, c9_4_1, lt9_4, y9_4, pl9_4⟩ := hO.k2 4 rfl
  obtain ⟨c9_5_0, c9_5_1, lt9_5, y9_5, pl9_5⟩ := hO.k2 5 rfl
  obtain ⟨c9_6_0, c9_6_1, lt9_6, y9_6, pl9_6⟩ := hO.k2 6 rfl
  have c9_7_23 : uw3.cell? ⟨pb, 23, none⟩ = some (.int .u64 0) := hO.cell 7 rfl (23) (hk23)
  have lt9_7 : pb < uw3.heap.size := hO.lt 7 rfl
  have y9_7 : ∀ o, uw3.frozen? ⟨pb, o, none⟩ = false := hO.free 7 rfl
  have HO := Lib.hid hO
  clear hO
  go_wp2_with (first | (with_reducible refine Own.stay (fn := Tryz.f21) ?_) | fail)
  try with_reducible refine Own.Stay.mk ?_
  have hO := HO.out
  clear HO hix9 hax9 ix9_0 ix9_1 ix9_2 ix9_3 ix9_4 ix9_5 ix9_6 ix9_7 ix9 c9_0_0 c9_0_1 c9_0_2 c9_0_3 c9_0_4 lt9_0 y9_0 pl9_1 c9_2_0 c9_2_1 c9_2_2 c9_2_3 c9_2_4 lt9_2 y9_2 c9_3_0 c9_3_1 c9_3_2 c9_3_3 c9_3_4 c9_3_5 c9_3_6 c9_3_7 c9_3_8 c9_3_9 c9_3_10 c9_3_11 lt9_3 y9_3 c9_4_0 c9_4_1 lt9_4 y9_4 pl9_4 c9_5_0 c9_5_1 lt9_5 y9_5 pl9_5 c9_6_0 c9_6_1 lt9_6 y9_6 pl9_6 c9_7_23 lt9_7 y9_7
  generalize hW : World.alloc _ _ = W5
  have hN : Own w0 W5 [row (uw3.heap.size) 29 #[.nilIface, .int .i32 0], row (ab) 207 #[.slice (some ⟨ib, 0, none⟩) (mm + 1 + tt) (mm + 1 + tt + ci), .int .i32 0, .int .i32 0, .bool false, .bool false], row (ib) 29 (full exZ IL ci), row (ob) 204 #[.slice (some ⟨pr, 0, none⟩) 1 (1 + cp), .int .i32 0, .int .i32 0, .bool false, .bool false], row (pr) 52 (full prZ [.pointer none, .nilIface, .int .i32 0, .iface 56 (.pointer (some ⟨vb, 0, none⟩)), .int .i32 0, .nilIface, .int .i32 0, .slice none 0 0, .int .i32 0, .int .i32 0, .int .u8 5, .int .u8 0] cp), row (B1_2) 29 #[.nilIface, .int .i32 0], row (B1_1) 29 #[.iface 56 (.pointer (some ⟨vi, 0, none⟩)), .int .i32 li], row (B1) 29 #[.iface 205 (.pointer (some ⟨ab, 0, none⟩)), .int .i32 lo], row (pb) 182 PC] X := by
    rw [← hW]
    exact (((hO).set 6 rfl 0 _).set 6 rfl 1 _).alloc' _ (uw3.heap.size) (by simp)
  clear hW hO
  generalize uw3.heap.size = B4 at hN ⊢
  have hO := hN
  clear hN
  have hL := hO.apart
  have hX := hO.apartX
  have HL := Lib.hid hL
  have HX := Lib.hid hX
  clear hL hX
  have hP9 := hO.pick [8] (by decide)
  have T9 := hlpN0 pb PC 205 ab B4 lo vi li _ _ _ hP9 hk23
  refine Calls.mono T9 ?_
  clear hP9 T9
  rintro e uw6 ⟨rfl, hQ⟩
  have hN : Own w0 uw6 [row (pb) 182 PC, row (B4) 29 #[.nilIface, .int .i32 0], row (ab) 207 #[.slice (some ⟨ib, 0, none⟩) (mm + 1 + tt) (mm + 1 + tt + ci), .int .i32 0, .int .i32 0, .bool false, .bool false], row (ib) 29 (full exZ IL ci), row (ob) 204 #[.slice (some ⟨pr, 0, none⟩) 1 (1 + cp), .int .i32 0, .int .i32 0, .bool false, .bool false], row (pr) 52 (full prZ [.pointer none, .nilIface, .int .i32 0, .iface 56 (.pointer (some ⟨vb, 0, none⟩)), .int .i32 0, .nilIface, .int .i32 0, .slice none 0 0, .int .i32 0, .int .i32 0, .int .u8 5, .int .u8 0] cp), row (B1_2) 29 #[.nilIface, .int .i32 0], row (B1_1) 29 #[.iface 56 (.pointer (some ⟨vi, 0, none⟩)), .int .i32 li], row (B1) 29 #[.iface 205 (.pointer (some ⟨ab, 0, none⟩)), .int .i32 lo]] X := hQ.back HL.out HX.out [0, 1, 2, 3, 4, 5, 6, 7] (by decide) (by decide)
  clear hQ HL HX hO
  have hO := hN
  clear hN
  obtain ⟨c9_1_0, c9_1_1, lt9_1, y9_1, -⟩ := hO.k2 1 rfl
  obtain ⟨c9_2_0, c9_2_1, c9_2_2, c9_2_3, c9_2_4, lt9_2, y9_2, -⟩ := hO.k5 2 rfl
  obtain ⟨c9_4_0, c9_4_1, c9_4_2, c9_4_3, c9_4_4, lt9_4, y9_4, -⟩ := hO.k5 4 rfl
  obtain ⟨c9_6_0, c9_6_1, lt9_6, y9_6, -⟩ := hO.k2 6 rfl
  obtain ⟨c9_7_0, c9_7_1, lt9_7, y9_7, -⟩ := hO.k2 7 rfl
  obtain ⟨c9_8_0, c9_8_1, lt9_8, y9_8, -⟩ := hO.k2 8 rfl
  have HO := Lib.hid hO
  clear hO
  go_wp2_with (first | (with_reducible refine Own.stay (fn := Tryz.f21) ?_) | fail)
  try with_reducible refine Own.Stay.mk ?_
  have hO := HO.out
  clear HO c9_1_0 c9_1_1 lt9_1 y9_1 c9_2_0 c9_2_1 c9_2_2 c9_2_3 c9_2_4 lt9_2 y9_2 c9_4_0 c9_4_1 c9_4_2 c9_4_3 c9_4_4 lt9_4 y9_4 c9_6_0 c9_6_1 lt9_6 y9_6 c9_7_0 c9_7_1 lt9_7 y9_7 c9_8_0 c9_8_1 lt9_8 y9_8
  generalize hW : World.setCell _ _ _ = W8
  have hN : Own w0 W8 [row (pb) 182 PC, row (B4) 29 #[.nilIface, .int .i32 0], row (ab) 207 #[.slice (some ⟨ib, 0, none⟩) (mm + 1 + tt) (mm + 1 + tt + ci), .int .i32 0, .int .i32 0, .bool false, .bool false], row (ib) 29 (full exZ IL ci), row (ob) 204 #[.slice (some ⟨pr, 0, none⟩) 1 (1 + cp), .int .i32 0, .int .i32 0, .bool false, .bool false], row (pr) 52 (full prZ [.pointer none, .nilIface, .int .i32 0, .iface 56 (.pointer (some ⟨vb, 0, none⟩)), .int .i32 0, .nilIface, .int .i32 0, .slice none 0 0, .int .i32 0, .int .i32 0, .int .u8 5, .int .u8 0] cp), row (B1_2) 29 #[.nilIface, .int .i32 0], row (B1_1) 29 #[.iface 56 (.pointer (some ⟨vi, 0, none⟩)), .int .i32 li], row (B1) 29 #[.iface 205 (.pointer (some ⟨ab, 0, none⟩)), .int .i32 lo]] X := by
    rw [← hW]
    exact ((hO).set 6 rfl 0 _).set 6 rfl 1 _
  clear hW hO
  have hO := hN
  clear hN
  have z9_6_0 : W8.cell? ⟨B1_2, 0, none⟩ = some (.nilIface) := hO.cell 6 rfl 0 rfl
  have z9_6_1 : W8.cell? ⟨B1_2, 1, none⟩ = some (.int .i32 0) := hO.cell 6 rfl 1 rfl
  refine bodyPost_ret (v := .tuple #[.agg #[.nilIface, .int .i32 0], .bool false]) ?_ rfl ⟨rfl, hO.sub [2, 3, 4, 5, 0] (by decide)⟩
  simp [results, Tryz.results21, go_sem, z9_6_0, z9_6_1]
def lowI0Post (pb : Nat) (PC : Array Value) (vl : Nat) (lo : Int) (vi : Nat) (li : Int) (w0 : World) (X : Nat → Obj → Prop) (e : Ending) (w' : World) : Prop :=
  e = .returned (.tuple #[.agg #[.nilIface, .int .i32 0], .bool false]) ∧ Own w0 w' [row (pb) 182 PC] X
set_option maxRecDepth 100000 in
set_option maxHeartbeats 4000000 in
theorem lowI0 (pb : Nat) (PC : Array Value) (vl : Nat) (lo : Int) (vi : Nat) (li : Int) (w0 w : World) (X : Nat → Obj → Prop) (hO : Own w0 w [row (pb) 182 PC] X) (hk23 : PC[23]? = some (.int .u64 0)) :
    Calls Tryz.prog 21 #[.pointer (some ⟨pb, 0, none⟩), .agg #[.iface 56 (.pointer (some ⟨vl, 0, none⟩)), .int .i32 lo], .agg #[.iface 56 (.pointer (some ⟨vi, 0, none⟩)), .int .i32 li], .int .u8 0] w (lowI0Post pb PC vl lo vi li w0 X) := by
  go_enter Tryz.func21, Tryz.ntmps21
  go_wp2_with (first | (with_reducible refine Own.stay (fn := Tryz.f21) ?_) | fail)
  try with_reducible refine Own.Stay.mk ?_
  generalize hW : World.alloc _ _ = W2
  have hN : Own w0 W2 [row (w.heap.size + 1 + 1) 29 #[.nilIface, .int .i32 0], row (w.heap.size + 1) 29 #[.iface 56 (.pointer (some ⟨vi, 0, none⟩)), .int .i32 li], row (w.heap.size) 29 #[.iface 56 (.pointer (some ⟨vl, 0, none⟩)), .int .i32 lo], row (pb) 182 PC] X := by
    rw [← hW]
    exact (((hO).alloc' _ (w.heap.size) (by simp)).alloc' _ (w.heap.size + 1) (by simp)).alloc' _ (w.heap.size + 1 + 1) (by simp)
  clear hW hO
  generalize w.heap.size + 1 + 1 = B1_2 at hN ⊢
  generalize w.heap.size + 1 = B1_1 at hN ⊢
  generalize w.heap.size = B1 at hN ⊢
  have hO := hN
  clear hN
  have hL := hO.apart
  have hX := hO.apartX
  have HL := Lib.hid hL
  have HX := Lib.hid hX
  clear hL hX
  have hP9 := hO.pick [] (by decide)
  have T9 := supI pb vl lo _ _ _ hP9 
  refine Calls.mono T9 ?_
  clear hP9 T9
  rintro e uw3 ⟨rfl, hQ⟩
  have hN : Own w0 uw3 [row (B1_2) 29 #[.nilIface, .int .i32 0], row (B1_1) 29 #[.iface 56 (.pointer (some ⟨vi, 0, none⟩)), .int .i32 li], row (B1) 29 #[.iface 56 (.pointer (some ⟨vl, 0, none⟩)), .int .i32 lo], row (pb) 182 PC] X := hQ.back HL.out HX.out [0, 1, 2, 3] (by decide) (by decide)
  clear hQ HL HX hO
  have hO := hN
  clear hN
  obtain ⟨ix9, hix9, hax9, hjx9⟩ := hO.ix
  have ix9_0 : ix9 B1_2 = 0 := hjx9 0 _ _ rfl
  have ix9_1 : ix9 B1_1 = 1 := hjx9 1 _ _ rfl
  have ix9_2 : ix9 B1 = 2 := hjx9 2 _ _ rfl
  have ix9_3 : ix9 pb = 3 := hjx9 3 _ _ rfl
  clear hjx9
  obtain ⟨c9_0_0, c9_0_1, lt9_0, y9_0, pl9_0⟩ := hO.k2 0 rfl
  obtain ⟨c9_1_0, c9_1_1, lt9_1, y9_1, pl9_1⟩ := hO.k2 1 rfl
  obtain ⟨c9_2_0, c9_2_1, lt9_2, y9_2, pl9_2⟩ := hO.k2 2 rfl
  have c9_3_23 : uw3.cell? ⟨pb, 23, none⟩ = some (.int .u64 0) := hO.cell 3 rfl (23) (hk23)
  have lt9_3 : pb < uw3.heap.size := hO.lt 3 rfl
  have y9_3 : ∀ o, uw3.frozen? ⟨pb, o, none⟩ = false := hO.free 3 rfl
  have HO := Lib.hid hO
  clear hO
  go_wp2_with (first | (with_reducible refine Own.stay (fn := Tryz.f21) ?_) | fail)
  try with_reducible refine Own.Stay.mk ?_
  have hO := HO.out
  clear HO hix9 hax9 ix9_0 ix9_1 ix9_2 ix9_3 ix9 c9_0_0 c9_0_1 lt9_0 y9_0 pl9_0 c9_1_0 c9_1_1 lt9_1 y9_1 pl9_1 c9_2_0 c9_2_1 lt9_2 y9_2 pl9_2 c9_3_23 lt9_3 y9_3
  generalize hW : World.alloc _ _ = W5
  have hN : Own w0 W5 [row (uw3.heap.size) 29 #[.nilIface, .int .i32 0], row (B1_2) 29 #[.nilIface, .int .i32 0], row (B1_1) 29 #[.iface 56 (.pointer (some ⟨vi, 0, none⟩)), .int .i32 li], row (B1) 29 #[.iface 56 (.pointer (some ⟨vl, 0, none⟩)), .int .i32 lo], row (pb) 182 PC] X := by
    rw [← hW]
    exact (((hO).set 2 rfl 0 _).set 2 rfl 1 _).alloc' _ (uw3.heap.size) (by simp)
  clear hW hO
  generalize uw3.heap.size = B4 at hN ⊢
  have hO := hN
  clear hN
  have hL := hO.apart
  have hX := hO.apartX
  have HL := Lib.hid hL
  have HX := Lib.hid hX
  clear hL hX
  have hP9 := hO.pick [4] (by decide)
  have T9 := hlpN0 pb PC 56 vl B4 lo vi li _ _ _ hP9 hk23
  refine Calls.mono T9 ?_
  clear hP9 T9
  rintro e uw6 ⟨rfl, hQ⟩
  have hN : Own w0 uw6 [row (pb) 182 PC, row (B4) 29 #[.nilIface, .int .i32 0], row (B1_2) 29 #[.nilIface, .int .i32 0], row (B1_1) 29 #[.iface 56 (.pointer (some ⟨vi, 0, none⟩)), .int .i32 li], row (B1) 29 #[.iface 56 (.pointer (some ⟨vl, 0, none⟩)), .int .i32 lo]] X := hQ.back HL.out HX.out [0, 1, 2, 3] (by decide) (by decide)
  clear hQ HL HX hO
  have hO := hN
  clear hN
  obtain ⟨c9_1_0, c9_1_1, lt9_1, y9_1, -⟩ := hO.k2 1 rfl
  obtain ⟨c9_2_0, c9_2_1, lt9_2, y9_2, -⟩ := hO.k2 2 rfl
  obtain ⟨c9_3_0, c9_3_1, lt9_3, y9_3, -⟩ := hO.k2 3 rfl
  obtain ⟨c9_4_0, c9_4_1, lt9_4, y9_4, -⟩ := hO.k2 4 rfl
  have HO := Lib.hid hO
  clear hO
  go_wp2_with (first | (with_reducible refine Own.stay (fn := Tryz.f21) ?_) | fail)
  try with_reducible refine Own.Stay.mk ?_
  have hO := HO.out
  clear HO c9_1_0 c9_1_1 lt9_1 y9_1 c9_2_0 c9_2_1 lt9_2 y9_2 c9_3_0 c9_3_1 lt9_3 y9_3 c9_4_0 c9_4_1 lt9_4 y9_4
  generalize hW : World.setCell _ _ _ = W8
  have hN : Own w0 W8 [row (pb) 182 PC, row (B4) 29 #[.nilIface, .int .i32 0], row (B1_2) 29 #[.nilIface, .int .i32 0], row (B1_1) 29 #[.iface 56 (.pointer (some ⟨vi, 0, none⟩)), .int .i32 li], row (B1) 29 #[.iface 56 (.pointer (some ⟨vl, 0, none⟩)), .int .i32 lo]] X := by
    rw [← hW]
    exact ((hO).set 2 rfl 0 _).set 2 rfl 1 _
  clear hW hO
  have hO := hN
  clear hN
  have z9_2_0 : W8.cell? ⟨B1_2, 0, none⟩ = some (.nilIface) := hO.cell 2 rfl 0 rfl
  have z9_2_1 : W8.cell? ⟨B1_2, 1, none⟩ = some (.int .i32 0) := hO.cell 2 rfl 1 rfl
  refine bodyPost_ret (v := .tuple #[.agg #[.nilIface, .int .i32 0], .bool false]) ?_ rfl ⟨rfl, hO.sub [0] (by decide)⟩
  simp [results, Tryz.results21, go_sem, z9_2_0, z9_2_1]
def lowI1Post (pb : Nat) (PC : Array Value) (vl : Nat) (lo : Int) (vi : Nat) (li : Int) (w0 : World) (X : Nat → Obj → Prop) (e : Ending) (w' : World) : Prop :=
  e = .returned (.tuple #[.agg #[.nilIface, .int .i32 0], .bool false]) ∧ Own w0 w' [row (pb) 182 PC] X
set_option maxRecDepth 100000 in
set_option maxHeartbeats 4000000 in
theorem lowI1 (pb : Nat) (PC : Array Value) (vl : Nat) (lo : Int) (vi : Nat) (li : Int) (w0 w : World) (X : Nat → Obj → Prop) (hO : Own w0 w [row (pb) 182 PC] X) (hk23 : PC[23]? = some (.int .u64 35184372088832)) :
    Calls Tryz.prog 21 #[.pointer (some ⟨pb, 0, none⟩), .agg #[.iface 56 (.pointer (some ⟨vl, 0, none⟩)), .int .i32 lo], .agg #[.iface 56 (.pointer (some ⟨vi, 0, none⟩)), .int .i32 li], .int .u8 0] w (lowI1Post pb PC vl lo vi li w0 X) := by
  go_enter Tryz.func21, Tryz.ntmps21
  go_wp2_with (first | (with_reducible refine Own.stay (fn := Tryz.f21) ?_) | fail)
  try with_reducible refine Own.Stay.mk ?_
  generalize hW : World.alloc _ _ = W2
  have hN : Own w0 W2 [row (w.heap.size + 1 + 1) 29 #[.nilIface, .int .i32 0], row (w.heap.size + 1) 29 #[.iface 56 (.pointer (some ⟨vi, 0, none⟩)), .int .i32 li], row (w.heap.size) 29 #[.iface 56 (.pointer (some ⟨vl, 0, none⟩)), .int .i32 lo], row (pb) 182 PC] X := by
    rw [← hW]
    exact (((hO).alloc' _ (w.heap.size) (by simp)).alloc' _ (w.heap.size + 1) (by simp)).alloc' _ (w.heap.size + 1 + 1) (by simp)
  clear hW hO
  generalize w.heap.size + 1 + 1 = B1_2 at hN ⊢
  generalize w.heap.size + 1 = B1_1 at hN ⊢
  generalize w.heap.size = B1 at hN ⊢
  have hO := hN
  clear hN
  have hL := hO.apart
  have hX := hO.apartX
  have HL := Lib.hid hL
  have HX := Lib.hid hX
  clear hL hX
  have hP9 := hO.pick [] (by decide)
  have T9 := supI pb vl lo _ _ _ hP9 
  refine Calls.mono T9 ?_
  clear hP9 T9
  rintro e uw3 ⟨rfl, hQ⟩
  have hN : Own w0 uw3 [row (B1_2) 29 #[.nilIface, .int .i32 0], row (B1_1) 29 #[.iface 56 (.pointer (some ⟨vi, 0, none⟩)), .int .i32 li], row (B1) 29 #[.iface 56 (.pointer (some ⟨vl, 0, none⟩)), .int .i32 lo], row (pb) 182 PC] X := hQ.back HL.out HX.out [0, 1, 2, 3] (by decide) (by decide)
  clear hQ HL HX hO
  have hO := hN
  clear hN
  obtain ⟨ix9, hix9, hax9, hjx9⟩ := hO.ix
  have ix9_0 : ix9 B1_2 = 0 := hjx9 0 _ _ rfl
  have ix9_1 : ix9 B1_1 = 1 := hjx9 1 _ _ rfl
  have ix9_2 : ix9 B1 = 2 := hjx9 2 _ _ rfl
  have ix9_3 : ix9 pb = 3 := hjx9 3 _ _ rfl
  clear hjx9
  obtain ⟨c9_0_0, c9_0_1, lt9_0, y9_0, pl9_0⟩ := hO.k2 0 rfl
  obtain ⟨c9_1_0, c9_1_1, lt9_1, y9_1, pl9_1⟩ := hO.k2 1 rfl
  obtain ⟨c9_2_0, c9_2_1, lt9_2, y9_2, pl9_2⟩ := hO.k2 2 rfl
  have c9_3_23 : uw3.cell? ⟨pb, 23, none⟩ = some (.int .u64 35184372088832) := hO.cell 3 rfl (23) (hk23)
  have lt9_3 : pb < uw3.heap.size := hO.lt 3 rfl
  have y9_3 : ∀ o, uw3.frozen? ⟨pb, o, none⟩ = false := hO.free 3 rfl
  have HO := Lib.hid hO
  clear hO
  go_wp2_with (first | (with_reducible refine Own.stay (fn := Tryz.f21) ?_) | fail)
  try with_reducible refine Own.Stay.mk ?_
  have hO := HO.out
  clear HO hix9 hax9 ix9_0 ix9_1 ix9_2 ix9_3 ix9 c9_0_0 c9_0_1 lt9_0 y9_0 pl9_0 c9_1_0 c9_1_1 lt9_1 y9_1 pl9_1 c9_2_0 c9_2_1 lt9_2 y9_2 pl9_2 c9_3_23 lt9_3 y9_3
  generalize hW : World.alloc _ _ = W5
  have hN : Own w0 W5 [row (uw3.heap.size) 29 #[.nilIface, .int .i32 0], row (B1_2) 29 #[.nilIface, .int .i32 0], row (B1_1) 29 #[.iface 56 (.pointer (some ⟨vi, 0, none⟩)), .int .i32 li], row (B1) 29 #[.iface 56 (.pointer (some ⟨vl, 0, none⟩)), .int .i32 lo], row (pb) 182 PC] X := by
    rw [← hW]
    exact (((hO).set 2 rfl 0 _).set 2 rfl 1 _).alloc' _ (uw3.heap.size) (by simp)
  clear hW hO
  generalize uw3.heap.size = B4 at hN ⊢
  have hO := hN
  clear hN
  have hL := hO.apart
  have hX := hO.apartX
  have HL := Lib.hid hL
  have HX := Lib.hid hX
  clear hL hX
  have hP9 := hO.pick [4] (by decide)
  have T9 := hlpN1 pb PC vl B4 lo vi li _ _ _ hP9 hk23
  refine Calls.mono T9 ?_
  clear hP9 T9
  rintro e uw6 ⟨rfl, hQ⟩
  have hN : Own w0 uw6 [row (pb) 182 PC, row (B4) 29 #[.nilIface, .int .i32 0], row (B1_2) 29 #[.nilIface, .int .i32 0], row (B1_1) 29 #[.iface 56 (.pointer (some ⟨vi, 0, none⟩)), .int .i32 li], row (B1) 29 #[.iface 56 (.pointer (some ⟨vl, 0, none⟩)), .int .i32 lo]] X := hQ.back HL.out HX.out [0, 1, 2, 3] (by decide) (by decide)
  clear hQ HL HX hO
  have hO := hN
  clear hN
  obtain ⟨c9_1_0, c9_1_1, lt9_1, y9_1, -⟩ := hO.k2 1 rfl
  obtain ⟨c9_2_0, c9_2_1, lt9_2, y9_2, -⟩ := hO.k2 2 rfl
  obtain ⟨c9_3_0, c9_3_1, lt9_3, y9_3, -⟩ := hO.k2 3 rfl
  obtain ⟨c9_4_0, c9_4_1, lt9_4, y9_4, -⟩ := hO.k2 4 rfl
  have HO := Lib.hid hO
  clear hO
  go_wp2_with (first | (with_reducible refine Own.stay (fn := Tryz.f21) ?_) | fail)
  try with_reducible refine Own.Stay.mk ?_
  have hO := HO.out
  clear HO c9_1_0 c9_1_1 lt9_1 y9_1 c9_2_0 c9_2_1 lt9_2 y9_2 c9_3_0 c9_3_1 lt9_3 y9_3 c9_4_0 c9_4_1 lt9_4 y9_4
  generalize hW : World.setCell _ _ _ = W8
  have hN : Own w0 W8 [row (pb) 182 PC, row (B4) 29 #[.nilIface, .int .i32 0], row (B1_2) 29 #[.nilIface, .int .i32 0], row (B1_1) 29 #[.iface 56 (.pointer (some ⟨vi, 0, none⟩)), .int .i32 li], row (B1) 29 #[.iface 56 (.pointer (some ⟨vl, 0, none⟩)), .int .i32 lo]] X := by
    rw [← hW]
    exact ((hO).set 2 rfl 0 _).set 2 rfl 1 _
  clear hW hO
  have hO := hN
  clear hN
  have z9_2_0 : W8.cell? ⟨B1_2, 0, none⟩ = some (.nilIface) := hO.cell 2 rfl 0 rfl
  have z9_2_1 : W8.cell? ⟨B1_2, 1, none⟩ = some (.int .i32 0) := hO.cell 2 rfl 1 rfl
  refine bodyPost_ret (v := .tuple #[.agg #[.nilIface, .int .i32 0], .bool false]) ?_ rfl ⟨rfl, hO.sub [0] (by decide)⟩
  simp [results, Tryz.results21, go_sem, z9_2_0, z9_2_1]
end Go.Proofs.YtghofdhhhbbaaaaGreatDoor.Use
