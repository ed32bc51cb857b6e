/- Several texts in one. No condition. -/
import Derived.Test.YtghofdhhhbbaaaaGreatDoorVm
import Derived.Test.YtghofdhhhbbaaaaGreatDoorVisa
import Derived.Test.YtghofdhhhbbaaaaGreatDoorFnda
import Derived.Test.YtghofdhhhbbaaaaGreatDoorFndk
import Derived.Test.YtghofdhhhbbaaaaGreatDoorWdh
import Derived.Test.YtghofdhhhbbaaaaGreatDoorGtR00
import Derived.Test.YtghofdhhhbbaaaaGreatDoorLiveG
import Derived.Test.YtghofdhhhbbaaaaGreatDoorAsg
import Derived.Test.YtghofdhhhbbaaaaGreatDoorIts
import Derived.Test.YtghofdhhhbbaaaaGreatDoorIfm
import Derived.Test.YtghofdhhhbbaaaaGreatDoorSla
import Derived.Test.YtghofdhhhbbaaaaGreatDoorLoop
import Derived.Test.YtghofdhhhbbaaaaGreatDoorMini
import Derived.Test.YtghofdhhhbbaaaaGreatDoorAppL
import Derived.Test.YtghofdhhhbbaaaaGreatDoorApp
import Derived.Test.YtghofdhhhbbaaaaGreatDoorOwnK
import Derived.Test.YtghofdhhhbbaaaaGreatDoorOwn
import Derived.Test.YtghofdhhhbbaaaaGreatDoorDeepCells
import Derived.Test.YtghofdhhhbbaaaaGreatDoorRows
import Derived.Test.YtghofdhhhbbaaaaGreatDoorLive
import Derived.Test.YtghofdhhhbbaaaaGreatDoorVl
import Derived.Test.YtghofdhhhbbaaaaGreatDoorHln
import Derived.Test.YtghofdhhhbbaaaaGreatDoorSupz
import Derived.Test.YtghofdhhhbbaaaaGreatDoorSup
namespace Go.Proofs.YtghofdhhhbbaaaaGreatDoor.Use
open Go.ChangeShapes Go.WideShapes Go.ChangeAt Go.RowKit Go.Sort Own
set_option linter.unusedVariables false
def hlpAPost (pb : Nat) (PC : Array Value) (sb c : Nat) (st : List Sy) (n : Nat) (src : Int) (i mp : Nat) (es : Array MapEntry) (k ms : Nat) (MC : Array Value) (ab ib ci : Nat) (IL : List Value) (mm tt ob pr cp vb eb : Nat) (wa lo : Int) (vi : Nat) (li : Int) (w0 : World) (X : Nat → Obj → Prop) (e : Ending) (w' : World) : Prop :=
  ∃ sb2 : Nat, ∃ c2 : Nat, ∃ gb2 : Nat, ∃ cg2 : Nat, ∃ qb2 : Nat, ∃ cq2 : Nat, ∃ xn : Nat, ∃ b1 : Nat, ∃ b2 : Nat, e = .returned (.tuple #[.nilFunc, .bool true]) ∧ Own w0 w' [row (eb) 29 #[.iface 241 (.pointer (some ⟨xn, 0, none⟩)), .int .i32 0], row (ab) 207 #[.slice (some ⟨ib, 0, none⟩) (mm + 1 + tt) (mm + 1 + tt + ci), .int .i32 0, .int .i32 0, .bool false, .bool false], row (ib) 29 (full exZ (iW (xt tt) IL mm b1 b2) ci), row (ob) 204 #[.slice (some ⟨pr, 0, none⟩) 1 (1 + cp), .int .i32 0, .int .i32 0, .bool false, .bool false], row (pr) 52 (full prZ [.pointer none, .nilIface, .int .i32 0, .iface 56 (.pointer (some ⟨vb, 0, none⟩)), .int .i32 0, .nilIface, .int .i32 0, .slice none 0 0, .int .i32 0, .int .i32 0, .int .u8 5, .int .u8 0] cp), row (pb) 182 (pcW PC i n (xt tt) sb2 c2 qb2 cq2), row (sb2) 201 (full symZ (symL (stW (xt tt) i n st)) c2), ((mp, .map (es.push ⟨.string ⟨#[95, 95, 111, 98, 106, 82, 101, 115, 116]⟩, .agg #[.int .i32 0, .int .u32 src, .int .u32 ((n + 1 + (xt tt) : Nat) : Int)], k⟩) (k + 1)) : Rw), row (ms) 194 (MC.setIfInBounds 5 (.slice (some ⟨gb2, 0, none⟩) (2 + (xt tt)) (2 + (xt tt) + cg2)))] X
set_option maxRecDepth 100000 in
set_option maxHeartbeats 4000000 in
theorem hlpA (pb : Nat) (PC : Array Value) (sb c : Nat) (st : List Sy) (n : Nat) (src : Int) (i mp : Nat) (es : Array MapEntry) (k ms : Nat) (MC : Array Value) (ab ib ci : Nat) (IL : List Value) (mm tt ob pr cp vb eb : Nat) (wa lo : Int) (vi : Nat) (li : Int) (w0 w : World) (X : Nat → Obj → Prop) (hO : Own w0 w [row (eb) 29 #[.nilIface, .int .i32 wa], row (ab) 207 #[.slice (some ⟨ib, 0, none⟩) (mm + 1 + tt) (mm + 1 + tt + ci), .int .i32 0, .int .i32 0, .bool false, .bool false], row (ib) 29 (full exZ IL ci), row (ob) 204 #[.slice (some ⟨pr, 0, none⟩) 1 (1 + cp), .int .i32 0, .int .i32 0, .bool false, .bool false], row (pr) 52 (full prZ [.pointer none, .nilIface, .int .i32 0, .iface 56 (.pointer (some ⟨vb, 0, none⟩)), .int .i32 0, .nilIface, .int .i32 0, .slice none 0 0, .int .i32 0, .int .i32 0, .int .u8 5, .int .u8 0] cp), row (pb) 182 PC, row (sb) 201 (full symZ (symL st) c), ((mp, .map es k) : Rw), row (ms) 194 MC] X) (hk350 : PC[350]? = some (.bool false)) (hk32 : PC[32]? = some (.bool false)) (hk105 : PC[105]? = some (.pointer none)) (hk66 : PC[66]? = some (.int .u32 src)) (hk117 : PC[117]? = some (.map (some mp))) (hk187 : PC[187]? = some (.pointer (some ⟨ms, 0, none⟩))) (hk104 : PC[104]? = some (.pointer (some ⟨ms, 0, none⟩))) (hkind : MC[15]? = some (.int .u8 6)) (hk287 : PC[287]? = some (.int .i64 (i : Int))) (hk199 : PC[199]? = some (.slice none 0 0)) (hgen : MC[5]? = some (.slice none 0 0)) (hk106 : PC[106]? = some (.slice (some ⟨sb, 0, none⟩) n (n + c))) (hn : st.length = n) (hnb : n ≤ 1000000) (hi : i ≤ 1000) (hub : UcB st 1000) (hno : Instr.findNow .string (.string ⟨#[95, 95, 111, 98, 106, 82, 101, 115, 116]⟩) es.toList 0 = some none) (hg0 : w0.cell? ⟨0, 0, none⟩ = some (.int .u32 4294967295)) (hg1 : w0.cell? ⟨0, 1, none⟩ = some (.int .u32 4294967295)) (hk23 : PC[23]? = some (.int .u64 35184372088832)) (hI : ItP IL mm ob (mm + 1 + tt)) (hm4 : mm ≤ 4096) (ht4 : tt ≤ 4096) :
    Calls Tryz.prog 28 #[.pointer (some ⟨pb, 0, none⟩), .agg #[.iface 205 (.pointer (some ⟨ab, 0, none⟩)), .int .i32 lo], .agg #[.iface 56 (.pointer (some ⟨vi, 0, none⟩)), .int .i32 li], .func (Fn.func 25) #[] #[.pointer (some ⟨eb, 0, none⟩)], .int .u8 0, .int .u8 0] w (hlpAPost pb PC sb c st n src i mp es k ms MC ab ib ci IL mm tt ob pr cp vb eb wa lo vi li w0 X) := by
  go_enter Tryz.func28, Tryz.ntmps28
  have HI := Lib.hid hI
  have HUB := Lib.hid hub
  clear hI hub
  have hmm := fun w => run_makeMap (P := Tryz.prog) 246 w
  have hbit : (bits BinOp.and .u64 35184372088832 35184372088832 != 0) = true := by kernel_rfl
  have fz0 : ∀ o, w.frozen? ⟨w.heap.size, o, none⟩ = false := fun o => frozen_beyond (by omega)
  have fz1 : ∀ o, w.frozen? ⟨w.heap.size + 1, o, none⟩ = false := fun o => frozen_beyond (by omega)
  have fz2 : ∀ o, w.frozen? ⟨w.heap.size + 1 + 1, o, none⟩ = false := fun o => frozen_beyond (by omega)
  have fz3 : ∀ o, w.frozen? ⟨w.heap.size + 1 + 1 + 1, o, none⟩ = false := fun o => frozen_beyond (by omega)
  have fz4 : ∀ o, w.frozen? ⟨w.heap.size + 1 + 1 + 1 + 1, o, none⟩ = false := fun o => frozen_beyond (by omega)
  have fz5 : ∀ o, w.frozen? ⟨w.heap.size + 1 + 1 + 1 + 1 + 1, o, none⟩ = false := fun o => frozen_beyond (by omega)
  have fz6 : ∀ o, w.frozen? ⟨w.heap.size + 1 + 1 + 1 + 1 + 1 + 1, o, none⟩ = false := fun o => frozen_beyond (by omega)
  have fz7 : ∀ o, w.frozen? ⟨w.heap.size + 1 + 1 + 1 + 1 + 1 + 1 + 1, o, none⟩ = false := fun o => frozen_beyond (by omega)
  have fz8 : ∀ o, w.frozen? ⟨w.heap.size + 1 + 1 + 1 + 1 + 1 + 1 + 1 + 1, o, none⟩ = false := fun o => frozen_beyond (by omega)
  obtain ⟨ix9, hix9, hax9, hjx9⟩ := hO.ix
  have ix9_0 : ix9 eb = 0 := hjx9 0 _ _ rfl
  have ix9_1 : ix9 ab = 1 := hjx9 1 _ _ rfl
  have ix9_2 : ix9 ib = 2 := hjx9 2 _ _ rfl
  have ix9_3 : ix9 ob = 3 := hjx9 3 _ _ rfl
  have ix9_4 : ix9 pr = 4 := hjx9 4 _ _ rfl
  have ix9_5 : ix9 pb = 5 := hjx9 5 _ _ rfl
  have ix9_6 : ix9 sb = 6 := hjx9 6 _ _ rfl
  have ix9_7 : ix9 mp = 7 := hjx9 7 _ _ rfl
  have ix9_8 : ix9 ms = 8 := hjx9 8 _ _ rfl
  clear hjx9
  obtain ⟨c9_0_0, c9_0_1, lt9_0, y9_0, pl9_0⟩ := hO.k2 0 rfl
  obtain ⟨c9_1_0, c9_1_1, c9_1_2, c9_1_3, c9_1_4, lt9_1, y9_1, -⟩ := hO.k5 1 rfl
  have pl9_2 : Base.plainAt w (ib) = true := hO.plain 2 rfl
  obtain ⟨c9_3_0, c9_3_1, c9_3_2, c9_3_3, c9_3_4, lt9_3, y9_3, -⟩ := hO.k5 3 rfl
  have c9_4_0 : w.cell? ⟨pr, 0, none⟩ = some (.pointer none) := hO.cell 4 rfl (0) ((full_at rfl))
  have c9_4_1 : w.cell? ⟨pr, 1, none⟩ = some (.nilIface) := hO.cell 4 rfl (1) ((full_at rfl))
  have c9_4_2 : w.cell? ⟨pr, 2, none⟩ = some (.int .i32 0) := hO.cell 4 rfl (2) ((full_at rfl))
  have c9_4_3 : w.cell? ⟨pr, 3, none⟩ = some (.iface 56 (.pointer (some ⟨vb, 0, none⟩))) := hO.cell 4 rfl (3) ((full_at rfl))
  have c9_4_4 : w.cell? ⟨pr, 4, none⟩ = some (.int .i32 0) := hO.cell 4 rfl (4) ((full_at rfl))
  have c9_4_5 : w.cell? ⟨pr, 5, none⟩ = some (.nilIface) := hO.cell 4 rfl (5) ((full_at rfl))
  have c9_4_6 : w.cell? ⟨pr, 6, none⟩ = some (.int .i32 0) := hO.cell 4 rfl (6) ((full_at rfl))
  have c9_4_7 : w.cell? ⟨pr, 7, none⟩ = some (.slice none 0 0) := hO.cell 4 rfl (7) ((full_at rfl))
  have c9_4_8 : w.cell? ⟨pr, 8, none⟩ = some (.int .i32 0) := hO.cell 4 rfl (8) ((full_at rfl))
  have c9_4_9 : w.cell? ⟨pr, 9, none⟩ = some (.int .i32 0) := hO.cell 4 rfl (9) ((full_at rfl))
  have c9_4_10 : w.cell? ⟨pr, 10, none⟩ = some (.int .u8 5) := hO.cell 4 rfl (10) ((full_at rfl))
  have c9_4_11 : w.cell? ⟨pr, 11, none⟩ = some (.int .u8 0) := hO.cell 4 rfl (11) ((full_at rfl))
  have lt9_4 : pr < w.heap.size := hO.lt 4 rfl
  have y9_4 : ∀ o, w.frozen? ⟨pr, o, none⟩ = false := hO.free 4 rfl
  have c9_5_23 : w.cell? ⟨pb, 23, none⟩ = some (.int .u64 35184372088832) := hO.cell 5 rfl (23) (hk23)
  have c9_5_32 : w.cell? ⟨pb, 32, none⟩ = some (.bool false) := hO.cell 5 rfl (32) (hk32)
  have c9_5_66 : w.cell? ⟨pb, 66, none⟩ = some (.int .u32 src) := hO.cell 5 rfl (66) (hk66)
  have c9_5_104 : w.cell? ⟨pb, 104, none⟩ = some (.pointer (some ⟨ms, 0, none⟩)) := hO.cell 5 rfl (104) (hk104)
  have c9_5_105 : w.cell? ⟨pb, 105, none⟩ = some (.pointer none) := hO.cell 5 rfl (105) (hk105)
  have c9_5_106 : w.cell? ⟨pb, 106, none⟩ = some (.slice (some ⟨sb, 0, none⟩) n (n + c)) := hO.cell 5 rfl (106) (hk106)
  have c9_5_117 : w.cell? ⟨pb, 117, none⟩ = some (.map (some mp)) := hO.cell 5 rfl (117) (hk117)
  have c9_5_187 : w.cell? ⟨pb, 187, none⟩ = some (.pointer (some ⟨ms, 0, none⟩)) := hO.cell 5 rfl (187) (hk187)
  have c9_5_199 : w.cell? ⟨pb, 199, none⟩ = some (.slice none 0 0) := hO.cell 5 rfl (199) (hk199)
  have c9_5_287 : w.cell? ⟨pb, 287, none⟩ = some (.int .i64 (i : Int)) := hO.cell 5 rfl (287) (hk287)
  have c9_5_350 : w.cell? ⟨pb, 350, none⟩ = some (.bool false) := hO.cell 5 rfl (350) (hk350)
  have lt9_5 : pb < w.heap.size := hO.lt 5 rfl
  have y9_5 : ∀ o, w.frozen? ⟨pb, o, none⟩ = false := hO.free 5 rfl
  have c9_8_5 : w.cell? ⟨ms, 5, none⟩ = some (.slice none 0 0) := hO.cell 8 rfl (5) (hgen)
  have c9_8_15 : w.cell? ⟨ms, 15, none⟩ = some (.int .u8 6) := hO.cell 8 rfl (15) (hkind)
  have lt9_8 : ms < w.heap.size := hO.lt 8 rfl
  have y9_8 : ∀ o, w.frozen? ⟨ms, o, none⟩ = false := hO.free 8 rfl
  have HO := Lib.hid hO
  clear hO
  go_wp2_with (first | (with_reducible refine Own.stay (fn := Tryz.f28) ?_) | (go_at_call 38; go_in))
  try with_reducible refine Own.Stay.mk ?_
  have hO := HO.out
  clear HO hix9 hax9 ix9_0 ix9_1 ix9_2 ix9_3 ix9_4 ix9_5 ix9_6 ix9_7 ix9_8 ix9 c9_0_0 c9_0_1 lt9_0 y9_0 pl9_0 c9_1_0 c9_1_1 c9_1_2 c9_1_3 c9_1_4 lt9_1 y9_1 pl9_2 c9_3_0 c9_3_1 c9_3_2 c9_3_3 c9_3_4 lt9_3 y9_3 c9_4_0 c9_4_1 c9_4_2 c9_4_3 c9_4_4 c9_4_5 c9_4_6 c9_4_7 c9_4_8 c9_4_9 c9_4_10 c9_4_11 lt9_4 y9_4 c9_5_23 c9_5_32 c9_5_66 c9_5_104 c9_5_105 c9_5_106 c9_5_117 c9_5_187 c9_5_199 c9_5_287 c9_5_350 lt9_5 y9_5 c9_8_5 c9_8_15 lt9_8 y9_8
  generalize hW : World.alloc _ _ = W2
  have hN : Own w0 W2 [row (w.heap.size + 1 + 1 + 1 + 1 + 1 + 1 + 1) 222 #[.func (Fn.func 39) #[] #[.pointer (some ⟨w.heap.size + 1 + 1 + 1 + 1 + 1 + 1 + 1, 0, none⟩), .pointer (some ⟨w.heap.size + 1 + 1 + 1 + 1 + 1 + 1, 0, none⟩)]], row (w.heap.size + 1 + 1 + 1 + 1 + 1 + 1) 246 #[.map (some (w.heap.size + 1 + 1 + 1 + 1 + 1))], ((w.heap.size + 1 + 1 + 1 + 1 + 1, .map #[] 0) : Rw), row (w.heap.size + 1 + 1 + 1 + 1) 214 #[.int .u8 0], row (w.heap.size + 1 + 1 + 1) 210 #[.func (Fn.func 25) #[] #[.pointer (some ⟨eb, 0, none⟩)]], row (w.heap.size + 1 + 1) 29 #[.iface 56 (.pointer (some ⟨vi, 0, none⟩)), .int .i32 li], row (w.heap.size + 1) 29 #[.iface 205 (.pointer (some ⟨ab, 0, none⟩)), .int .i32 lo], row (w.heap.size) 22 #[.pointer (some ⟨pb, 0, none⟩)], row (eb) 29 #[.nilIface, .int .i32 wa], row (ab) 207 #[.slice (some ⟨ib, 0, none⟩) (mm + 1 + tt) (mm + 1 + tt + ci), .int .i32 0, .int .i32 0, .bool false, .bool false], row (ib) 29 (full exZ IL ci), row (ob) 204 #[.slice (some ⟨pr, 0, none⟩) 1 (1 + cp), .int .i32 0, .int .i32 0, .bool false, .bool false], row (pr) 52 (full prZ [.pointer none, .nilIface, .int .i32 0, .iface 56 (.pointer (some ⟨vb, 0, none⟩)), .int .i32 0, .nilIface, .int .i32 0, .slice none 0 0, .int .i32 0, .int .i32 0, .int .u8 5, .int .u8 0] cp), row (pb) 182 PC, row (sb) 201 (full symZ (symL st) c), ((mp, .map es k) : Rw), row (ms) 194 MC] X := by
    rw [← hW]
    exact ((((((((hO).alloc' _ (w.heap.size) (by simp)).alloc' _ (w.heap.size + 1) (by simp)).alloc' _ (w.heap.size + 1 + 1) (by simp)).alloc' _ (w.heap.size + 1 + 1 + 1) (by simp)).alloc' _ (w.heap.size + 1 + 1 + 1 + 1) (by simp)).alloc' _ (w.heap.size + 1 + 1 + 1 + 1 + 1) (by simp)).alloc' _ (w.heap.size + 1 + 1 + 1 + 1 + 1 + 1) (by simp)).alloc' _ (w.heap.size + 1 + 1 + 1 + 1 + 1 + 1 + 1) (by simp)
  clear hW hO
  generalize w.heap.size + 1 + 1 + 1 + 1 + 1 + 1 + 1 = B1_7 at hN ⊢
  generalize w.heap.size + 1 + 1 + 1 + 1 + 1 + 1 = B1_6 at hN ⊢
  generalize w.heap.size + 1 + 1 + 1 + 1 + 1 = B1_5 at hN ⊢
  generalize w.heap.size + 1 + 1 + 1 + 1 = B1_4 at hN ⊢
  generalize w.heap.size + 1 + 1 + 1 = B1_3 at hN ⊢
  generalize w.heap.size + 1 + 1 = B1_2 at hN ⊢
  generalize w.heap.size + 1 = B1_1 at hN ⊢
  generalize w.heap.size = B1 at hN ⊢
  have hO := hN
  clear hN
  have hN : Own w0 W2 [row (B1_7) 222 #[.func (Fn.func 39) #[] #[.pointer (some ⟨B1_7, 0, none⟩), .pointer (some ⟨B1_6, 0, none⟩)]], row (B1_6) 246 #[.map (some (B1_5))], ((B1_5, .map (imA []) 0) : Rw), row (B1_4) 214 #[.int .u8 0], row (B1_3) 210 #[.func (Fn.func 25) #[] #[.pointer (some ⟨eb, 0, none⟩)]], row (B1_2) 29 #[.iface 56 (.pointer (some ⟨vi, 0, none⟩)), .int .i32 li], row (B1_1) 29 #[.iface 205 (.pointer (some ⟨ab, 0, none⟩)), .int .i32 lo], row (B1) 22 #[.pointer (some ⟨pb, 0, none⟩)], row (eb) 29 #[.nilIface, .int .i32 wa], row (ab) 207 #[.slice (some ⟨ib, 0, none⟩) (mm + 1 + tt) (mm + 1 + tt + ci), .int .i32 0, .int .i32 0, .bool false, .bool false], row (ib) 29 (full exZ IL ci), row (ob) 204 #[.slice (some ⟨pr, 0, none⟩) 1 (1 + cp), .int .i32 0, .int .i32 0, .bool false, .bool false], row (pr) 52 (full prZ [.pointer none, .nilIface, .int .i32 0, .iface 56 (.pointer (some ⟨vb, 0, none⟩)), .int .i32 0, .nilIface, .int .i32 0, .slice none 0 0, .int .i32 0, .int .i32 0, .int .u8 5, .int .u8 0] cp), row (pb) 182 PC, row (sb) 201 (full symZ (symL st) c), ((mp, .map es k) : Rw), row (ms) 194 MC] X := hO
  clear hO
  have hO := hN
  clear hN
  have hL := hO.apart
  have hX := hO.apartX
  have HL := Lib.hid hL
  have HX := Lib.hid hX
  clear hL hX
  have hP9 := hO.pick [0, 1, 2, 9, 10, 11, 12] (by decide)
  have h9_hI : ItP IL mm ob (mm + 1 + tt) := HI.out
  have T9 := fndA B1_7 B1_6 B1_5 lo ab ib ci IL mm tt ob pr cp vb _ _ _ hP9 h9_hI hm4 ht4
  refine Calls.mono T9 ?_
  clear hP9 T9 h9_hI
  rintro e uw3 ⟨rfl, hQ⟩
  have hN : Own w0 uw3 [row (B1_7) 222 #[.func (Fn.func 39) #[] #[.pointer (some ⟨B1_7, 0, none⟩), .pointer (some ⟨B1_6, 0, none⟩)]], row (B1_6) 246 #[.map (some B1_5)], ((B1_5, .map (imA [(202, ob), (205, ab)]) 2) : Rw), row (ab) 207 #[.slice (some ⟨ib, 0, none⟩) (mm + 1 + tt) (mm + 1 + tt + ci), .int .i32 0, .int .i32 0, .bool false, .bool false], row (ib) 29 (full exZ IL ci), row (ob) 204 #[.slice (some ⟨pr, 0, none⟩) 1 (1 + cp), .int .i32 0, .int .i32 0, .bool false, .bool false], row (pr) 52 (full prZ [.pointer none, .nilIface, .int .i32 0, .iface 56 (.pointer (some ⟨vb, 0, none⟩)), .int .i32 0, .nilIface, .int .i32 0, .slice none 0 0, .int .i32 0, .int .i32 0, .int .u8 5, .int .u8 0] cp), row (B1_4) 214 #[.int .u8 0], row (B1_3) 210 #[.func (Fn.func 25) #[] #[.pointer (some ⟨eb, 0, none⟩)]], row (B1_2) 29 #[.iface 56 (.pointer (some ⟨vi, 0, none⟩)), .int .i32 li], row (B1_1) 29 #[.iface 205 (.pointer (some ⟨ab, 0, none⟩)), .int .i32 lo], row (B1) 22 #[.pointer (some ⟨pb, 0, none⟩)], row (eb) 29 #[.nilIface, .int .i32 wa], row (pb) 182 PC, row (sb) 201 (full symZ (symL st) c), ((mp, .map es k) : Rw), row (ms) 194 MC] X := hQ.back HL.out HX.out [3, 4, 5, 6, 7, 8, 13, 14, 15, 16] (by decide) (by decide)
  clear hQ HL HX hO
  have hO := hN
  clear hN
  clear fz0 fz1 fz2 fz3 fz4 fz5 fz6 fz7 fz8
  obtain ⟨c9_0_0, lt9_0, y9_0, -⟩ := hO.k1 0 rfl
  obtain ⟨c9_1_0, lt9_1, y9_1, -⟩ := hO.k1 1 rfl
  obtain ⟨c9_3_0, c9_3_1, c9_3_2, c9_3_3, c9_3_4, lt9_3, y9_3, -⟩ := hO.k5 3 rfl
  obtain ⟨c9_5_0, c9_5_1, c9_5_2, c9_5_3, c9_5_4, lt9_5, y9_5, -⟩ := hO.k5 5 rfl
  obtain ⟨c9_7_0, lt9_7, y9_7, -⟩ := hO.k1 7 rfl
  obtain ⟨c9_8_0, lt9_8, y9_8, -⟩ := hO.k1 8 rfl
  obtain ⟨c9_9_0, c9_9_1, lt9_9, y9_9, -⟩ := hO.k2 9 rfl
  obtain ⟨c9_10_0, c9_10_1, lt9_10, y9_10, -⟩ := hO.k2 10 rfl
  obtain ⟨c9_11_0, lt9_11, y9_11, -⟩ := hO.k1 11 rfl
  obtain ⟨c9_12_0, c9_12_1, lt9_12, y9_12, -⟩ := hO.k2 12 rfl
  have HO := Lib.hid hO
  clear hO
  have hmb9 : (Builtin.len_ #[246] 3 #[.map (some B1_5)]).run Tryz.prog uw3 = .ok (.int .i64 2) uw3 := run_len_map uw3 246 3 _ _ _ (by kernel_rfl) (HO.out.get 2 rfl)
  have fz0 : ∀ o, uw3.frozen? ⟨uw3.heap.size, o, none⟩ = false := fun o => frozen_beyond (by omega)
  have fz1 : ∀ o, uw3.frozen? ⟨uw3.heap.size + 1, o, none⟩ = false := fun o => frozen_beyond (by omega)
  have fz2 : ∀ o, uw3.frozen? ⟨uw3.heap.size + 1 + 1, o, none⟩ = false := fun o => frozen_beyond (by omega)
  have fz3 : ∀ o, uw3.frozen? ⟨uw3.heap.size + 1 + 1 + 1, o, none⟩ = false := fun o => frozen_beyond (by omega)
  have fz4 : ∀ o, uw3.frozen? ⟨uw3.heap.size + 1 + 1 + 1 + 1, o, none⟩ = false := fun o => frozen_beyond (by omega)
  have fz5 : ∀ o, uw3.frozen? ⟨uw3.heap.size + 1 + 1 + 1 + 1 + 1, o, none⟩ = false := fun o => frozen_beyond (by omega)
  have fz6 : ∀ o, uw3.frozen? ⟨uw3.heap.size + 1 + 1 + 1 + 1 + 1 + 1, o, none⟩ = false := fun o => frozen_beyond (by omega)
  have fz7 : ∀ o, uw3.frozen? ⟨uw3.heap.size + 1 + 1 + 1 + 1 + 1 + 1 + 1, o, none⟩ = false := fun o => frozen_beyond (by omega)
  have fz8 : ∀ o, uw3.frozen? ⟨uw3.heap.size + 1 + 1 + 1 + 1 + 1 + 1 + 1 + 1, o, none⟩ = false := fun o => frozen_beyond (by omega)
  go_wp2_with (first | (with_reducible refine Own.stay (fn := Tryz.f28) ?_) | (go_at_call 38; go_in))
  try with_reducible refine Own.Stay.mk ?_
  have hO := HO.out
  clear HO c9_0_0 lt9_0 y9_0 c9_1_0 lt9_1 y9_1 c9_3_0 c9_3_1 c9_3_2 c9_3_3 c9_3_4 lt9_3 y9_3 c9_5_0 c9_5_1 c9_5_2 c9_5_3 c9_5_4 lt9_5 y9_5 c9_7_0 lt9_7 y9_7 c9_8_0 lt9_8 y9_8 c9_9_0 c9_9_1 lt9_9 y9_9 c9_10_0 c9_10_1 lt9_10 y9_10 c9_11_0 lt9_11 y9_11 c9_12_0 c9_12_1 lt9_12 y9_12
  generalize hW : World.alloc _ _ = W5
  have hN : Own w0 W5 [row (uw3.heap.size + 1 + 1 + 1 + 1) 256 #[.func (Fn.func 44) #[] #[.pointer (some ⟨uw3.heap.size + 1, 0, none⟩), .pointer (some ⟨B1, 0, none⟩), .pointer (some ⟨B1_4, 0, none⟩), .pointer (some ⟨B1_3, 0, none⟩), .pointer (some ⟨uw3.heap.size, 0, none⟩)]], row (uw3.heap.size + 1 + 1 + 1) 254 #[.func (Fn.func 43) #[] #[.pointer (some ⟨B1, 0, none⟩), .pointer (some ⟨B1_4, 0, none⟩), .pointer (some ⟨B1_3, 0, none⟩), .pointer (some ⟨uw3.heap.size, 0, none⟩)]], row (uw3.heap.size + 1 + 1) 251 #[.func (Fn.func 42) #[] #[.pointer (some ⟨uw3.heap.size + 1, 0, none⟩), .pointer (some ⟨B1_3, 0, none⟩), .pointer (some ⟨B1, 0, none⟩)]], row (uw3.heap.size + 1) 249 #[.func (Fn.func 40) #[] #[.pointer (some ⟨B1, 0, none⟩), .pointer (some ⟨B1_4, 0, none⟩), .pointer (some ⟨B1_3, 0, none⟩)]], row (uw3.heap.size) 247 #[.func (Fn.func 45) #[] #[.pointer (some ⟨B1_6, 0, none⟩), .pointer (some ⟨uw3.heap.size + 1 + 1 + 1, 0, none⟩), .pointer (some ⟨uw3.heap.size + 1 + 1, 0, none⟩), .pointer (some ⟨B1, 0, none⟩), .pointer (some ⟨uw3.heap.size + 1 + 1 + 1 + 1, 0, none⟩), .pointer (some ⟨B1_3, 0, none⟩)]], row (B1_7) 222 #[.func (Fn.func 39) #[] #[.pointer (some ⟨B1_7, 0, none⟩), .pointer (some ⟨B1_6, 0, none⟩)]], row (B1_6) 246 #[.map (some B1_5)], ((B1_5, .map (imA [(202, ob), (205, ab)]) 2) : Rw), row (ab) 207 #[.slice (some ⟨ib, 0, none⟩) (mm + 1 + tt) (mm + 1 + tt + ci), .int .i32 0, .int .i32 0, .bool false, .bool false], row (ib) 29 (full exZ IL ci), row (ob) 204 #[.slice (some ⟨pr, 0, none⟩) 1 (1 + cp), .int .i32 0, .int .i32 0, .bool false, .bool false], row (pr) 52 (full prZ [.pointer none, .nilIface, .int .i32 0, .iface 56 (.pointer (some ⟨vb, 0, none⟩)), .int .i32 0, .nilIface, .int .i32 0, .slice none 0 0, .int .i32 0, .int .i32 0, .int .u8 5, .int .u8 0] cp), row (B1_4) 214 #[.int .u8 0], row (B1_3) 210 #[.func (Fn.func 25) #[] #[.pointer (some ⟨eb, 0, none⟩)]], row (B1_2) 29 #[.iface 56 (.pointer (some ⟨vi, 0, none⟩)), .int .i32 li], row (B1_1) 29 #[.iface 205 (.pointer (some ⟨ab, 0, none⟩)), .int .i32 lo], row (B1) 22 #[.pointer (some ⟨pb, 0, none⟩)], row (eb) 29 #[.nilIface, .int .i32 wa], row (pb) 182 PC, row (sb) 201 (full symZ (symL st) c), ((mp, .map es k) : Rw), row (ms) 194 MC] X := by
    rw [← hW]
    exact (((((hO).alloc' _ (uw3.heap.size) (by simp)).alloc' _ (uw3.heap.size + 1) (by simp)).alloc' _ (uw3.heap.size + 1 + 1) (by simp)).alloc' _ (uw3.heap.size + 1 + 1 + 1) (by simp)).alloc' _ (uw3.heap.size + 1 + 1 + 1 + 1) (by simp)
  clear hW hO
  generalize uw3.heap.size + 1 + 1 + 1 + 1 = B4_4 at hN ⊢
  generalize uw3.heap.size + 1 + 1 + 1 = B4_3 at hN ⊢
  generalize uw3.heap.size + 1 + 1 = B4_2 at hN ⊢
  generalize uw3.heap.size + 1 = B4_1 at hN ⊢
  generalize uw3.heap.size = B4 at hN ⊢
  have hO := hN
  clear hN
  have hL := hO.apart
  have hX := hO.apartX
  have HL := Lib.hid hL
  have HX := Lib.hid hX
  clear hL hX
  have hP9 := hO.pick [6, 1, 4, 16, 12, 13, 2, 7, 17, 8, 9, 10, 11, 18, 19, 20, 21] (by decide)
  have h9_hub : UcB st 1000 := HUB.out
  have h9_hI : ItP IL mm ob (mm + 1 + tt) := HI.out
  have T9 := visA pb PC sb c st n src i mp es k ms MC ab ib ci IL mm tt ob pr cp vb B1 B1_4 B1_3 B4 B1_6 B4_3 B4_2 B4_4 B4_1 eb B1_5 wa lo vi li _ _ _ hP9 hk350 hk32 hk105 hk66 hk117 hk187 hk104 hkind hk287 hk199 hgen hk106 hn hnb hi h9_hub hno hg0 hg1 h9_hI hm4 ht4
  refine Calls.mono T9 ?_
  clear hP9 T9 h9_hub h9_hI
  rintro e uw6 ⟨nd7, nd8, nd9, nd10, nd11, nd12, nd13, nd14, nd15, rfl, hQ⟩
  have hN : Own w0 uw6 [row (eb) 29 #[.iface 241 (.pointer (some ⟨nd13, 0, none⟩)), .int .i32 0], row (ab) 207 #[.slice (some ⟨ib, 0, none⟩) (mm + 1 + tt) (mm + 1 + tt + ci), .int .i32 0, .int .i32 0, .bool false, .bool false], row (ib) 29 (full exZ (iW (xt tt) IL mm nd14 nd15) ci), row (ob) 204 #[.slice (some ⟨pr, 0, none⟩) 1 (1 + cp), .int .i32 0, .int .i32 0, .bool false, .bool false], row (pr) 52 (full prZ [.pointer none, .nilIface, .int .i32 0, .iface 56 (.pointer (some ⟨vb, 0, none⟩)), .int .i32 0, .nilIface, .int .i32 0, .slice none 0 0, .int .i32 0, .int .i32 0, .int .u8 5, .int .u8 0] cp), row (pb) 182 (pcW PC i n (xt tt) nd7 nd8 nd11 nd12), row (nd7) 201 (full symZ (symL (stW (xt tt) i n st)) nd8), ((mp, .map (es.push ⟨.string ⟨#[95, 95, 111, 98, 106, 82, 101, 115, 116]⟩, .agg #[.int .i32 0, .int .u32 src, .int .u32 ((n + 1 + (xt tt) : Nat) : Int)], k⟩) (k + 1)) : Rw), row (ms) 194 (MC.setIfInBounds 5 (.slice (some ⟨nd9, 0, none⟩) (2 + (xt tt)) (2 + (xt tt) + nd10))), row (B4_4) 256 #[.func (Fn.func 44) #[] #[.pointer (some ⟨B4_1, 0, none⟩), .pointer (some ⟨B1, 0, none⟩), .pointer (some ⟨B1_4, 0, none⟩), .pointer (some ⟨B1_3, 0, none⟩), .pointer (some ⟨B4, 0, none⟩)]], row (B4_1) 249 #[.func (Fn.func 40) #[] #[.pointer (some ⟨B1, 0, none⟩), .pointer (some ⟨B1_4, 0, none⟩), .pointer (some ⟨B1_3, 0, none⟩)]], row (B1_7) 222 #[.func (Fn.func 39) #[] #[.pointer (some ⟨B1_7, 0, none⟩), .pointer (some ⟨B1_6, 0, none⟩)]], row (B1_2) 29 #[.iface 56 (.pointer (some ⟨vi, 0, none⟩)), .int .i32 li], row (B1_1) 29 #[.iface 205 (.pointer (some ⟨ab, 0, none⟩)), .int .i32 lo]] X := hQ.back HL.out HX.out [0, 3, 5, 14, 15] (by decide) (by decide)
  clear hQ HL HX hO
  have hO := hN
  clear hN
  obtain ⟨c9_0_0, c9_0_1, lt9_0, y9_0, -⟩ := hO.k2 0 rfl
  obtain ⟨c9_1_0, c9_1_1, c9_1_2, c9_1_3, c9_1_4, lt9_1, y9_1, -⟩ := hO.k5 1 rfl
  obtain ⟨c9_3_0, c9_3_1, c9_3_2, c9_3_3, c9_3_4, lt9_3, y9_3, -⟩ := hO.k5 3 rfl
  obtain ⟨c9_9_0, lt9_9, y9_9, -⟩ := hO.k1 9 rfl
  obtain ⟨c9_10_0, lt9_10, y9_10, -⟩ := hO.k1 10 rfl
  obtain ⟨c9_11_0, lt9_11, y9_11, -⟩ := hO.k1 11 rfl
  obtain ⟨c9_12_0, c9_12_1, lt9_12, y9_12, -⟩ := hO.k2 12 rfl
  obtain ⟨c9_13_0, c9_13_1, lt9_13, y9_13, -⟩ := hO.k2 13 rfl
  have HO := Lib.hid hO
  clear hO
  go_wp2_with (first | (with_reducible refine Own.stay (fn := Tryz.f28) ?_) | (go_at_call 38; go_in))
  try with_reducible refine Own.Stay.mk ?_
  have hO := HO.out
  clear HO c9_0_0 c9_0_1 lt9_0 y9_0 c9_1_0 c9_1_1 c9_1_2 c9_1_3 c9_1_4 lt9_1 y9_1 c9_3_0 c9_3_1 c9_3_2 c9_3_3 c9_3_4 lt9_3 y9_3 c9_9_0 lt9_9 y9_9 c9_10_0 lt9_10 y9_10 c9_11_0 lt9_11 y9_11 c9_12_0 c9_12_1 lt9_12 y9_12 c9_13_0 c9_13_1 lt9_13 y9_13
  refine bodyPost_ret (v := .tuple #[.nilFunc, .bool true]) ?_ rfl ⟨nd7, nd8, nd9, nd10, nd11, nd12, nd13, nd14, nd15, rfl, hO.sub [0, 1, 2, 3, 4, 5, 6, 7, 8] (by decide)⟩
  simp [results, Tryz.results28, go_sem]
end Go.Proofs.YtghofdhhhbbaaaaGreatDoor.Use
namespace Go.Proofs.YtghofdhhhbbaaaaGreatDoor.Use
open Go.ChangeShapes Go.WideShapes Go.ChangeAt Go.RowKit Go.Sort Own
set_option linter.unusedVariables false
def lowAPost (pb : Nat) (PC : Array Value) (sb c : Nat) (st : List Sy) (n : Nat) (src : Int) (i mp : Nat) (es : Array MapEntry) (k ms : Nat) (MC : Array Value) (ab ib ci : Nat) (IL : List Value) (mm tt ob pr cp vb : Nat) (lo : Int) (vi : Nat) (li : Int) (w0 : World) (X : Nat → Obj → Prop) (e : Ending) (w' : World) : Prop :=
  ∃ sb2 : Nat, ∃ c2 : Nat, ∃ gb2 : Nat, ∃ cg2 : Nat, ∃ qb2 : Nat, ∃ cq2 : Nat, ∃ xn : Nat, ∃ b1 : Nat, ∃ b2 : Nat, e = .returned (.tuple #[.agg #[.iface 241 (.pointer (some ⟨xn, 0, none⟩)), .int .i32 0], .bool true]) ∧ Own w0 w' [row (ab) 207 #[.slice (some ⟨ib, 0, none⟩) (mm + 1 + tt) (mm + 1 + tt + ci), .int .i32 0, .int .i32 0, .bool false, .bool false], row (ib) 29 (full exZ (iW (xt tt) IL mm b1 b2) ci), row (ob) 204 #[.slice (some ⟨pr, 0, none⟩) 1 (1 + cp), .int .i32 0, .int .i32 0, .bool false, .bool false], row (pr) 52 (full prZ [.pointer none, .nilIface, .int .i32 0, .iface 56 (.pointer (some ⟨vb, 0, none⟩)), .int .i32 0, .nilIface, .int .i32 0, .slice none 0 0, .int .i32 0, .int .i32 0, .int .u8 5, .int .u8 0] cp), row (pb) 182 (pcW PC i n (xt tt) sb2 c2 qb2 cq2), row (sb2) 201 (full symZ (symL (stW (xt tt) i n st)) c2), ((mp, .map (es.push ⟨.string ⟨#[95, 95, 111, 98, 106, 82, 101, 115, 116]⟩, .agg #[.int .i32 0, .int .u32 src, .int .u32 ((n + 1 + (xt tt) : Nat) : Int)], k⟩) (k + 1)) : Rw), row (ms) 194 (MC.setIfInBounds 5 (.slice (some ⟨gb2, 0, none⟩) (2 + (xt tt)) (2 + (xt tt) + cg2)))] X
set_option maxRecDepth 100000 in
set_option maxHeartbeats 4000000 in
theorem lowA (pb : Nat) (PC : Array Value) (sb c : Nat) (st : List Sy) (n : Nat) (src : Int) (i mp : Nat) (es : Array MapEntry) (k ms : Nat) (MC : Array Value) (ab ib ci : Nat) (IL : List Value) (mm tt ob pr cp vb : Nat) (lo : Int) (vi : Nat) (li : Int) (w0 w : World) (X : Nat → Obj → Prop) (hO : Own w0 w [row (ab) 207 #[.slice (some ⟨ib, 0, none⟩) (mm + 1 + tt) (mm + 1 + tt + ci), .int .i32 0, .int .i32 0, .bool false, .bool false], row (ib) 29 (full exZ IL ci), row (ob) 204 #[.slice (some ⟨pr, 0, none⟩) 1 (1 + cp), .int .i32 0, .int .i32 0, .bool false, .bool false], row (pr) 52 (full prZ [.pointer none, .nilIface, .int .i32 0, .iface 56 (.pointer (some ⟨vb, 0, none⟩)), .int .i32 0, .nilIface, .int .i32 0, .slice none 0 0, .int .i32 0, .int .i32 0, .int .u8 5, .int .u8 0] cp), row (pb) 182 PC, row (sb) 201 (full symZ (symL st) c), ((mp, .map es k) : Rw), row (ms) 194 MC] X) (hk350 : PC[350]? = some (.bool false)) (hk32 : PC[32]? = some (.bool false)) (hk105 : PC[105]? = some (.pointer none)) (hk66 : PC[66]? = some (.int .u32 src)) (hk117 : PC[117]? = some (.map (some mp))) (hk187 : PC[187]? = some (.pointer (some ⟨ms, 0, none⟩))) (hk104 : PC[104]? = some (.pointer (some ⟨ms, 0, none⟩))) (hkind : MC[15]? = some (.int .u8 6)) (hk287 : PC[287]? = some (.int .i64 (i : Int))) (hk199 : PC[199]? = some (.slice none 0 0)) (hgen : MC[5]? = some (.slice none 0 0)) (hk106 : PC[106]? = some (.slice (some ⟨sb, 0, none⟩) n (n + c))) (hn : st.length = n) (hnb : n ≤ 1000000) (hi : i ≤ 1000) (hub : UcB st 1000) (hno : Instr.findNow .string (.string ⟨#[95, 95, 111, 98, 106, 82, 101, 115, 116]⟩) es.toList 0 = some none) (hg0 : w0.cell? ⟨0, 0, none⟩ = some (.int .u32 4294967295)) (hg1 : w0.cell? ⟨0, 1, none⟩ = some (.int .u32 4294967295)) (hk23 : PC[23]? = some (.int .u64 35184372088832)) (hI : ItP IL mm ob (mm + 1 + tt)) (hm4 : mm ≤ 4096) (ht4 : tt ≤ 4096) :
    Calls Tryz.prog 21 #[.pointer (some ⟨pb, 0, none⟩), .agg #[.iface 205 (.pointer (some ⟨ab, 0, none⟩)), .int .i32 lo], .agg #[.iface 56 (.pointer (some ⟨vi, 0, none⟩)), .int .i32 li], .int .u8 0] w (lowAPost pb PC sb c st n src i mp es k ms MC ab ib ci IL mm tt ob pr cp vb lo vi li w0 X) := by
  go_enter Tryz.func21, Tryz.ntmps21
  have HI := Lib.hid hI
  clear hI
  have HUB := Lib.hid hub
  clear hub
  have hnf9 : ∀ w, (binOp .neq 211 .nilFunc .nilFunc).run Tryz.prog w = .ok (.bool false) w := fun w => by kernel_rfl
  obtain ⟨c9_0_0, c9_0_1, c9_0_2, c9_0_3, c9_0_4, lt9_0, y9_0, -⟩ := hO.k5 0 rfl
  obtain ⟨c9_2_0, c9_2_1, c9_2_2, c9_2_3, c9_2_4, lt9_2, y9_2, -⟩ := hO.k5 2 rfl
  have HO := Lib.hid hO
  clear hO
  go_wp2_with (first | (with_reducible refine Own.stay (fn := Tryz.f21) ?_) | fail)
  try with_reducible refine Own.Stay.mk ?_
  have hO := HO.out
  clear HO c9_0_0 c9_0_1 c9_0_2 c9_0_3 c9_0_4 lt9_0 y9_0 c9_2_0 c9_2_1 c9_2_2 c9_2_3 c9_2_4 lt9_2 y9_2
  generalize hW : World.alloc _ _ = W2
  have hN : Own w0 W2 [row (w.heap.size + 1 + 1) 29 #[.nilIface, .int .i32 0], row (w.heap.size + 1) 29 #[.iface 56 (.pointer (some ⟨vi, 0, none⟩)), .int .i32 li], row (w.heap.size) 29 #[.iface 205 (.pointer (some ⟨ab, 0, none⟩)), .int .i32 lo], row (ab) 207 #[.slice (some ⟨ib, 0, none⟩) (mm + 1 + tt) (mm + 1 + tt + ci), .int .i32 0, .int .i32 0, .bool false, .bool false], row (ib) 29 (full exZ IL ci), row (ob) 204 #[.slice (some ⟨pr, 0, none⟩) 1 (1 + cp), .int .i32 0, .int .i32 0, .bool false, .bool false], row (pr) 52 (full prZ [.pointer none, .nilIface, .int .i32 0, .iface 56 (.pointer (some ⟨vb, 0, none⟩)), .int .i32 0, .nilIface, .int .i32 0, .slice none 0 0, .int .i32 0, .int .i32 0, .int .u8 5, .int .u8 0] cp), row (pb) 182 PC, row (sb) 201 (full symZ (symL st) c), ((mp, .map es k) : Rw), row (ms) 194 MC] X := by
    rw [← hW]
    exact (((hO).alloc' _ (w.heap.size) (by simp)).alloc' _ (w.heap.size + 1) (by simp)).alloc' _ (w.heap.size + 1 + 1) (by simp)
  clear hW hO
  generalize w.heap.size + 1 + 1 = B1_2 at hN ⊢
  generalize w.heap.size + 1 = B1_1 at hN ⊢
  generalize w.heap.size = B1 at hN ⊢
  have hO := hN
  clear hN
  have hL := hO.apart
  have hX := hO.apartX
  have HL := Lib.hid hL
  have HX := Lib.hid hX
  clear hL hX
  have hP9 := hO.pick [3, 4, 5, 6] (by decide)
  have h9_hI : ItP IL mm ob (mm + 1 + tt) := HI.out
  have T9 := supA pb lo ab ib ci IL mm tt ob pr cp vb _ _ _ hP9 h9_hI hm4 ht4
  refine Calls.mono T9 ?_
  clear hP9 T9 h9_hI
  rintro e uw3 ⟨rfl, hQ⟩
  have hN : Own w0 uw3 [row (ab) 207 #[.slice (some ⟨ib, 0, none⟩) (mm + 1 + tt) (mm + 1 + tt + ci), .int .i32 0, .int .i32 0, .bool false, .bool false], row (ib) 29 (full exZ IL ci), row (ob) 204 #[.slice (some ⟨pr, 0, none⟩) 1 (1 + cp), .int .i32 0, .int .i32 0, .bool false, .bool false], row (pr) 52 (full prZ [.pointer none, .nilIface, .int .i32 0, .iface 56 (.pointer (some ⟨vb, 0, none⟩)), .int .i32 0, .nilIface, .int .i32 0, .slice none 0 0, .int .i32 0, .int .i32 0, .int .u8 5, .int .u8 0] cp), row (B1_2) 29 #[.nilIface, .int .i32 0], row (B1_1) 29 #[.iface 56 (.pointer (some ⟨vi, 0, none⟩)), .int .i32 li], row (B1) 29 #[.iface 205 (.pointer (some ⟨ab, 0, none⟩)), .int .i32 lo], row (pb) 182 PC, row (sb) 201 (full symZ (symL st) c), ((mp, .map es k) : Rw), row (ms) 194 MC] X := hQ.back HL.out HX.out [0, 1, 2, 7, 8, 9, 10] (by decide) (by decide)
  clear hQ HL HX hO
  have hO := hN
  clear hN
  obtain ⟨ix9, hix9, hax9, hjx9⟩ := hO.ix
  have ix9_0 : ix9 ab = 0 := hjx9 0 _ _ rfl
  have ix9_1 : ix9 ib = 1 := hjx9 1 _ _ rfl
  have ix9_2 : ix9 ob = 2 := hjx9 2 _ _ rfl
  have ix9_3 : ix9 pr = 3 := hjx9 3 _ _ rfl
  have ix9_4 : ix9 B1_2 = 4 := hjx9 4 _ _ rfl
  have ix9_5 : ix9 B1_1 = 5 := hjx9 5 _ _ rfl
  have ix9_6 : ix9 B1 = 6 := hjx9 6 _ _ rfl
  have ix9_7 : ix9 pb = 7 := hjx9 7 _ _ rfl
  have ix9_8 : ix9 sb = 8 := hjx9 8 _ _ rfl
  have ix9_9 : ix9 mp = 9 := hjx9 9 _ _ rfl
  have ix9_10 : ix9 ms = 10 := hjx9 10 _ _ rfl
  clear hjx9
  obtain ⟨c9_0_0, c9_0_1, c9_0_2, c9_0_3, c9_0_4, lt9_0, y9_0, -⟩ := hO.k5 0 rfl
  have pl9_1 : Base.plainAt uw3 (ib) = true := hO.plain 1 rfl
  obtain ⟨c9_2_0, c9_2_1, c9_2_2, c9_2_3, c9_2_4, lt9_2, y9_2, -⟩ := hO.k5 2 rfl
  have c9_3_0 : uw3.cell? ⟨pr, 0, none⟩ = some (.pointer none) := hO.cell 3 rfl (0) ((full_at rfl))
  have c9_3_1 : uw3.cell? ⟨pr, 1, none⟩ = some (.nilIface) := hO.cell 3 rfl (1) ((full_at rfl))
  have c9_3_2 : uw3.cell? ⟨pr, 2, none⟩ = some (.int .i32 0) := hO.cell 3 rfl (2) ((full_at rfl))
  have c9_3_3 : uw3.cell? ⟨pr, 3, none⟩ = some (.iface 56 (.pointer (some ⟨vb, 0, none⟩))) := hO.cell 3 rfl (3) ((full_at rfl))
  have c9_3_4 : uw3.cell? ⟨pr, 4, none⟩ = some (.int .i32 0) := hO.cell 3 rfl (4) ((full_at rfl))
  have c9_3_5 : uw3.cell? ⟨pr, 5, none⟩ = some (.nilIface) := hO.cell 3 rfl (5) ((full_at rfl))
  have c9_3_6 : uw3.cell? ⟨pr, 6, none⟩ = some (.int .i32 0) := hO.cell 3 rfl (6) ((full_at rfl))
  have c9_3_7 : uw3.cell? ⟨pr, 7, none⟩ = some (.slice none 0 0) := hO.cell 3 rfl (7) ((full_at rfl))
  have c9_3_8 : uw3.cell? ⟨pr, 8, none⟩ = some (.int .i32 0) := hO.cell 3 rfl (8) ((full_at rfl))
  have c9_3_9 : uw3.cell? ⟨pr, 9, none⟩ = some (.int .i32 0) := hO.cell 3 rfl (9) ((full_at rfl))
  have c9_3_10 : uw3.cell? ⟨pr, 10, none⟩ = some (.int .u8 5) := hO.cell 3 rfl (10) ((full_at rfl))
  have c9_3_11 : uw3.cell? ⟨pr, 11, none⟩ = some (.int .u8 0) := hO.cell 3 rfl (11) ((full_at rfl))
  have lt9_3 : pr < uw3.heap.size := hO.lt 3 rfl
  have y9_3 : ∀ o, uw3.frozen? ⟨pr, o, none⟩ = false := hO.free 3 rfl
  obtain ⟨c9_4_0, c9_4_1, lt9_4, y9_4, pl9_4⟩ := hO.k2 4 rfl
  obtain ⟨c9_5_0, c9_5_1, lt9_5, y9_5, pl9_5⟩ := hO.k2 5 rfl
  obtain ⟨c9_6_0, c9_6_1, lt9_6, y9_6, pl9_6⟩ := hO.k2 6 rfl
  have c9_7_23 : uw3.cell? ⟨pb, 23, none⟩ = some (.int .u64 35184372088832) := hO.cell 7 rfl (23) (hk23)
  have c9_7_32 : uw3.cell? ⟨pb, 32, none⟩ = some (.bool false) := hO.cell 7 rfl (32) (hk32)
  have c9_7_66 : uw3.cell? ⟨pb, 66, none⟩ = some (.int .u32 src) := hO.cell 7 rfl (66) (hk66)
  have c9_7_104 : uw3.cell? ⟨pb, 104, none⟩ = some (.pointer (some ⟨ms, 0, none⟩)) := hO.cell 7 rfl (104) (hk104)
  have c9_7_105 : uw3.cell? ⟨pb, 105, none⟩ = some (.pointer none) := hO.cell 7 rfl (105) (hk105)
  have c9_7_106 : uw3.cell? ⟨pb, 106, none⟩ = some (.slice (some ⟨sb, 0, none⟩) n (n + c)) := hO.cell 7 rfl (106) (hk106)
  have c9_7_117 : uw3.cell? ⟨pb, 117, none⟩ = some (.map (some mp)) := hO.cell 7 rfl (117) (hk117)
  have c9_7_187 : uw3.cell? ⟨pb, 187, none⟩ = some (.pointer (some ⟨ms, 0, none⟩)) := hO.cell 7 rfl (187) (hk187)
  have c9_7_199 : uw3.cell? ⟨pb, 199, none⟩ = some (.slice none 0 0) := hO.cell 7 rfl (199) (hk199)
  have c9_7_287 : uw3.cell? ⟨pb, 287, none⟩ = some (.int .i64 (i : Int)) := hO.cell 7 rfl (287) (hk287)
  have c9_7_350 : uw3.cell? ⟨pb, 350, none⟩ = some (.bool false) := hO.cell 7 rfl (350) (hk350)
  have lt9_7 : pb < uw3.heap.size := hO.lt 7 rfl
  have y9_7 : ∀ o, uw3.frozen? ⟨pb, o, none⟩ = false := hO.free 7 rfl
  have c9_10_5 : uw3.cell? ⟨ms, 5, none⟩ = some (.slice none 0 0) := hO.cell 10 rfl (5) (hgen)
  have c9_10_15 : uw3.cell? ⟨ms, 15, none⟩ = some (.int .u8 6) := hO.cell 10 rfl (15) (hkind)
  have lt9_10 : ms < uw3.heap.size := hO.lt 10 rfl
  have y9_10 : ∀ o, uw3.frozen? ⟨ms, o, none⟩ = false := hO.free 10 rfl
  have HO := Lib.hid hO
  clear hO
  go_wp2_with (first | (with_reducible refine Own.stay (fn := Tryz.f21) ?_) | fail)
  try with_reducible refine Own.Stay.mk ?_
  have hO := HO.out
  clear HO hix9 hax9 ix9_0 ix9_1 ix9_2 ix9_3 ix9_4 ix9_5 ix9_6 ix9_7 ix9_8 ix9_9 ix9_10 ix9 c9_0_0 c9_0_1 c9_0_2 c9_0_3 c9_0_4 lt9_0 y9_0 pl9_1 c9_2_0 c9_2_1 c9_2_2 c9_2_3 c9_2_4 lt9_2 y9_2 c9_3_0 c9_3_1 c9_3_2 c9_3_3 c9_3_4 c9_3_5 c9_3_6 c9_3_7 c9_3_8 c9_3_9 c9_3_10 c9_3_11 lt9_3 y9_3 c9_4_0 c9_4_1 lt9_4 y9_4 pl9_4 c9_5_0 c9_5_1 lt9_5 y9_5 pl9_5 c9_6_0 c9_6_1 lt9_6 y9_6 pl9_6 c9_7_23 c9_7_32 c9_7_66 c9_7_104 c9_7_105 c9_7_106 c9_7_117 c9_7_187 c9_7_199 c9_7_287 c9_7_350 lt9_7 y9_7 c9_10_5 c9_10_15 lt9_10 y9_10
  generalize hW : World.alloc _ _ = W5
  have hN : Own w0 W5 [row (uw3.heap.size) 29 #[.nilIface, .int .i32 0], row (ab) 207 #[.slice (some ⟨ib, 0, none⟩) (mm + 1 + tt) (mm + 1 + tt + ci), .int .i32 0, .int .i32 0, .bool false, .bool false], row (ib) 29 (full exZ IL ci), row (ob) 204 #[.slice (some ⟨pr, 0, none⟩) 1 (1 + cp), .int .i32 0, .int .i32 0, .bool false, .bool false], row (pr) 52 (full prZ [.pointer none, .nilIface, .int .i32 0, .iface 56 (.pointer (some ⟨vb, 0, none⟩)), .int .i32 0, .nilIface, .int .i32 0, .slice none 0 0, .int .i32 0, .int .i32 0, .int .u8 5, .int .u8 0] cp), row (B1_2) 29 #[.nilIface, .int .i32 0], row (B1_1) 29 #[.iface 56 (.pointer (some ⟨vi, 0, none⟩)), .int .i32 li], row (B1) 29 #[.iface 205 (.pointer (some ⟨ab, 0, none⟩)), .int .i32 lo], row (pb) 182 PC, row (sb) 201 (full symZ (symL st) c), ((mp, .map es k) : Rw), row (ms) 194 MC] X := by
    rw [← hW]
    exact (((hO).set 6 rfl 0 _).set 6 rfl 1 _).alloc' _ (uw3.heap.size) (by simp)
  clear hW hO
  generalize uw3.heap.size = B4 at hN ⊢
  have hO := hN
  clear hN
  have hL := hO.apart
  have hX := hO.apartX
  have HL := Lib.hid hL
  have HX := Lib.hid hX
  clear hL hX
  have hP9 := hO.pick [0, 1, 2, 3, 4, 8, 9, 10, 11] (by decide)
  have h9_hub : UcB st 1000 := HUB.out
  have h9_hI : ItP IL mm ob (mm + 1 + tt) := HI.out
  have T9 := hlpA pb PC sb c st n src i mp es k ms MC ab ib ci IL mm tt ob pr cp vb B4 0 lo vi li _ _ _ hP9 hk350 hk32 hk105 hk66 hk117 hk187 hk104 hkind hk287 hk199 hgen hk106 hn hnb hi h9_hub hno hg0 hg1 hk23 h9_hI hm4 ht4
  refine Calls.mono T9 ?_
  clear hP9 T9 h9_hub h9_hI
  rintro e uw6 ⟨nd7, nd8, nd9, nd10, nd11, nd12, nd13, nd14, nd15, rfl, hQ⟩
  have hN : Own w0 uw6 [row (B4) 29 #[.iface 241 (.pointer (some ⟨nd13, 0, none⟩)), .int .i32 0], row (ab) 207 #[.slice (some ⟨ib, 0, none⟩) (mm + 1 + tt) (mm + 1 + tt + ci), .int .i32 0, .int .i32 0, .bool false, .bool false], row (ib) 29 (full exZ (iW (xt tt) IL mm nd14 nd15) ci), row (ob) 204 #[.slice (some ⟨pr, 0, none⟩) 1 (1 + cp), .int .i32 0, .int .i32 0, .bool false, .bool false], row (pr) 52 (full prZ [.pointer none, .nilIface, .int .i32 0, .iface 56 (.pointer (some ⟨vb, 0, none⟩)), .int .i32 0, .nilIface, .int .i32 0, .slice none 0 0, .int .i32 0, .int .i32 0, .int .u8 5, .int .u8 0] cp), row (pb) 182 (pcW PC i n (xt tt) nd7 nd8 nd11 nd12), row (nd7) 201 (full symZ (symL (stW (xt tt) i n st)) nd8), ((mp, .map (es.push ⟨.string ⟨#[95, 95, 111, 98, 106, 82, 101, 115, 116]⟩, .agg #[.int .i32 0, .int .u32 src, .int .u32 ((n + 1 + (xt tt) : Nat) : Int)], k⟩) (k + 1)) : Rw), row (ms) 194 (MC.setIfInBounds 5 (.slice (some ⟨nd9, 0, none⟩) (2 + (xt tt)) (2 + (xt tt) + nd10))), row (B1_2) 29 #[.nilIface, .int .i32 0], row (B1_1) 29 #[.iface 56 (.pointer (some ⟨vi, 0, none⟩)), .int .i32 li], row (B1) 29 #[.iface 205 (.pointer (some ⟨ab, 0, none⟩)), .int .i32 lo]] X := hQ.back HL.out HX.out [5, 6, 7] (by decide) (by decide)
  clear hQ HL HX hO
  have hO := hN
  clear hN
  obtain ⟨c9_0_0, c9_0_1, lt9_0, y9_0, -⟩ := hO.k2 0 rfl
  obtain ⟨c9_1_0, c9_1_1, c9_1_2, c9_1_3, c9_1_4, lt9_1, y9_1, -⟩ := hO.k5 1 rfl
  obtain ⟨c9_3_0, c9_3_1, c9_3_2, c9_3_3, c9_3_4, lt9_3, y9_3, -⟩ := hO.k5 3 rfl
  obtain ⟨c9_9_0, c9_9_1, lt9_9, y9_9, -⟩ := hO.k2 9 rfl
  obtain ⟨c9_10_0, c9_10_1, lt9_10, y9_10, -⟩ := hO.k2 10 rfl
  obtain ⟨c9_11_0, c9_11_1, lt9_11, y9_11, -⟩ := hO.k2 11 rfl
  have HO := Lib.hid hO
  clear hO
  go_wp2_with (first | (with_reducible refine Own.stay (fn := Tryz.f21) ?_) | fail)
  try with_reducible refine Own.Stay.mk ?_
  have hO := HO.out
  clear HO c9_0_0 c9_0_1 lt9_0 y9_0 c9_1_0 c9_1_1 c9_1_2 c9_1_3 c9_1_4 lt9_1 y9_1 c9_3_0 c9_3_1 c9_3_2 c9_3_3 c9_3_4 lt9_3 y9_3 c9_9_0 c9_9_1 lt9_9 y9_9 c9_10_0 c9_10_1 lt9_10 y9_10 c9_11_0 c9_11_1 lt9_11 y9_11
  generalize hW : World.setCell _ _ _ = W17
  have hN : Own w0 W17 [row (B4) 29 #[.iface 241 (.pointer (some ⟨nd13, 0, none⟩)), .int .i32 0], row (ab) 207 #[.slice (some ⟨ib, 0, none⟩) (mm + 1 + tt) (mm + 1 + tt + ci), .int .i32 0, .int .i32 0, .bool false, .bool false], row (ib) 29 (full exZ (iW (xt tt) IL mm nd14 nd15) ci), row (ob) 204 #[.slice (some ⟨pr, 0, none⟩) 1 (1 + cp), .int .i32 0, .int .i32 0, .bool false, .bool false], row (pr) 52 (full prZ [.pointer none, .nilIface, .int .i32 0, .iface 56 (.pointer (some ⟨vb, 0, none⟩)), .int .i32 0, .nilIface, .int .i32 0, .slice none 0 0, .int .i32 0, .int .i32 0, .int .u8 5, .int .u8 0] cp), row (pb) 182 (pcW PC i n (xt tt) nd7 nd8 nd11 nd12), row (nd7) 201 (full symZ (symL (stW (xt tt) i n st)) nd8), ((mp, .map (es.push ⟨.string ⟨#[95, 95, 111, 98, 106, 82, 101, 115, 116]⟩, .agg #[.int .i32 0, .int .u32 src, .int .u32 ((n + 1 + (xt tt) : Nat) : Int)], k⟩) (k + 1)) : Rw), row (ms) 194 (MC.setIfInBounds 5 (.slice (some ⟨nd9, 0, none⟩) (2 + (xt tt)) (2 + (xt tt) + nd10))), row (B1_2) 29 #[.iface 241 (.pointer (some ⟨nd13, 0, none⟩)), .int .i32 0], row (B1_1) 29 #[.iface 56 (.pointer (some ⟨vi, 0, none⟩)), .int .i32 li], row (B1) 29 #[.iface 205 (.pointer (some ⟨ab, 0, none⟩)), .int .i32 lo]] X := by
    rw [← hW]
    exact ((hO).set 9 rfl 0 _).set 9 rfl 1 _
  clear hW hO
  have hO := hN
  clear hN
  have z9_9_0 : W17.cell? ⟨B1_2, 0, none⟩ = some (.iface 241 (.pointer (some ⟨nd13, 0, none⟩))) := hO.cell 9 rfl 0 rfl
  have z9_9_1 : W17.cell? ⟨B1_2, 1, none⟩ = some (.int .i32 0) := hO.cell 9 rfl 1 rfl
  refine bodyPost_ret (v := .tuple #[.agg #[.iface 241 (.pointer (some ⟨nd13, 0, none⟩)), .int .i32 0], .bool true]) ?_ rfl ⟨nd7, nd8, nd9, nd10, nd11, nd12, nd13, nd14, nd15, rfl, hO.sub [1, 2, 3, 4, 5, 6, 7, 8] (by decide)⟩
  simp [results, Tryz.results21, go_sem, z9_9_0, z9_9_1]
end Go.Proofs.YtghofdhhhbbaaaaGreatDoor.Use
namespace Go.Proofs.YtghofdhhhbbaaaaGreatDoor.Use
open Go.ChangeShapes Go.WideShapes Go.ChangeAt Go.RowKit Go.Sort Own
set_option linter.unusedVariables false
def dlowAPost (pb : Nat) (PC : Array Value) (sb c : Nat) (st : List Sy) (n : Nat) (src : Int) (i mp : Nat) (es : Array MapEntry) (k ms : Nat) (MC : Array Value) (ab ib ci : Nat) (IL : List Value) (mm tt ob pr cp vb : Nat) (lo : Int) (vi : Nat) (li : Int) (w0 : World) (X : Nat → Obj → Prop) (e : Ending) (w' : World) : Prop :=
  ∃ sb2 : Nat, ∃ c2 : Nat, ∃ gb2 : Nat, ∃ cg2 : Nat, ∃ qb2 : Nat, ∃ cq2 : Nat, ∃ xn : Nat, ∃ b1 : Nat, ∃ b2 : Nat, e = .returned (.tuple #[.agg #[.iface 241 (.pointer (some ⟨xn, 0, none⟩)), .int .i32 0], .bool true]) ∧ Own w0 w' [row (ab) 207 #[.slice (some ⟨ib, 0, none⟩) (mm + 1 + tt) (mm + 1 + tt + ci), .int .i32 0, .int .i32 0, .bool false, .bool false], row (ib) 29 (full exZ (iW (xt tt) IL mm b1 b2) ci), row (ob) 204 #[.slice (some ⟨pr, 0, none⟩) 1 (1 + cp), .int .i32 0, .int .i32 0, .bool false, .bool false], row (pr) 52 (full prZ [.pointer none, .nilIface, .int .i32 0, .iface 56 (.pointer (some ⟨vb, 0, none⟩)), .int .i32 0, .nilIface, .int .i32 0, .slice none 0 0, .int .i32 0, .int .i32 0, .int .u8 5, .int .u8 0] cp), row (pb) 182 (pcW PC i n (xt tt) sb2 c2 qb2 cq2), row (sb2) 201 (full symZ (symL (stW (xt tt) i n st)) c2), ((mp, .map (es.push ⟨.string ⟨#[95, 95, 111, 98, 106, 82, 101, 115, 116]⟩, .agg #[.int .i32 0, .int .u32 src, .int .u32 ((n + 1 + (xt tt) : Nat) : Int)], k⟩) (k + 1)) : Rw), row (ms) 194 (MC.setIfInBounds 5 (.slice (some ⟨gb2, 0, none⟩) (2 + (xt tt)) (2 + (xt tt) + cg2)))] X
set_option maxRecDepth 100000 in
set_option maxHeartbeats 1000000 in
theorem dlowA (pb : Nat) (PC : Array Value) (sb c : Nat) (st : List Sy) (n : Nat) (src : Int) (i mp : Nat) (es : Array MapEntry) (k ms : Nat) (MC : Array Value) (ab ib ci : Nat) (IL : List Value) (mm tt ob pr cp vb : Nat) (lo : Int) (vi : Nat) (li : Int) (w0 w : World) (X : Nat → Obj → Prop) (hO : Own w0 w [row (ab) 207 #[.slice (some ⟨ib, 0, none⟩) (mm + 1 + tt) (mm + 1 + tt + ci), .int .i32 0, .int .i32 0, .bool false, .bool false], row (ib) 29 (full exZ IL ci), row (ob) 204 #[.slice (some ⟨pr, 0, none⟩) 1 (1 + cp), .int .i32 0, .int .i32 0, .bool false, .bool false], row (pr) 52 (full prZ [.pointer none, .nilIface, .int .i32 0, .iface 56 (.pointer (some ⟨vb, 0, none⟩)), .int .i32 0, .nilIface, .int .i32 0, .slice none 0 0, .int .i32 0, .int .i32 0, .int .u8 5, .int .u8 0] cp), row (pb) 182 PC, row (sb) 201 (full symZ (symL st) c), ((mp, .map es k) : Rw), row (ms) 194 MC] X) (hk350 : PC[350]? = some (.bool false)) (hk32 : PC[32]? = some (.bool false)) (hk105 : PC[105]? = some (.pointer none)) (hk66 : PC[66]? = some (.int .u32 src)) (hk117 : PC[117]? = some (.map (some mp))) (hk187 : PC[187]? = some (.pointer (some ⟨ms, 0, none⟩))) (hk104 : PC[104]? = some (.pointer (some ⟨ms, 0, none⟩))) (hkind : MC[15]? = some (.int .u8 6)) (hk287 : PC[287]? = some (.int .i64 (i : Int))) (hk199 : PC[199]? = some (.slice none 0 0)) (hgen : MC[5]? = some (.slice none 0 0)) (hk106 : PC[106]? = some (.slice (some ⟨sb, 0, none⟩) n (n + c))) (hn : st.length = n) (hnb : n ≤ 1000000) (hi : i ≤ 1000) (hub : UcB st 1000) (hno : Instr.findNow .string (.string ⟨#[95, 95, 111, 98, 106, 82, 101, 115, 116]⟩) es.toList 0 = some none) (hg0 : w0.cell? ⟨0, 0, none⟩ = some (.int .u32 4294967295)) (hg1 : w0.cell? ⟨0, 1, none⟩ = some (.int .u32 4294967295)) (hk23 : PC[23]? = some (.int .u64 35184372088832)) (hI : ItP IL mm ob (mm + 1 + tt)) (hm4 : mm ≤ 4096) (ht4 : tt ≤ 4096) :
    Calls Tryz.prog 8 #[.pointer (some ⟨pb, 0, none⟩), .agg #[.iface 205 (.pointer (some ⟨ab, 0, none⟩)), .int .i32 lo], .agg #[.iface 56 (.pointer (some ⟨vi, 0, none⟩)), .int .i32 li]] w (dlowAPost pb PC sb c st n src i mp es k ms MC ab ib ci IL mm tt ob pr cp vb lo vi li w0 X) := by
  go_enter Tryz.func8, Tryz.ntmps8
  have HI := Lib.hid hI
  clear hI
  have HUB := Lib.hid hub
  clear hub
  obtain ⟨c9_0_0, c9_0_1, c9_0_2, c9_0_3, c9_0_4, lt9_0, y9_0, -⟩ := hO.k5 0 rfl
  obtain ⟨c9_2_0, c9_2_1, c9_2_2, c9_2_3, c9_2_4, lt9_2, y9_2, -⟩ := hO.k5 2 rfl
  have HO := Lib.hid hO
  clear hO
  go_wp2_with (first | (with_reducible refine Own.stay (fn := Tryz.f8) ?_) | fail)
  try with_reducible refine Own.Stay.mk ?_
  have hO := HO.out
  clear HO c9_0_0 c9_0_1 c9_0_2 c9_0_3 c9_0_4 lt9_0 y9_0 c9_2_0 c9_2_1 c9_2_2 c9_2_3 c9_2_4 lt9_2 y9_2
  generalize hW : World.alloc _ _ = W2
  have hN : Own w0 W2 [row (w.heap.size + 1 + 1) 29 #[.nilIface, .int .i32 0], row (w.heap.size + 1) 29 #[.iface 56 (.pointer (some ⟨vi, 0, none⟩)), .int .i32 li], row (w.heap.size) 29 #[.iface 205 (.pointer (some ⟨ab, 0, none⟩)), .int .i32 lo], row (ab) 207 #[.slice (some ⟨ib, 0, none⟩) (mm + 1 + tt) (mm + 1 + tt + ci), .int .i32 0, .int .i32 0, .bool false, .bool false], row (ib) 29 (full exZ IL ci), row (ob) 204 #[.slice (some ⟨pr, 0, none⟩) 1 (1 + cp), .int .i32 0, .int .i32 0, .bool false, .bool false], row (pr) 52 (full prZ [.pointer none, .nilIface, .int .i32 0, .iface 56 (.pointer (some ⟨vb, 0, none⟩)), .int .i32 0, .nilIface, .int .i32 0, .slice none 0 0, .int .i32 0, .int .i32 0, .int .u8 5, .int .u8 0] cp), row (pb) 182 PC, row (sb) 201 (full symZ (symL st) c), ((mp, .map es k) : Rw), row (ms) 194 MC] X := by
    rw [← hW]
    exact (((hO).alloc' _ (w.heap.size) (by simp)).alloc' _ (w.heap.size + 1) (by simp)).alloc' _ (w.heap.size + 1 + 1) (by simp)
  clear hW hO
  generalize w.heap.size + 1 + 1 = B1_2 at hN ⊢
  generalize w.heap.size + 1 = B1_1 at hN ⊢
  generalize w.heap.size = B1 at hN ⊢
  have hO := hN
  clear hN
  have hL := hO.apart
  have hX := hO.apartX
  have HL := Lib.hid hL
  have HX := Lib.hid hX
  clear hL hX
  have hP9 := hO.pick [3, 4, 5, 6, 7, 8, 9, 10] (by decide)
  have h9_hub : UcB st 1000 := HUB.out
  have h9_hI : ItP IL mm ob (mm + 1 + tt) := HI.out
  have T9 := lowA pb PC sb c st n src i mp es k ms MC ab ib ci IL mm tt ob pr cp vb lo vi li _ _ _ hP9 hk350 hk32 hk105 hk66 hk117 hk187 hk104 hkind hk287 hk199 hgen hk106 hn hnb hi h9_hub hno hg0 hg1 hk23 h9_hI hm4 ht4
  refine Calls.mono T9 ?_
  clear hP9 T9 h9_hub h9_hI
  rintro e uw3 ⟨nd4, nd5, nd6, nd7, nd8, nd9, nd10, nd11, nd12, rfl, hQ⟩
  have hN : Own w0 uw3 [row (ab) 207 #[.slice (some ⟨ib, 0, none⟩) (mm + 1 + tt) (mm + 1 + tt + ci), .int .i32 0, .int .i32 0, .bool false, .bool false], row (ib) 29 (full exZ (iW (xt tt) IL mm nd11 nd12) ci), row (ob) 204 #[.slice (some ⟨pr, 0, none⟩) 1 (1 + cp), .int .i32 0, .int .i32 0, .bool false, .bool false], row (pr) 52 (full prZ [.pointer none, .nilIface, .int .i32 0, .iface 56 (.pointer (some ⟨vb, 0, none⟩)), .int .i32 0, .nilIface, .int .i32 0, .slice none 0 0, .int .i32 0, .int .i32 0, .int .u8 5, .int .u8 0] cp), row (pb) 182 (pcW PC i n (xt tt) nd4 nd5 nd8 nd9), row (nd4) 201 (full symZ (symL (stW (xt tt) i n st)) nd5), ((mp, .map (es.push ⟨.string ⟨#[95, 95, 111, 98, 106, 82, 101, 115, 116]⟩, .agg #[.int .i32 0, .int .u32 src, .int .u32 ((n + 1 + (xt tt) : Nat) : Int)], k⟩) (k + 1)) : Rw), row (ms) 194 (MC.setIfInBounds 5 (.slice (some ⟨nd6, 0, none⟩) (2 + (xt tt)) (2 + (xt tt) + nd7))), row (B1_2) 29 #[.nilIface, .int .i32 0], row (B1_1) 29 #[.iface 56 (.pointer (some ⟨vi, 0, none⟩)), .int .i32 li], row (B1) 29 #[.iface 205 (.pointer (some ⟨ab, 0, none⟩)), .int .i32 lo]] X := hQ.back HL.out HX.out [0, 1, 2] (by decide) (by decide)
  clear hQ HL HX hO
  have hO := hN
  clear hN
  obtain ⟨c9_0_0, c9_0_1, c9_0_2, c9_0_3, c9_0_4, lt9_0, y9_0, -⟩ := hO.k5 0 rfl
  obtain ⟨c9_2_0, c9_2_1, c9_2_2, c9_2_3, c9_2_4, lt9_2, y9_2, -⟩ := hO.k5 2 rfl
  obtain ⟨c9_8_0, c9_8_1, lt9_8, y9_8, -⟩ := hO.k2 8 rfl
  obtain ⟨c9_9_0, c9_9_1, lt9_9, y9_9, -⟩ := hO.k2 9 rfl
  obtain ⟨c9_10_0, c9_10_1, lt9_10, y9_10, -⟩ := hO.k2 10 rfl
  have HO := Lib.hid hO
  clear hO
  go_wp2_with (first | (with_reducible refine Own.stay (fn := Tryz.f8) ?_) | fail)
  try with_reducible refine Own.Stay.mk ?_
  have hO := HO.out
  clear HO c9_0_0 c9_0_1 c9_0_2 c9_0_3 c9_0_4 lt9_0 y9_0 c9_2_0 c9_2_1 c9_2_2 c9_2_3 c9_2_4 lt9_2 y9_2 c9_8_0 c9_8_1 lt9_8 y9_8 c9_9_0 c9_9_1 lt9_9 y9_9 c9_10_0 c9_10_1 lt9_10 y9_10
  generalize hW : World.setCell _ _ _ = W14
  have hN : Own w0 W14 [row (ab) 207 #[.slice (some ⟨ib, 0, none⟩) (mm + 1 + tt) (mm + 1 + tt + ci), .int .i32 0, .int .i32 0, .bool false, .bool false], row (ib) 29 (full exZ (iW (xt tt) IL mm nd11 nd12) ci), row (ob) 204 #[.slice (some ⟨pr, 0, none⟩) 1 (1 + cp), .int .i32 0, .int .i32 0, .bool false, .bool false], row (pr) 52 (full prZ [.pointer none, .nilIface, .int .i32 0, .iface 56 (.pointer (some ⟨vb, 0, none⟩)), .int .i32 0, .nilIface, .int .i32 0, .slice none 0 0, .int .i32 0, .int .i32 0, .int .u8 5, .int .u8 0] cp), row (pb) 182 (pcW PC i n (xt tt) nd4 nd5 nd8 nd9), row (nd4) 201 (full symZ (symL (stW (xt tt) i n st)) nd5), ((mp, .map (es.push ⟨.string ⟨#[95, 95, 111, 98, 106, 82, 101, 115, 116]⟩, .agg #[.int .i32 0, .int .u32 src, .int .u32 ((n + 1 + (xt tt) : Nat) : Int)], k⟩) (k + 1)) : Rw), row (ms) 194 (MC.setIfInBounds 5 (.slice (some ⟨nd6, 0, none⟩) (2 + (xt tt)) (2 + (xt tt) + nd7))), row (B1_2) 29 #[.iface 241 (.pointer (some ⟨nd10, 0, none⟩)), .int .i32 0], row (B1_1) 29 #[.iface 56 (.pointer (some ⟨vi, 0, none⟩)), .int .i32 li], row (B1) 29 #[.iface 205 (.pointer (some ⟨ab, 0, none⟩)), .int .i32 lo]] X := by
    rw [← hW]
    exact ((hO).set 8 rfl 0 _).set 8 rfl 1 _
  clear hW hO
  have hO := hN
  clear hN
  have z9_8_0 : W14.cell? ⟨B1_2, 0, none⟩ = some (.iface 241 (.pointer (some ⟨nd10, 0, none⟩))) := hO.cell 8 rfl 0 rfl
  have z9_8_1 : W14.cell? ⟨B1_2, 1, none⟩ = some (.int .i32 0) := hO.cell 8 rfl 1 rfl
  refine bodyPost_ret (v := .tuple #[.agg #[.iface 241 (.pointer (some ⟨nd10, 0, none⟩)), .int .i32 0], .bool true]) ?_ rfl ⟨nd4, nd5, nd6, nd7, nd8, nd9, nd10, nd11, nd12, rfl, hO.sub [0, 1, 2, 3, 4, 5, 6, 7] (by decide)⟩
  simp [results, Tryz.results8, go_sem, z9_8_0, z9_8_1]
end Go.Proofs.YtghofdhhhbbaaaaGreatDoor.Use
