/- Items that are not lowered: dots, an index, an identifier. No condition. -/
import Derived.Test.YtcbdjbjbikiaeaaDoorItm
import Derived.Test.YtcbdjbjbikiaeaaDoorOwn
import Derived.Test.YtcbdjbjbikiaeaaDoorOwnK
import Derived.Test.YtcbdjbjbikiaeaaDoorLoop
import Derived.Test.YtcbdjbjbikiaeaaDoorApp
import Derived.Test.YtcbdjbjbikiaeaaDoorDeepCells
import Derived.Test.YtcbdjbjbikiaeaaDoorRows
import Derived.Test.YtcbdjbjbikiaeaaDoorDead
namespace Go.Proofs.YtcbdjbjbikiaeaaDoor.Use
open Go.ChangeShapes Go.WideShapes Go.ChangeAt Go.RowKit Go.Sort Own
set_option linter.unusedVariables false
def colddfPost (pb : Nat) (PC : Array Value) (mp cr : Nat) (r s : Bool) (loc : Int) (d kT kx : Nat) (tl nl : Int) (nm : ByteArray) (w0 : World) (X : Nat → Obj → Prop) (e : Ending) (w' : World) : Prop :=
  e = .returned (.tuple #[.agg #[.iface 40 (.pointer (some ⟨d, 0, none⟩)), .int .i32 loc], .bool false]) ∧ Own w0 w' [row (pb) 206 PC] X
set_option maxRecDepth 100000 in
set_option maxHeartbeats 2000000 in
theorem colddf (pb : Nat) (PC : Array Value) (mp cr : Nat) (r s : Bool) (loc : Int) (d kT kx : Nat) (tl nl : Int) (nm : ByteArray) (w0 w : World) (X : Nat → Obj → Prop) (hO : Own w0 w [row (pb) 206 PC] X) (hD : Dead PC mp cr r s) (hl : PC[338]? = some (.bool false)) (hxd : X d (.cells #[.iface kT (.pointer (some ⟨kx, 0, none⟩)), .int .i32 tl, .string nm, .int .i32 nl, .int .u8 0, .bool false, .bool false, .bool false] 44 (0, 0))) :
    Calls Tryd.prog 35 #[.pointer (some ⟨pb, 0, none⟩), .agg #[.iface 40 (.pointer (some ⟨d, 0, none⟩)), .int .i32 loc]] w (colddfPost pb PC mp cr r s loc d kT kx tl nl nm w0 X) := by
  go_enter Tryd.func35, Tryd.ntmps35
  obtain ⟨ix9, hix9, hax9, hjx9⟩ := hO.ix
  have ix9_0 : ix9 pb = 0 := hjx9 0 _ _ rfl
  clear hjx9
  have c9_0_32 : w.cell? ⟨pb, 32, none⟩ = some (.bool false) := hO.cell 0 rfl (32) (hD.ts)
  have c9_0_95 : w.cell? ⟨pb, 95, none⟩ = some (.bool r) := hO.cell 0 rfl (95) (hD.rep)
  have c9_0_96 : w.cell? ⟨pb, 96, none⟩ = some (.bool s) := hO.cell 0 rfl (96) (hD.stat)
  have c9_0_97 : w.cell? ⟨pb, 97, none⟩ = some (.pointer (some ⟨cr, 0, none⟩)) := hO.cell 0 rfl (97) (hD.cls)
  have c9_0_117 : w.cell? ⟨pb, 117, none⟩ = some (.map (some mp)) := hO.cell 0 rfl (117) (hD.imp)
  have c9_0_338 : w.cell? ⟨pb, 338, none⟩ = some (.bool false) := hO.cell 0 rfl (338) (hl)
  have c9_0_350 : w.cell? ⟨pb, 350, none⟩ = some (.bool true) := hO.cell 0 rfl (350) (hD.dead)
  have lt9_0 : pb < w.heap.size := hO.lt 0 rfl
  have y9_0 : ∀ o, w.frozen? ⟨pb, o, none⟩ = false := hO.free 0 rfl
  have HO := Lib.hid hO
  clear hO
  have fd0 : w.cell? ⟨d, 0, none⟩ = some (.iface kT (.pointer (some ⟨kx, 0, none⟩))) := Base.RowAt.cell (show Base.RowAt w d 44 #[.iface kT (.pointer (some ⟨kx, 0, none⟩)), .int .i32 tl, .string nm, .int .i32 nl, .int .u8 0, .bool false, .bool false, .bool false] from (HO.out.frame _ _ hxd).2.1) rfl
  have fd1 : w.cell? ⟨d, 1, none⟩ = some (.int .i32 tl) := Base.RowAt.cell (show Base.RowAt w d 44 #[.iface kT (.pointer (some ⟨kx, 0, none⟩)), .int .i32 tl, .string nm, .int .i32 nl, .int .u8 0, .bool false, .bool false, .bool false] from (HO.out.frame _ _ hxd).2.1) rfl
  have fd2 : w.cell? ⟨d, 2, none⟩ = some (.string nm) := Base.RowAt.cell (show Base.RowAt w d 44 #[.iface kT (.pointer (some ⟨kx, 0, none⟩)), .int .i32 tl, .string nm, .int .i32 nl, .int .u8 0, .bool false, .bool false, .bool false] from (HO.out.frame _ _ hxd).2.1) rfl
  have fd3 : w.cell? ⟨d, 3, none⟩ = some (.int .i32 nl) := Base.RowAt.cell (show Base.RowAt w d 44 #[.iface kT (.pointer (some ⟨kx, 0, none⟩)), .int .i32 tl, .string nm, .int .i32 nl, .int .u8 0, .bool false, .bool false, .bool false] from (HO.out.frame _ _ hxd).2.1) rfl
  have fd4 : w.cell? ⟨d, 4, none⟩ = some (.int .u8 0) := Base.RowAt.cell (show Base.RowAt w d 44 #[.iface kT (.pointer (some ⟨kx, 0, none⟩)), .int .i32 tl, .string nm, .int .i32 nl, .int .u8 0, .bool false, .bool false, .bool false] from (HO.out.frame _ _ hxd).2.1) rfl
  have fd5 : w.cell? ⟨d, 5, none⟩ = some (.bool false) := Base.RowAt.cell (show Base.RowAt w d 44 #[.iface kT (.pointer (some ⟨kx, 0, none⟩)), .int .i32 tl, .string nm, .int .i32 nl, .int .u8 0, .bool false, .bool false, .bool false] from (HO.out.frame _ _ hxd).2.1) rfl
  have fd6 : w.cell? ⟨d, 6, none⟩ = some (.bool false) := Base.RowAt.cell (show Base.RowAt w d 44 #[.iface kT (.pointer (some ⟨kx, 0, none⟩)), .int .i32 tl, .string nm, .int .i32 nl, .int .u8 0, .bool false, .bool false, .bool false] from (HO.out.frame _ _ hxd).2.1) rfl
  have fd7 : w.cell? ⟨d, 7, none⟩ = some (.bool false) := Base.RowAt.cell (show Base.RowAt w d 44 #[.iface kT (.pointer (some ⟨kx, 0, none⟩)), .int .i32 tl, .string nm, .int .i32 nl, .int .u8 0, .bool false, .bool false, .bool false] from (HO.out.frame _ _ hxd).2.1) rfl
  have fdl : d < w.heap.size := Base.block_of_cell fd0
  go_wp2_with (first | (with_reducible refine Own.stay (fn := Tryd.f35) ?_) | (first | (go_at_call 34; go_in)))
  try with_reducible refine Own.Stay.mk ?_
  have hO := HO.out
  clear HO hix9 hax9 ix9_0 ix9 fd0 fd1 fd2 fd3 fd4 fd5 fd6 fd7 fdl c9_0_32 c9_0_95 c9_0_96 c9_0_97 c9_0_117 c9_0_338 c9_0_350 lt9_0 y9_0
  generalize hW : World.alloc _ _ = W2
  have hN : Own w0 W2 [row (w.heap.size + 1 + 1) 30 #[.iface kT (.pointer (some ⟨kx, 0, none⟩)), .int .i32 tl], row (w.heap.size + 1) 30 #[.iface 40 (.pointer (some ⟨d, 0, none⟩)), .int .i32 loc], row (w.heap.size) 30 #[.iface 40 (.pointer (some ⟨d, 0, none⟩)), .int .i32 loc], row (pb) 206 PC] X := by
    rw [← hW]
    exact (((hO).alloc' _ (w.heap.size) (by simp)).alloc' _ (w.heap.size + 1) (by simp)).alloc' _ (w.heap.size + 1 + 1) (by simp)
  clear hW hO
  generalize w.heap.size + 1 + 1 = B1_2 at hN ⊢
  generalize w.heap.size + 1 = B1_1 at hN ⊢
  generalize w.heap.size = B1 at hN ⊢
  have hO := hN
  clear hN
  have z9_1_0 : W2.cell? ⟨B1_1, 0, none⟩ = some (.iface 40 (.pointer (some ⟨d, 0, none⟩))) := hO.cell 1 rfl 0 rfl
  have z9_1_1 : W2.cell? ⟨B1_1, 1, none⟩ = some (.int .i32 loc) := hO.cell 1 rfl 1 rfl
  refine bodyPost_ret (v := .tuple #[.agg #[.iface 40 (.pointer (some ⟨d, 0, none⟩)), .int .i32 loc], .bool false]) ?_ rfl ⟨rfl, hO.sub [3] (by decide)⟩
  simp [results, Tryd.results35, go_sem, z9_1_0, z9_1_1]
def colddtPost (pb : Nat) (PC : Array Value) (mp cr : Nat) (r s : Bool) (loc : Int) (d kT kx : Nat) (tl nl : Int) (nm : ByteArray) (w0 : World) (X : Nat → Obj → Prop) (e : Ending) (w' : World) : Prop :=
  e = .returned (.tuple #[.agg #[.iface 40 (.pointer (some ⟨d, 0, none⟩)), .int .i32 loc], .bool false]) ∧ Own w0 w' [row (pb) 206 PC] X
set_option maxRecDepth 100000 in
set_option maxHeartbeats 2000000 in
theorem colddt (pb : Nat) (PC : Array Value) (mp cr : Nat) (r s : Bool) (loc : Int) (d kT kx : Nat) (tl nl : Int) (nm : ByteArray) (w0 w : World) (X : Nat → Obj → Prop) (hO : Own w0 w [row (pb) 206 PC] X) (hD : Dead PC mp cr r s) (hl : PC[338]? = some (.bool true)) (hT : kT ≠ 244) (hxd : X d (.cells #[.iface kT (.pointer (some ⟨kx, 0, none⟩)), .int .i32 tl, .string nm, .int .i32 nl, .int .u8 0, .bool false, .bool false, .bool false] 44 (0, 0))) :
    Calls Tryd.prog 35 #[.pointer (some ⟨pb, 0, none⟩), .agg #[.iface 40 (.pointer (some ⟨d, 0, none⟩)), .int .i32 loc]] w (colddtPost pb PC mp cr r s loc d kT kx tl nl nm w0 X) := by
  go_enter Tryd.func35, Tryd.ntmps35
  have hTb : (kT == 244) = false := by simp [hT]
  obtain ⟨ix9, hix9, hax9, hjx9⟩ := hO.ix
  have ix9_0 : ix9 pb = 0 := hjx9 0 _ _ rfl
  clear hjx9
  have c9_0_32 : w.cell? ⟨pb, 32, none⟩ = some (.bool false) := hO.cell 0 rfl (32) (hD.ts)
  have c9_0_95 : w.cell? ⟨pb, 95, none⟩ = some (.bool r) := hO.cell 0 rfl (95) (hD.rep)
  have c9_0_96 : w.cell? ⟨pb, 96, none⟩ = some (.bool s) := hO.cell 0 rfl (96) (hD.stat)
  have c9_0_97 : w.cell? ⟨pb, 97, none⟩ = some (.pointer (some ⟨cr, 0, none⟩)) := hO.cell 0 rfl (97) (hD.cls)
  have c9_0_117 : w.cell? ⟨pb, 117, none⟩ = some (.map (some mp)) := hO.cell 0 rfl (117) (hD.imp)
  have c9_0_338 : w.cell? ⟨pb, 338, none⟩ = some (.bool true) := hO.cell 0 rfl (338) (hl)
  have c9_0_350 : w.cell? ⟨pb, 350, none⟩ = some (.bool true) := hO.cell 0 rfl (350) (hD.dead)
  have lt9_0 : pb < w.heap.size := hO.lt 0 rfl
  have y9_0 : ∀ o, w.frozen? ⟨pb, o, none⟩ = false := hO.free 0 rfl
  have HO := Lib.hid hO
  clear hO
  have fd0 : w.cell? ⟨d, 0, none⟩ = some (.iface kT (.pointer (some ⟨kx, 0, none⟩))) := Base.RowAt.cell (show Base.RowAt w d 44 #[.iface kT (.pointer (some ⟨kx, 0, none⟩)), .int .i32 tl, .string nm, .int .i32 nl, .int .u8 0, .bool false, .bool false, .bool false] from (HO.out.frame _ _ hxd).2.1) rfl
  have fd1 : w.cell? ⟨d, 1, none⟩ = some (.int .i32 tl) := Base.RowAt.cell (show Base.RowAt w d 44 #[.iface kT (.pointer (some ⟨kx, 0, none⟩)), .int .i32 tl, .string nm, .int .i32 nl, .int .u8 0, .bool false, .bool false, .bool false] from (HO.out.frame _ _ hxd).2.1) rfl
  have fd2 : w.cell? ⟨d, 2, none⟩ = some (.string nm) := Base.RowAt.cell (show Base.RowAt w d 44 #[.iface kT (.pointer (some ⟨kx, 0, none⟩)), .int .i32 tl, .string nm, .int .i32 nl, .int .u8 0, .bool false, .bool false, .bool false] from (HO.out.frame _ _ hxd).2.1) rfl
  have fd3 : w.cell? ⟨d, 3, none⟩ = some (.int .i32 nl) := Base.RowAt.cell (show Base.RowAt w d 44 #[.iface kT (.pointer (some ⟨kx, 0, none⟩)), .int .i32 tl, .string nm, .int .i32 nl, .int .u8 0, .bool false, .bool false, .bool false] from (HO.out.frame _ _ hxd).2.1) rfl
  have fd4 : w.cell? ⟨d, 4, none⟩ = some (.int .u8 0) := Base.RowAt.cell (show Base.RowAt w d 44 #[.iface kT (.pointer (some ⟨kx, 0, none⟩)), .int .i32 tl, .string nm, .int .i32 nl, .int .u8 0, .bool false, .bool false, .bool false] from (HO.out.frame _ _ hxd).2.1) rfl
  have fd5 : w.cell? ⟨d, 5, none⟩ = some (.bool false) := Base.RowAt.cell (show Base.RowAt w d 44 #[.iface kT (.pointer (some ⟨kx, 0, none⟩)), .int .i32 tl, .string nm, .int .i32 nl, .int .u8 0, .bool false, .bool false, .bool false] from (HO.out.frame _ _ hxd).2.1) rfl
  have fd6 : w.cell? ⟨d, 6, none⟩ = some (.bool false) := Base.RowAt.cell (show Base.RowAt w d 44 #[.iface kT (.pointer (some ⟨kx, 0, none⟩)), .int .i32 tl, .string nm, .int .i32 nl, .int .u8 0, .bool false, .bool false, .bool false] from (HO.out.frame _ _ hxd).2.1) rfl
  have fd7 : w.cell? ⟨d, 7, none⟩ = some (.bool false) := Base.RowAt.cell (show Base.RowAt w d 44 #[.iface kT (.pointer (some ⟨kx, 0, none⟩)), .int .i32 tl, .string nm, .int .i32 nl, .int .u8 0, .bool false, .bool false, .bool false] from (HO.out.frame _ _ hxd).2.1) rfl
  have fdl : d < w.heap.size := Base.block_of_cell fd0
  go_wp2_with (first | (with_reducible refine Own.stay (fn := Tryd.f35) ?_) | (first | (go_at_call 34; go_in)))
  try with_reducible refine Own.Stay.mk ?_
  have hO := HO.out
  clear HO hix9 hax9 ix9_0 ix9 fd0 fd1 fd2 fd3 fd4 fd5 fd6 fd7 fdl c9_0_32 c9_0_95 c9_0_96 c9_0_97 c9_0_117 c9_0_338 c9_0_350 lt9_0 y9_0
  generalize hW : World.alloc _ _ = W2
  have hN : Own w0 W2 [row (w.heap.size + 1 + 1) 30 #[.iface kT (.pointer (some ⟨kx, 0, none⟩)), .int .i32 tl], row (w.heap.size + 1) 30 #[.iface 40 (.pointer (some ⟨d, 0, none⟩)), .int .i32 loc], row (w.heap.size) 30 #[.iface 40 (.pointer (some ⟨d, 0, none⟩)), .int .i32 loc], row (pb) 206 PC] X := by
    rw [← hW]
    exact (((hO).alloc' _ (w.heap.size) (by simp)).alloc' _ (w.heap.size + 1) (by simp)).alloc' _ (w.heap.size + 1 + 1) (by simp)
  clear hW hO
  generalize w.heap.size + 1 + 1 = B1_2 at hN ⊢
  generalize w.heap.size + 1 = B1_1 at hN ⊢
  generalize w.heap.size = B1 at hN ⊢
  have hO := hN
  clear hN
  have z9_1_0 : W2.cell? ⟨B1_1, 0, none⟩ = some (.iface 40 (.pointer (some ⟨d, 0, none⟩))) := hO.cell 1 rfl 0 rfl
  have z9_1_1 : W2.cell? ⟨B1_1, 1, none⟩ = some (.int .i32 loc) := hO.cell 1 rfl 1 rfl
  refine bodyPost_ret (v := .tuple #[.agg #[.iface 40 (.pointer (some ⟨d, 0, none⟩)), .int .i32 loc], .bool false]) ?_ rfl ⟨rfl, hO.sub [3] (by decide)⟩
  simp [results, Tryd.results35, go_sem, z9_1_0, z9_1_1]
def coldxfPost (pb : Nat) (PC : Array Value) (mp cr : Nat) (r s : Bool) (loc : Int) (d kT kx ib : Nat) (tl il : Int) (w0 : World) (X : Nat → Obj → Prop) (e : Ending) (w' : World) : Prop :=
  e = .returned (.tuple #[.agg #[.iface 209 (.pointer (some ⟨d, 0, none⟩)), .int .i32 loc], .bool false]) ∧ Own w0 w' [row (pb) 206 PC] X
set_option maxRecDepth 100000 in
set_option maxHeartbeats 2000000 in
theorem coldxf (pb : Nat) (PC : Array Value) (mp cr : Nat) (r s : Bool) (loc : Int) (d kT kx ib : Nat) (tl il : Int) (w0 w : World) (X : Nat → Obj → Prop) (hO : Own w0 w [row (pb) 206 PC] X) (hD : Dead PC mp cr r s) (hl : PC[338]? = some (.bool false)) (hxi : X d (.cells #[.iface kT (.pointer (some ⟨kx, 0, none⟩)), .int .i32 tl, .iface 220 (.pointer (some ⟨ib, 0, none⟩)), .int .i32 il, .int .i32 0, .int .u8 0, .bool false, .bool false, .bool false] 211 (0, 0))) :
    Calls Tryd.prog 35 #[.pointer (some ⟨pb, 0, none⟩), .agg #[.iface 209 (.pointer (some ⟨d, 0, none⟩)), .int .i32 loc]] w (coldxfPost pb PC mp cr r s loc d kT kx ib tl il w0 X) := by
  go_enter Tryd.func35, Tryd.ntmps35
  obtain ⟨ix9, hix9, hax9, hjx9⟩ := hO.ix
  have ix9_0 : ix9 pb = 0 := hjx9 0 _ _ rfl
  clear hjx9
  have c9_0_32 : w.cell? ⟨pb, 32, none⟩ = some (.bool false) := hO.cell 0 rfl (32) (hD.ts)
  have c9_0_95 : w.cell? ⟨pb, 95, none⟩ = some (.bool r) := hO.cell 0 rfl (95) (hD.rep)
  have c9_0_96 : w.cell? ⟨pb, 96, none⟩ = some (.bool s) := hO.cell 0 rfl (96) (hD.stat)
  have c9_0_97 : w.cell? ⟨pb, 97, none⟩ = some (.pointer (some ⟨cr, 0, none⟩)) := hO.cell 0 rfl (97) (hD.cls)
  have c9_0_117 : w.cell? ⟨pb, 117, none⟩ = some (.map (some mp)) := hO.cell 0 rfl (117) (hD.imp)
  have c9_0_338 : w.cell? ⟨pb, 338, none⟩ = some (.bool false) := hO.cell 0 rfl (338) (hl)
  have c9_0_350 : w.cell? ⟨pb, 350, none⟩ = some (.bool true) := hO.cell 0 rfl (350) (hD.dead)
  have lt9_0 : pb < w.heap.size := hO.lt 0 rfl
  have y9_0 : ∀ o, w.frozen? ⟨pb, o, none⟩ = false := hO.free 0 rfl
  have HO := Lib.hid hO
  clear hO
  have fi0 : w.cell? ⟨d, 0, none⟩ = some (.iface kT (.pointer (some ⟨kx, 0, none⟩))) := Base.RowAt.cell (show Base.RowAt w d 211 #[.iface kT (.pointer (some ⟨kx, 0, none⟩)), .int .i32 tl, .iface 220 (.pointer (some ⟨ib, 0, none⟩)), .int .i32 il, .int .i32 0, .int .u8 0, .bool false, .bool false, .bool false] from (HO.out.frame _ _ hxi).2.1) rfl
  have fi1 : w.cell? ⟨d, 1, none⟩ = some (.int .i32 tl) := Base.RowAt.cell (show Base.RowAt w d 211 #[.iface kT (.pointer (some ⟨kx, 0, none⟩)), .int .i32 tl, .iface 220 (.pointer (some ⟨ib, 0, none⟩)), .int .i32 il, .int .i32 0, .int .u8 0, .bool false, .bool false, .bool false] from (HO.out.frame _ _ hxi).2.1) rfl
  have fi2 : w.cell? ⟨d, 2, none⟩ = some (.iface 220 (.pointer (some ⟨ib, 0, none⟩))) := Base.RowAt.cell (show Base.RowAt w d 211 #[.iface kT (.pointer (some ⟨kx, 0, none⟩)), .int .i32 tl, .iface 220 (.pointer (some ⟨ib, 0, none⟩)), .int .i32 il, .int .i32 0, .int .u8 0, .bool false, .bool false, .bool false] from (HO.out.frame _ _ hxi).2.1) rfl
  have fi3 : w.cell? ⟨d, 3, none⟩ = some (.int .i32 il) := Base.RowAt.cell (show Base.RowAt w d 211 #[.iface kT (.pointer (some ⟨kx, 0, none⟩)), .int .i32 tl, .iface 220 (.pointer (some ⟨ib, 0, none⟩)), .int .i32 il, .int .i32 0, .int .u8 0, .bool false, .bool false, .bool false] from (HO.out.frame _ _ hxi).2.1) rfl
  have fi4 : w.cell? ⟨d, 4, none⟩ = some (.int .i32 0) := Base.RowAt.cell (show Base.RowAt w d 211 #[.iface kT (.pointer (some ⟨kx, 0, none⟩)), .int .i32 tl, .iface 220 (.pointer (some ⟨ib, 0, none⟩)), .int .i32 il, .int .i32 0, .int .u8 0, .bool false, .bool false, .bool false] from (HO.out.frame _ _ hxi).2.1) rfl
  have fi5 : w.cell? ⟨d, 5, none⟩ = some (.int .u8 0) := Base.RowAt.cell (show Base.RowAt w d 211 #[.iface kT (.pointer (some ⟨kx, 0, none⟩)), .int .i32 tl, .iface 220 (.pointer (some ⟨ib, 0, none⟩)), .int .i32 il, .int .i32 0, .int .u8 0, .bool false, .bool false, .bool false] from (HO.out.frame _ _ hxi).2.1) rfl
  have fi6 : w.cell? ⟨d, 6, none⟩ = some (.bool false) := Base.RowAt.cell (show Base.RowAt w d 211 #[.iface kT (.pointer (some ⟨kx, 0, none⟩)), .int .i32 tl, .iface 220 (.pointer (some ⟨ib, 0, none⟩)), .int .i32 il, .int .i32 0, .int .u8 0, .bool false, .bool false, .bool false] from (HO.out.frame _ _ hxi).2.1) rfl
  have fi7 : w.cell? ⟨d, 7, none⟩ = some (.bool false) := Base.RowAt.cell (show Base.RowAt w d 211 #[.iface kT (.pointer (some ⟨kx, 0, none⟩)), .int .i32 tl, .iface 220 (.pointer (some ⟨ib, 0, none⟩)), .int .i32 il, .int .i32 0, .int .u8 0, .bool false, .bool false, .bool false] from (HO.out.frame _ _ hxi).2.1) rfl
  have fi8 : w.cell? ⟨d, 8, none⟩ = some (.bool false) := Base.RowAt.cell (show Base.RowAt w d 211 #[.iface kT (.pointer (some ⟨kx, 0, none⟩)), .int .i32 tl, .iface 220 (.pointer (some ⟨ib, 0, none⟩)), .int .i32 il, .int .i32 0, .int .u8 0, .bool false, .bool false, .bool false] from (HO.out.frame _ _ hxi).2.1) rfl
  have fil : d < w.heap.size := Base.block_of_cell fi0
  go_wp2_with (first | (with_reducible refine Own.stay (fn := Tryd.f35) ?_) | (first | (go_at_call 34; go_in)))
  try with_reducible refine Own.Stay.mk ?_
  have hO := HO.out
  clear HO hix9 hax9 ix9_0 ix9 fi0 fi1 fi2 fi3 fi4 fi5 fi6 fi7 fi8 fil c9_0_32 c9_0_95 c9_0_96 c9_0_97 c9_0_117 c9_0_338 c9_0_350 lt9_0 y9_0
  generalize hW : World.alloc _ _ = W2
  have hN : Own w0 W2 [row (w.heap.size + 1 + 1) 30 #[.iface kT (.pointer (some ⟨kx, 0, none⟩)), .int .i32 tl], row (w.heap.size + 1) 30 #[.iface 209 (.pointer (some ⟨d, 0, none⟩)), .int .i32 loc], row (w.heap.size) 30 #[.iface 209 (.pointer (some ⟨d, 0, none⟩)), .int .i32 loc], row (pb) 206 PC] X := by
    rw [← hW]
    exact (((hO).alloc' _ (w.heap.size) (by simp)).alloc' _ (w.heap.size + 1) (by simp)).alloc' _ (w.heap.size + 1 + 1) (by simp)
  clear hW hO
  generalize w.heap.size + 1 + 1 = B1_2 at hN ⊢
  generalize w.heap.size + 1 = B1_1 at hN ⊢
  generalize w.heap.size = B1 at hN ⊢
  have hO := hN
  clear hN
  have z9_1_0 : W2.cell? ⟨B1_1, 0, none⟩ = some (.iface 209 (.pointer (some ⟨d, 0, none⟩))) := hO.cell 1 rfl 0 rfl
  have z9_1_1 : W2.cell? ⟨B1_1, 1, none⟩ = some (.int .i32 loc) := hO.cell 1 rfl 1 rfl
  refine bodyPost_ret (v := .tuple #[.agg #[.iface 209 (.pointer (some ⟨d, 0, none⟩)), .int .i32 loc], .bool false]) ?_ rfl ⟨rfl, hO.sub [3] (by decide)⟩
  simp [results, Tryd.results35, go_sem, z9_1_0, z9_1_1]
def coldiPost (pb : Nat) (PC : Array Value) (mp cr : Nat) (r s : Bool) (loc : Int) (b : Nat) (l : Bool) (w0 : World) (X : Nat → Obj → Prop) (e : Ending) (w' : World) : Prop :=
  e = .returned (.tuple #[.agg #[.iface 220 (.pointer (some ⟨b, 0, none⟩)), .int .i32 loc], .bool false]) ∧ Own w0 w' [row (pb) 206 PC] X
set_option maxRecDepth 100000 in
set_option maxHeartbeats 2000000 in
theorem coldi (pb : Nat) (PC : Array Value) (mp cr : Nat) (r s : Bool) (loc : Int) (b : Nat) (l : Bool) (w0 w : World) (X : Nat → Obj → Prop) (hO : Own w0 w [row (pb) 206 PC] X) (hD : Dead PC mp cr r s) (hl : PC[338]? = some (.bool l)) :
    Calls Tryd.prog 35 #[.pointer (some ⟨pb, 0, none⟩), .agg #[.iface 220 (.pointer (some ⟨b, 0, none⟩)), .int .i32 loc]] w (coldiPost pb PC mp cr r s loc b l w0 X) := by
  go_enter Tryd.func35, Tryd.ntmps35
  go_wp2_with (first | (with_reducible refine Own.stay (fn := Tryd.f35) ?_) | (first | (go_at_call 34; go_in)))
  try with_reducible refine Own.Stay.mk ?_
  generalize hW : World.alloc _ _ = W2
  have hN : Own w0 W2 [row (w.heap.size + 1) 30 #[.iface 220 (.pointer (some ⟨b, 0, none⟩)), .int .i32 loc], row (w.heap.size) 30 #[.iface 220 (.pointer (some ⟨b, 0, none⟩)), .int .i32 loc], row (pb) 206 PC] X := by
    rw [← hW]
    exact ((hO).alloc' _ (w.heap.size) (by simp)).alloc' _ (w.heap.size + 1) (by simp)
  clear hW hO
  generalize w.heap.size + 1 = B1_1 at hN ⊢
  generalize w.heap.size = B1 at hN ⊢
  have hO := hN
  clear hN
  have z9_0_0 : W2.cell? ⟨B1_1, 0, none⟩ = some (.iface 220 (.pointer (some ⟨b, 0, none⟩))) := hO.cell 0 rfl 0 rfl
  have z9_0_1 : W2.cell? ⟨B1_1, 1, none⟩ = some (.int .i32 loc) := hO.cell 0 rfl 1 rfl
  refine bodyPost_ret (v := .tuple #[.agg #[.iface 220 (.pointer (some ⟨b, 0, none⟩)), .int .i32 loc], .bool false]) ?_ rfl ⟨rfl, hO.sub [2] (by decide)⟩
  simp [results, Tryd.results35, go_sem, z9_0_0, z9_0_1]
end Go.Proofs.YtcbdjbjbikiaeaaDoor.Use
