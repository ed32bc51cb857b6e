/- The laws' readers of super calls. No condition. -/
import Derived.Test.YtkhmjppfogppoaaDoorKit2
import Derived.Test.YtkhmjppfogppoaaDoorCallU
import Derived.Test.YtkhmjppfogppoaaDoorLoop
import Derived.Test.YtkhmjppfogppoaaDoorLive
import Derived.Test.YtkhmjppfogppoaaDoorApp
import Derived.Test.YtkhmjppfogppoaaDoorOwnK
import Derived.Test.YtkhmjppfogppoaaDoorOwn
import Derived.Test.YtkhmjppfogppoaaDoorDeepCells
import Derived.Test.YtkhmjppfogppoaaDoorRows
import Derived.Test.YtkhmjppfogppoaaDoorUse
namespace Go.Proofs.YtkhmjppfogppoaaDoor.Use
open Go.ChangeShapes Go.WideShapes Go.ChangeAt Go.RowKit Go.Sort Own
set_option linter.unusedVariables false
def dotOfN1Post (tg : Nat) (l : Int) (sp ib : Nat) (loc : Int) (w0 : World) (X : Nat → Obj → Prop) (e : Ending) (w' : World) : Prop :=
  e = .returned (.tuple #[.agg #[.nilIface, .int .i32 0], .string ⟨#[]⟩, .bool false]) ∧ Own w0 w' [row (tg) 234 #[.iface 229 (.pointer (some ⟨sp, 0, none⟩)), .int .i32 loc, .iface 209 (.pointer (some ⟨ib, 0, none⟩)), .int .i32 loc, .int .i32 0, .int .u8 0, .bool false, .bool false, .bool false]] X
set_option maxRecDepth 100000 in
set_option maxHeartbeats 1000000 in
theorem dotOfN1 (tg : Nat) (l : Int) (sp ib : Nat) (loc : Int) (w0 w : World) (X : Nat → Obj → Prop) (hO : Own w0 w [row (tg) 234 #[.iface 229 (.pointer (some ⟨sp, 0, none⟩)), .int .i32 loc, .iface 209 (.pointer (some ⟨ib, 0, none⟩)), .int .i32 loc, .int .i32 0, .int .u8 0, .bool false, .bool false, .bool false]] X)  :
    Calls Tryd.prog 30 #[.agg #[.iface 231 (.pointer (some ⟨tg, 0, none⟩)), .int .i32 l]] w (dotOfN1Post tg l sp ib loc w0 X) := by
  go_enter Tryd.func30, Tryd.ntmps30
  obtain ⟨c9_0_0, c9_0_1, c9_0_2, c9_0_3, c9_0_4, c9_0_5, c9_0_6, c9_0_7, c9_0_8, lt9_0, y9_0, -⟩ := hO.k9 0 rfl
  have HO := Lib.hid hO
  clear hO
  go_wp2_with (first | (with_reducible refine Own.stay (fn := Tryd.f30) ?_) | fail)
  try with_reducible refine Own.Stay.mk ?_
  have hO := HO.out
  clear HO c9_0_0 c9_0_1 c9_0_2 c9_0_3 c9_0_4 c9_0_5 c9_0_6 c9_0_7 c9_0_8 lt9_0 y9_0
  generalize hW : World.alloc _ _ = W2
  have hN : Own w0 W2 [row (w.heap.size + 1) 35 #[.nilIface, .int .i32 0], row (w.heap.size) 35 #[.iface 231 (.pointer (some ⟨tg, 0, none⟩)), .int .i32 l], row (tg) 234 #[.iface 229 (.pointer (some ⟨sp, 0, none⟩)), .int .i32 loc, .iface 209 (.pointer (some ⟨ib, 0, none⟩)), .int .i32 loc, .int .i32 0, .int .u8 0, .bool false, .bool false, .bool false]] X := by
    rw [← hW]
    exact ((hO).alloc' _ (w.heap.size) (by simp)).alloc' _ (w.heap.size + 1) (by simp)
  clear hW hO
  generalize w.heap.size + 1 = B1_1 at hN ⊢
  generalize w.heap.size = B1 at hN ⊢
  have hO := hN
  clear hN
  have z9_0_0 : W2.cell? ⟨B1_1, 0, none⟩ = some (.nilIface) := hO.cell 0 rfl 0 rfl
  have z9_0_1 : W2.cell? ⟨B1_1, 1, none⟩ = some (.int .i32 0) := hO.cell 0 rfl 1 rfl
  refine bodyPost_ret (v := .tuple #[.agg #[.nilIface, .int .i32 0], .string ⟨#[]⟩, .bool false]) ?_ rfl ⟨rfl, hO.sub [2] (by decide)⟩
  simp [results, Tryd.results30, go_sem, z9_0_0, z9_0_1]
def dotOfN3Post (tg : Nat) (l im : Int) (w0 : World) (X : Nat → Obj → Prop) (e : Ending) (w' : World) : Prop :=
  e = .returned (.tuple #[.agg #[.nilIface, .int .i32 0], .string ⟨#[]⟩, .bool false]) ∧ Own w0 w' [row (tg) 211 #[.int .u32 5, .int .u32 im, .bool false, .bool false, .bool false]] X
set_option maxRecDepth 100000 in
set_option maxHeartbeats 1000000 in
theorem dotOfN3 (tg : Nat) (l im : Int) (w0 w : World) (X : Nat → Obj → Prop) (hO : Own w0 w [row (tg) 211 #[.int .u32 5, .int .u32 im, .bool false, .bool false, .bool false]] X)  :
    Calls Tryd.prog 30 #[.agg #[.iface 209 (.pointer (some ⟨tg, 0, none⟩)), .int .i32 l]] w (dotOfN3Post tg l im w0 X) := by
  go_enter Tryd.func30, Tryd.ntmps30
  obtain ⟨c9_0_0, c9_0_1, c9_0_2, c9_0_3, c9_0_4, lt9_0, y9_0, -⟩ := hO.k5 0 rfl
  have HO := Lib.hid hO
  clear hO
  go_wp2_with (first | (with_reducible refine Own.stay (fn := Tryd.f30) ?_) | fail)
  try with_reducible refine Own.Stay.mk ?_
  have hO := HO.out
  clear HO c9_0_0 c9_0_1 c9_0_2 c9_0_3 c9_0_4 lt9_0 y9_0
  generalize hW : World.alloc _ _ = W2
  have hN : Own w0 W2 [row (w.heap.size + 1) 35 #[.nilIface, .int .i32 0], row (w.heap.size) 35 #[.iface 209 (.pointer (some ⟨tg, 0, none⟩)), .int .i32 l], row (tg) 211 #[.int .u32 5, .int .u32 im, .bool false, .bool false, .bool false]] X := by
    rw [← hW]
    exact ((hO).alloc' _ (w.heap.size) (by simp)).alloc' _ (w.heap.size + 1) (by simp)
  clear hW hO
  generalize w.heap.size + 1 = B1_1 at hN ⊢
  generalize w.heap.size = B1 at hN ⊢
  have hO := hN
  clear hN
  have z9_0_0 : W2.cell? ⟨B1_1, 0, none⟩ = some (.nilIface) := hO.cell 0 rfl 0 rfl
  have z9_0_1 : W2.cell? ⟨B1_1, 1, none⟩ = some (.int .i32 0) := hO.cell 0 rfl 1 rfl
  refine bodyPost_ret (v := .tuple #[.agg #[.nilIface, .int .i32 0], .string ⟨#[]⟩, .bool false]) ?_ rfl ⟨rfl, hO.sub [2] (by decide)⟩
  simp [results, Tryd.results30, go_sem, z9_0_0, z9_0_1]
def dtT (k1 : Bool) : Nat := if k1 then 209 else 229
def dtB (k1 : Bool) (sp ib : Nat) : Nat := if k1 then ib else sp

def dotOfU0Post (k1 : Bool) (name : ByteArray) (loc im : Int) (sp ib tg : Nat) (l : Int) (w0 : World) (X : Nat → Obj → Prop) (e : Ending) (w' : World) : Prop :=
  e = .returned (.tuple #[.agg #[.iface (dtT k1) (.pointer (some ⟨dtB k1 sp ib, 0, none⟩)), .int .i32 loc], .string name, .bool true]) ∧ Own w0 w' [row (tg) (tgT k1 false) (tgC k1 false name loc im sp ib)] X
set_option maxRecDepth 100000 in
theorem dotOfU0 (k1 : Bool) (name : ByteArray) (loc im : Int) (sp ib tg : Nat) (l : Int) (w0 w : World) (X : Nat → Obj → Prop) (hO : Own w0 w [row (tg) (tgT k1 false) (tgC k1 false name loc im sp ib)] X)  :
    Calls Tryd.prog 30 #[.agg #[.iface (tgTy k1 false) (.pointer (some ⟨tg, 0, none⟩)), .int .i32 l]] w (dotOfU0Post k1 name loc im sp ib tg l w0 X) := by
  cases k1
  · refine Calls.mono (dotOf tg 229 sp loc name loc l _ _ _ hO) ?_
    rintro e w' ⟨rfl, hQ⟩
    exact ⟨rfl, hQ⟩
  · refine Calls.mono (dotOf tg 209 ib loc name loc l _ _ _ hO) ?_
    rintro e w' ⟨rfl, hQ⟩
    exact ⟨rfl, hQ⟩

def dotOfU1Post (k1 : Bool) (name : ByteArray) (loc im : Int) (sp ib tg : Nat) (l : Int) (w0 : World) (X : Nat → Obj → Prop) (e : Ending) (w' : World) : Prop :=
  e = .returned (.tuple #[.agg #[.nilIface, .int .i32 0], .string ⟨#[]⟩, .bool false]) ∧ Own w0 w' [row (tg) (tgT k1 true) (tgC k1 true name loc im sp ib)] X
set_option maxRecDepth 100000 in
theorem dotOfU1 (k1 : Bool) (name : ByteArray) (loc im : Int) (sp ib tg : Nat) (l : Int) (w0 w : World) (X : Nat → Obj → Prop) (hO : Own w0 w [row (tg) (tgT k1 true) (tgC k1 true name loc im sp ib)] X)  :
    Calls Tryd.prog 30 #[.agg #[.iface (tgTy k1 true) (.pointer (some ⟨tg, 0, none⟩)), .int .i32 l]] w (dotOfU1Post k1 name loc im sp ib tg l w0 X) := by
  cases k1
  · refine Calls.mono (dotOfN1 tg l sp ib loc _ _ _ hO) ?_
    rintro e w' ⟨rfl, hQ⟩
    exact ⟨rfl, hQ⟩
  · refine Calls.mono (dotOfN3 tg l im _ _ _ hO) ?_
    rintro e w' ⟨rfl, hQ⟩
    exact ⟨rfl, hQ⟩

def impRefNPost (pb : Nat) (PC : Array Value) (mp : Nat) (es : Array MapEntry) (k : Nat) (nm : ByteArray) (w0 : World) (X : Nat → Obj → Prop) (e : Ending) (w' : World) : Prop :=
  e = .returned (.tuple #[.agg #[.int .u32 0, .int .u32 0], .bool false]) ∧ Own w0 w' [row (pb) 193 PC, ((mp, .map es k) : Rw)] X
set_option maxRecDepth 100000 in
set_option maxHeartbeats 1000000 in
theorem impRefN (pb : Nat) (PC : Array Value) (mp : Nat) (es : Array MapEntry) (k : Nat) (nm : ByteArray) (w0 w : World) (X : Nat → Obj → Prop) (hO : Own w0 w [row (pb) 193 PC, ((mp, .map es k) : Rw)] X) (hk117 : PC[117]? = some (.map (some mp))) (hno : Instr.findNow .string (.string nm) es.toList 0 = some none) :
    Calls Tryd.prog 15 #[.pointer (some ⟨pb, 0, none⟩), .string nm] w (impRefNPost pb PC mp es k nm w0 X) := by
  go_enter Tryd.func15, Tryd.ntmps15
  have c9_0_117 : w.cell? ⟨pb, 117, none⟩ = some (.map (some mp)) := hO.cell 0 rfl (117) (hk117)
  have lt9_0 : pb < w.heap.size := hO.lt 0 rfl
  have y9_0 : ∀ o, w.frozen? ⟨pb, o, none⟩ = false := hO.free 0 rfl
  have HO := Lib.hid hO
  clear hO
  go_wp2_with (first | (with_reducible refine Own.stay (fn := Tryd.f15) ?_) | (at_lookup; refine wpList_lookup_no rfl _ _ 150 true rfl 9 200 (by kernel_rfl) (by kernel_rfl) ((HO.out.mapAt 1 rfl).alloc _) rfl _ rfl (.agg #[.int .i32 0, .int .u32 0, .int .u32 0]) (Tryd.zeroValue200 _) hno ?_))
  try with_reducible refine Own.Stay.mk ?_
  have hO := HO.out
  clear HO c9_0_117 lt9_0 y9_0
  generalize hW : World.alloc _ _ = W2
  have hN : Own w0 W2 [row (w.heap.size + 1) 200 #[.int .i32 0, .int .u32 0, .int .u32 0], row (w.heap.size) 25 #[.int .u32 0, .int .u32 0], row (pb) 193 PC, ((mp, .map es k) : Rw)] X := by
    rw [← hW]
    exact ((hO).alloc' _ (w.heap.size) (by simp)).alloc' _ (w.heap.size + 1) (by simp)
  clear hW hO
  generalize w.heap.size + 1 = B1_1 at hN ⊢
  generalize w.heap.size = B1 at hN ⊢
  have hO := hN
  clear hN
  have z9_1_0 : W2.cell? ⟨B1, 0, none⟩ = some (.int .u32 0) := hO.cell 1 rfl 0 rfl
  have z9_1_1 : W2.cell? ⟨B1, 1, none⟩ = some (.int .u32 0) := hO.cell 1 rfl 1 rfl
  refine bodyPost_ret (v := .tuple #[.agg #[.int .u32 0, .int .u32 0], .bool false]) ?_ rfl ⟨rfl, hO.sub [2, 3] (by decide)⟩
  simp [results, Tryd.results15, go_sem, z9_1_0, z9_1_1]
end Go.Proofs.YtkhmjppfogppoaaDoor.Use
