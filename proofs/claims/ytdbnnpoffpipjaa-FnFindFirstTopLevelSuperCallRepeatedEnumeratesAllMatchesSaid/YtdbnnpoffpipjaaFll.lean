/- Flattening a leaf. No condition. -/
import Derived.Test.YtdbnnpoffpipjaaRdr
import Derived.Test.YtdbnnpoffpipjaaFd
import Derived.Test.YtdbnnpoffpipjaaFn1
import Derived.Test.YtdbnnpoffpipjaaFf1
import Derived.Test.YtdbnnpoffpipjaaJn
import Derived.Test.YtdbnnpoffpipjaaTre
import Derived.Test.YtdbnnpoffpipjaaLoop
import Derived.Test.YtdbnnpoffpipjaaAppL
import Derived.Test.YtdbnnpoffpipjaaApp
import Derived.Test.YtdbnnpoffpipjaaOwnK
import Derived.Test.YtdbnnpoffpipjaaOwn
import Derived.Test.YtdbnnpoffpipjaaDeepCells
import Derived.Test.YtdbnnpoffpipjaaRows
namespace Go.Proofs.Ytdbnnpoffpipjaa.Use
open Go.ChangeShapes Go.WideShapes Go.ChangeAt Go.RowKit Go.Sort Own
set_option linter.unusedVariables false
def i32Z : Array Value := #[.int .i32 0]
theorem infoI32 : (Try.prog.info? 21).map (fun i => (i.zero, i.size, i.bytes)) = some (some (.int .i32 0), 1, 4) := by kernel_rfl
def rgV (l : List Nat) : List Value := l.map fun (i : Nat) => .int .i32 (i : Int)
theorem rgV_length (l : List Nat) : (rgV l).length = l.length := List.length_map ..
theorem rgV_append (l m : List Nat) : rgV (l ++ m) = rgV l ++ rgV m := List.map_append
theorem rgV_one (l : List Nat) (i : Nat) : rgV l ++ [.int .i32 (i : Int)] = rgV (l ++ [i]) := (rgV_append l [i]).symm

def flatNilPost (x : Int) (w0 : World) (X : Nat → Obj → Prop) (e : Ending) (w' : World) : Prop :=
  e = .returned (.slice none 0 0) ∧ Own w0 w' [] X
set_option maxRecDepth 100000 in
set_option maxHeartbeats 1000000 in
theorem flatNil (x : Int) (w0 w : World) (X : Nat → Obj → Prop) (hO : Own w0 w [] X)  :
    Calls Try.prog 12 #[.agg #[.nilIface, .int .i32 x], .slice none 0 0] w (flatNilPost x w0 X) := by
  go_enter Try.func12, Try.ntmps12
  go_wp2_with (first | (with_reducible refine Own.stay (fn := Try.f12) ?_) | fail)
  try with_reducible refine Own.Stay.mk ?_
  generalize hW : World.alloc _ _ = W2
  have hN : Own w0 W2 [row (w.heap.size) 35 #[.nilIface, .int .i32 x]] X := by
    rw [← hW]
    exact (hO).alloc' _ (w.heap.size) (by simp)
  clear hW hO
  generalize w.heap.size = B1 at hN ⊢
  have hO := hN
  clear hN
  refine bodyPost_ret (v := .slice none 0 0) ?_ rfl ⟨rfl, hO.sub [] (by decide)⟩
  simp [results, Try.results12, go_sem]
def flatL0NPost (v : Value) (i : Nat) (w0 : World) (X : Nat → Obj → Prop) (e : Ending) (w' : World) : Prop :=
  ∃ ob2 : Nat, ∃ oc2 : Nat, e = .returned (.slice (some ⟨ob2, 0, none⟩) 1 (1 + oc2)) ∧ Own w0 w' [row (ob2) 21 (full i32Z (rgV ([i])) oc2)] X
set_option maxRecDepth 100000 in
set_option maxHeartbeats 1000000 in
theorem flatL0N (v : Value) (i : Nat) (w0 w : World) (X : Nat → Obj → Prop) (hO : Own w0 w [] X)  :
    Calls Try.prog 12 #[.agg #[.iface 59 v, .int .i32 (i : Int)], .slice none 0 0] w (flatL0NPost v i w0 X) := by
  go_enter Try.func12, Try.ntmps12
  go_wp2_with (first | (with_reducible refine Own.stay (fn := Try.f12) ?_) | (at_builtin; refine Own.appStop ?_) | fail)
  try with_reducible refine Own.Stay.mk ?_
  generalize hW : World.alloc _ _ = W2
  have hN : Own w0 W2 [row (w.heap.size) 35 #[.iface 59 v, .int .i32 (i : Int)]] X := by
    rw [← hW]
    exact (hO).alloc' _ (w.heap.size) (by simp)
  clear hW hO
  generalize w.heap.size = B1 at hN ⊢
  have hO := hN
  clear hN
  have hL := hO.apart
  have hX := hO.apartX
  have HL := Lib.hid hL
  have HX := Lib.hid hX
  clear hL hX
  have hP9 := hO.pick [] (by decide)
  have T9 := asBin0 v (i : Int) _ _ _ hP9 
  refine Calls.mono T9 ?_
  clear hP9 T9
  rintro e u3 ⟨rfl, hQ⟩
  have hN : Own w0 u3 [row (B1) 35 #[.iface 59 v, .int .i32 (i : Int)]] X := hQ.back HL.out HX.out [0] (by decide) (by decide)
  clear hQ HL HX hO
  have hO := hN
  clear hN
  try simp only []
  obtain ⟨c9_0_0, c9_0_1, lt9_0, y9_0, -⟩ := hO.k2 0 rfl
  have HO := Lib.hid hO
  clear hO
  go_wp2_with (first | (with_reducible refine Own.stay (fn := Try.f12) ?_) | (at_builtin; refine Own.appStop ?_) | fail)
  try with_reducible refine Own.Stay.mk ?_
  have hO := HO.out
  clear HO c9_0_0 c9_0_1 lt9_0 y9_0
  generalize hW : World.alloc _ _ = W5
  have hN : Own w0 W5 [row (u3.heap.size) 21 #[.int .i32 (i : Int)], row (B1) 35 #[.iface 59 v, .int .i32 (i : Int)]] X := by
    rw [← hW]
    exact (hO).alloc' _ (u3.heap.size) (by simp)
  clear hW hO
  generalize u3.heap.size = B4 at hN ⊢
  have hO := hN
  clear hN
  refine Own.AppStop.mk ?_
  obtain ⟨i9, hi9, z1, z2, z3⟩ := info_parts infoI32
  have hL := hO.apart
  have hX := hO.apartX
  have HL := Lib.hid hL
  have HX := Lib.hid hX
  clear hL hX
  have hP9 := hO.pick [0] (by decide)
  refine Own.wpList_append_full_nil rfl (.tmp 40) (.tmp 44) 48 rfl 21 i9 (.int .i32 0) 1 4 Try.underlying48 hi9 z1 z2 z3 hP9 rfl rfl rfl (by decide) (by first | decide | omega | (unfold maxLen; omega)) (by first | decide | omega | (unfold maxLen; omega)) ?_
  intro nd6 nc7 u8 hQ
  clear hP9
  have hN : Own w0 u8 [row (nd6) 21 (full i32Z [.int .i32 (i : Int)] nc7), row (B4) 21 #[.int .i32 (i : Int)], row (B1) 35 #[.iface 59 v, .int .i32 (i : Int)]] X := hQ.back HL.out HX.out [1] (by decide) (by decide)
  clear hQ HL HX hO
  have hO := hN
  clear hN
  obtain ⟨c9_1_0, lt9_1, y9_1, -⟩ := hO.k1 1 rfl
  obtain ⟨c9_2_0, c9_2_1, lt9_2, y9_2, -⟩ := hO.k2 2 rfl
  have HO := Lib.hid hO
  clear hO
  go_wp2_with (first | (with_reducible refine Own.stay (fn := Try.f12) ?_) | (at_builtin; refine Own.appStop ?_) | fail)
  try with_reducible refine Own.Stay.mk ?_
  have hO := HO.out
  clear HO c9_1_0 lt9_1 y9_1 c9_2_0 c9_2_1 lt9_2 y9_2
  have hN : Own w0 u8 [row (nd6) 21 (full i32Z (rgV [i]) nc7), row (B4) 21 #[.int .i32 (i : Int)], row (B1) 35 #[.iface 59 v, .int .i32 (i : Int)]] X := hO
  clear hO
  have hO := hN
  clear hN
  refine bodyPost_ret (v := .slice (some ⟨nd6, 0, none⟩) 1 (1 + nc7)) ?_ rfl ⟨nd6, nc7, rfl, hO.sub [0] (by decide)⟩
  simp [results, Try.results12, go_sem]
def flatL1NPost (v : Value) (i ob oc : Nat) (ls : List Nat) (m : Nat) (w0 : World) (X : Nat → Obj → Prop) (e : Ending) (w' : World) : Prop :=
  ∃ ob2 : Nat, ∃ oc2 : Nat, e = .returned (.slice (some ⟨ob2, 0, none⟩) (m + 1) (m + 1 + oc2)) ∧ Own w0 w' [row (ob2) 21 (full i32Z (rgV (ls ++ [i])) oc2)] X
set_option maxRecDepth 100000 in
set_option maxHeartbeats 1000000 in
theorem flatL1N (v : Value) (i ob oc : Nat) (ls : List Nat) (m : Nat) (w0 w : World) (X : Nat → Obj → Prop) (hO : Own w0 w [row (ob) 21 (full i32Z (rgV ls) oc)] X) (hm : ls.length = m) (hm5 : m ≤ 100000) :
    Calls Try.prog 12 #[.agg #[.iface 59 v, .int .i32 (i : Int)], .slice (some ⟨ob, 0, none⟩) m (m + oc)] w (flatL1NPost v i ob oc ls m w0 X) := by
  go_enter Try.func12, Try.ntmps12
  have hlr : (rgV ls).length = m * 1 := by rw [rgV_length, hm, Nat.mul_one]
  go_wp2_with (first | (with_reducible refine Own.stay (fn := Try.f12) ?_) | (at_builtin; refine Own.appStop ?_) | fail)
  try with_reducible refine Own.Stay.mk ?_
  generalize hW : World.alloc _ _ = W2
  have hN : Own w0 W2 [row (w.heap.size) 35 #[.iface 59 v, .int .i32 (i : Int)], row (ob) 21 (full i32Z (rgV ls) oc)] X := by
    rw [← hW]
    exact (hO).alloc' _ (w.heap.size) (by simp)
  clear hW hO
  generalize w.heap.size = B1 at hN ⊢
  have hO := hN
  clear hN
  have hL := hO.apart
  have hX := hO.apartX
  have HL := Lib.hid hL
  have HX := Lib.hid hX
  clear hL hX
  have hP9 := hO.pick [] (by decide)
  have T9 := asBin0 v (i : Int) _ _ _ hP9 
  refine Calls.mono T9 ?_
  clear hP9 T9
  rintro e u3 ⟨rfl, hQ⟩
  have hN : Own w0 u3 [row (B1) 35 #[.iface 59 v, .int .i32 (i : Int)], row (ob) 21 (full i32Z (rgV ls) oc)] X := hQ.back HL.out HX.out [0, 1] (by decide) (by decide)
  clear hQ HL HX hO
  have hO := hN
  clear hN
  try simp only []
  obtain ⟨c9_0_0, c9_0_1, lt9_0, y9_0, -⟩ := hO.k2 0 rfl
  have HO := Lib.hid hO
  clear hO
  go_wp2_with (first | (with_reducible refine Own.stay (fn := Try.f12) ?_) | (at_builtin; refine Own.appStop ?_) | fail)
  try with_reducible refine Own.Stay.mk ?_
  have hO := HO.out
  clear HO c9_0_0 c9_0_1 lt9_0 y9_0
  generalize hW : World.alloc _ _ = W5
  have hN : Own w0 W5 [row (u3.heap.size) 21 #[.int .i32 (i : Int)], row (B1) 35 #[.iface 59 v, .int .i32 (i : Int)], row (ob) 21 (full i32Z (rgV ls) oc)] X := by
    rw [← hW]
    exact (hO).alloc' _ (u3.heap.size) (by simp)
  clear hW hO
  generalize u3.heap.size = B4 at hN ⊢
  have hO := hN
  clear hN
  refine Own.AppStop.mk ?_
  obtain ⟨i9, hi9, z1, z2, z3⟩ := info_parts infoI32
  have hL := hO.apart
  have hX := hO.apartX
  have HL := Lib.hid hL
  have HX := Lib.hid hX
  clear hL hX
  have hP9 := hO.pick [2, 0] (by decide)
  refine Own.wpList_append_full rfl (.tmp 40) (.tmp 44) 48 rfl 21 i9 (.int .i32 0) 1 4 Try.underlying48 hi9 z1 z2 z3 rfl (by decide) hP9 rfl rfl (by first | rfl | assumption | (simp; done) | (simp; omega)) (by first | rfl | assumption | omega) rfl (oneAll rfl) (by first | decide | omega | (unfold maxLen; omega)) (by first | decide | omega | (unfold maxLen; omega)) ?_
  intro nd6 nc7 u8 hQ
  clear hP9
  have hN : Own w0 u8 [row (nd6) 21 (full i32Z ((rgV ls) ++ [.int .i32 (i : Int)]) nc7), row (B4) 21 #[.int .i32 (i : Int)], row (B1) 35 #[.iface 59 v, .int .i32 (i : Int)]] X := hQ.back HL.out HX.out [1] (by decide) (by decide)
  clear hQ HL HX hO
  have hO := hN
  clear hN
  obtain ⟨c9_1_0, lt9_1, y9_1, -⟩ := hO.k1 1 rfl
  obtain ⟨c9_2_0, c9_2_1, lt9_2, y9_2, -⟩ := hO.k2 2 rfl
  have HO := Lib.hid hO
  clear hO
  go_wp2_with (first | (with_reducible refine Own.stay (fn := Try.f12) ?_) | (at_builtin; refine Own.appStop ?_) | fail)
  try with_reducible refine Own.Stay.mk ?_
  have hO := HO.out
  clear HO c9_1_0 lt9_1 y9_1 c9_2_0 c9_2_1 lt9_2 y9_2
  have hN : Own w0 u8 [row (nd6) 21 (full i32Z (rgV (ls ++ [i])) nc7), row (B4) 21 #[.int .i32 (i : Int)], row (B1) 35 #[.iface 59 v, .int .i32 (i : Int)]] X := hO.conv (by rw [rgV_one])
  clear hO
  have hO := hN
  clear hN
  refine bodyPost_ret (v := .slice (some ⟨nd6, 0, none⟩) (m + 1) (m + 1 + nc7)) ?_ rfl ⟨nd6, nc7, rfl, hO.sub [0] (by decide)⟩
  simp [results, Try.results12, go_sem]
def flatL0CPost (v : Value) (i : Nat) (w0 : World) (X : Nat → Obj → Prop) (e : Ending) (w' : World) : Prop :=
  ∃ ob2 : Nat, ∃ oc2 : Nat, e = .returned (.slice (some ⟨ob2, 0, none⟩) 1 (1 + oc2)) ∧ Own w0 w' [row (ob2) 21 (full i32Z (rgV ([i])) oc2)] X
set_option maxRecDepth 100000 in
set_option maxHeartbeats 1000000 in
theorem flatL0C (v : Value) (i : Nat) (w0 w : World) (X : Nat → Obj → Prop) (hO : Own w0 w [] X)  :
    Calls Try.prog 12 #[.agg #[.iface 36 v, .int .i32 (i : Int)], .slice none 0 0] w (flatL0CPost v i w0 X) := by
  go_enter Try.func12, Try.ntmps12
  go_wp2_with (first | (with_reducible refine Own.stay (fn := Try.f12) ?_) | (at_builtin; refine Own.appStop ?_) | fail)
  try with_reducible refine Own.Stay.mk ?_
  generalize hW : World.alloc _ _ = W2
  have hN : Own w0 W2 [row (w.heap.size) 35 #[.iface 36 v, .int .i32 (i : Int)]] X := by
    rw [← hW]
    exact (hO).alloc' _ (w.heap.size) (by simp)
  clear hW hO
  generalize w.heap.size = B1 at hN ⊢
  have hO := hN
  clear hN
  have hL := hO.apart
  have hX := hO.apartX
  have HL := Lib.hid hL
  have HX := Lib.hid hX
  clear hL hX
  have hP9 := hO.pick [] (by decide)
  have T9 := asBin2 v (i : Int) _ _ _ hP9 
  refine Calls.mono T9 ?_
  clear hP9 T9
  rintro e u3 ⟨rfl, hQ⟩
  have hN : Own w0 u3 [row (B1) 35 #[.iface 36 v, .int .i32 (i : Int)]] X := hQ.back HL.out HX.out [0] (by decide) (by decide)
  clear hQ HL HX hO
  have hO := hN
  clear hN
  try simp only []
  obtain ⟨c9_0_0, c9_0_1, lt9_0, y9_0, -⟩ := hO.k2 0 rfl
  have HO := Lib.hid hO
  clear hO
  go_wp2_with (first | (with_reducible refine Own.stay (fn := Try.f12) ?_) | (at_builtin; refine Own.appStop ?_) | fail)
  try with_reducible refine Own.Stay.mk ?_
  have hO := HO.out
  clear HO c9_0_0 c9_0_1 lt9_0 y9_0
  generalize hW : World.alloc _ _ = W5
  have hN : Own w0 W5 [row (u3.heap.size) 21 #[.int .i32 (i : Int)], row (B1) 35 #[.iface 36 v, .int .i32 (i : Int)]] X := by
    rw [← hW]
    exact (hO).alloc' _ (u3.heap.size) (by simp)
  clear hW hO
  generalize u3.heap.size = B4 at hN ⊢
  have hO := hN
  clear hN
  refine Own.AppStop.mk ?_
  obtain ⟨i9, hi9, z1, z2, z3⟩ := info_parts infoI32
  have hL := hO.apart
  have hX := hO.apartX
  have HL := Lib.hid hL
  have HX := Lib.hid hX
  clear hL hX
  have hP9 := hO.pick [0] (by decide)
  refine Own.wpList_append_full_nil rfl (.tmp 40) (.tmp 44) 48 rfl 21 i9 (.int .i32 0) 1 4 Try.underlying48 hi9 z1 z2 z3 hP9 rfl rfl rfl (by decide) (by first | decide | omega | (unfold maxLen; omega)) (by first | decide | omega | (unfold maxLen; omega)) ?_
  intro nd6 nc7 u8 hQ
  clear hP9
  have hN : Own w0 u8 [row (nd6) 21 (full i32Z [.int .i32 (i : Int)] nc7), row (B4) 21 #[.int .i32 (i : Int)], row (B1) 35 #[.iface 36 v, .int .i32 (i : Int)]] X := hQ.back HL.out HX.out [1] (by decide) (by decide)
  clear hQ HL HX hO
  have hO := hN
  clear hN
  obtain ⟨c9_1_0, lt9_1, y9_1, -⟩ := hO.k1 1 rfl
  obtain ⟨c9_2_0, c9_2_1, lt9_2, y9_2, -⟩ := hO.k2 2 rfl
  have HO := Lib.hid hO
  clear hO
  go_wp2_with (first | (with_reducible refine Own.stay (fn := Try.f12) ?_) | (at_builtin; refine Own.appStop ?_) | fail)
  try with_reducible refine Own.Stay.mk ?_
  have hO := HO.out
  clear HO c9_1_0 lt9_1 y9_1 c9_2_0 c9_2_1 lt9_2 y9_2
  have hN : Own w0 u8 [row (nd6) 21 (full i32Z (rgV [i]) nc7), row (B4) 21 #[.int .i32 (i : Int)], row (B1) 35 #[.iface 36 v, .int .i32 (i : Int)]] X := hO
  clear hO
  have hO := hN
  clear hN
  refine bodyPost_ret (v := .slice (some ⟨nd6, 0, none⟩) 1 (1 + nc7)) ?_ rfl ⟨nd6, nc7, rfl, hO.sub [0] (by decide)⟩
  simp [results, Try.results12, go_sem]
def flatL1CPost (v : Value) (i ob oc : Nat) (ls : List Nat) (m : Nat) (w0 : World) (X : Nat → Obj → Prop) (e : Ending) (w' : World) : Prop :=
  ∃ ob2 : Nat, ∃ oc2 : Nat, e = .returned (.slice (some ⟨ob2, 0, none⟩) (m + 1) (m + 1 + oc2)) ∧ Own w0 w' [row (ob2) 21 (full i32Z (rgV (ls ++ [i])) oc2)] X
set_option maxRecDepth 100000 in
set_option maxHeartbeats 1000000 in
theorem flatL1C (v : Value) (i ob oc : Nat) (ls : List Nat) (m : Nat) (w0 w : World) (X : Nat → Obj → Prop) (hO : Own w0 w [row (ob) 21 (full i32Z (rgV ls) oc)] X) (hm : ls.length = m) (hm5 : m ≤ 100000) :
    Calls Try.prog 12 #[.agg #[.iface 36 v, .int .i32 (i : Int)], .slice (some ⟨ob, 0, none⟩) m (m + oc)] w (flatL1CPost v i ob oc ls m w0 X) := by
  go_enter Try.func12, Try.ntmps12
  have hlr : (rgV ls).length = m * 1 := by rw [rgV_length, hm, Nat.mul_one]
  go_wp2_with (first | (with_reducible refine Own.stay (fn := Try.f12) ?_) | (at_builtin; refine Own.appStop ?_) | fail)
  try with_reducible refine Own.Stay.mk ?_
  generalize hW : World.alloc _ _ = W2
  have hN : Own w0 W2 [row (w.heap.size) 35 #[.iface 36 v, .int .i32 (i : Int)], row (ob) 21 (full i32Z (rgV ls) oc)] X := by
    rw [← hW]
    exact (hO).alloc' _ (w.heap.size) (by simp)
  clear hW hO
  generalize w.heap.size = B1 at hN ⊢
  have hO := hN
  clear hN
  have hL := hO.apart
  have hX := hO.apartX
  have HL := Lib.hid hL
  have HX := Lib.hid hX
  clear hL hX
  have hP9 := hO.pick [] (by decide)
  have T9 := asBin2 v (i : Int) _ _ _ hP9 
  refine Calls.mono T9 ?_
  clear hP9 T9
  rintro e u3 ⟨rfl, hQ⟩
  have hN : Own w0 u3 [row (B1) 35 #[.iface 36 v, .int .i32 (i : Int)], row (ob) 21 (full i32Z (rgV ls) oc)] X := hQ.back HL.out HX.out [0, 1] (by decide) (by decide)
  clear hQ HL HX hO
  have hO := hN
  clear hN
  try simp only []
  obtain ⟨c9_0_0, c9_0_1, lt9_0, y9_0, -⟩ := hO.k2 0 rfl
  have HO := Lib.hid hO
  clear hO
  go_wp2_with (first | (with_reducible refine Own.stay (fn := Try.f12) ?_) | (at_builtin; refine Own.appStop ?_) | fail)
  try with_reducible refine Own.Stay.mk ?_
  have hO := HO.out
  clear HO c9_0_0 c9_0_1 lt9_0 y9_0
  generalize hW : World.alloc _ _ = W5
  have hN : Own w0 W5 [row (u3.heap.size) 21 #[.int .i32 (i : Int)], row (B1) 35 #[.iface 36 v, .int .i32 (i : Int)], row (ob) 21 (full i32Z (rgV ls) oc)] X := by
    rw [← hW]
    exact (hO).alloc' _ (u3.heap.size) (by simp)
  clear hW hO
  generalize u3.heap.size = B4 at hN ⊢
  have hO := hN
  clear hN
  refine Own.AppStop.mk ?_
  obtain ⟨i9, hi9, z1, z2, z3⟩ := info_parts infoI32
  have hL := hO.apart
  have hX := hO.apartX
  have HL := Lib.hid hL
  have HX := Lib.hid hX
  clear hL hX
  have hP9 := hO.pick [2, 0] (by decide)
  refine Own.wpList_append_full rfl (.tmp 40) (.tmp 44) 48 rfl 21 i9 (.int .i32 0) 1 4 Try.underlying48 hi9 z1 z2 z3 rfl (by decide) hP9 rfl rfl (by first | rfl | assumption | (simp; done) | (simp; omega)) (by first | rfl | assumption | omega) rfl (oneAll rfl) (by first | decide | omega | (unfold maxLen; omega)) (by first | decide | omega | (unfold maxLen; omega)) ?_
  intro nd6 nc7 u8 hQ
  clear hP9
  have hN : Own w0 u8 [row (nd6) 21 (full i32Z ((rgV ls) ++ [.int .i32 (i : Int)]) nc7), row (B4) 21 #[.int .i32 (i : Int)], row (B1) 35 #[.iface 36 v, .int .i32 (i : Int)]] X := hQ.back HL.out HX.out [1] (by decide) (by decide)
  clear hQ HL HX hO
  have hO := hN
  clear hN
  obtain ⟨c9_1_0, lt9_1, y9_1, -⟩ := hO.k1 1 rfl
  obtain ⟨c9_2_0, c9_2_1, lt9_2, y9_2, -⟩ := hO.k2 2 rfl
  have HO := Lib.hid hO
  clear hO
  go_wp2_with (first | (with_reducible refine Own.stay (fn := Try.f12) ?_) | (at_builtin; refine Own.appStop ?_) | fail)
  try with_reducible refine Own.Stay.mk ?_
  have hO := HO.out
  clear HO c9_1_0 lt9_1 y9_1 c9_2_0 c9_2_1 lt9_2 y9_2
  have hN : Own w0 u8 [row (nd6) 21 (full i32Z (rgV (ls ++ [i])) nc7), row (B4) 21 #[.int .i32 (i : Int)], row (B1) 35 #[.iface 36 v, .int .i32 (i : Int)]] X := hO.conv (by rw [rgV_one])
  clear hO
  have hO := hN
  clear hN
  refine bodyPost_ret (v := .slice (some ⟨nd6, 0, none⟩) (m + 1) (m + 1 + nc7)) ?_ rfl ⟨nd6, nc7, rfl, hO.sub [0] (by decide)⟩
  simp [results, Try.results12, go_sem]
end Go.Proofs.Ytdbnnpoffpipjaa.Use
