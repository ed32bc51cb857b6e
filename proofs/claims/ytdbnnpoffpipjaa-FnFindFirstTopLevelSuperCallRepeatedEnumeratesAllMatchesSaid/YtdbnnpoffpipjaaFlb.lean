/- Flattening a node, and every tree. No condition. -/
import Derived.Test.YtdbnnpoffpipjaaFin
import Derived.Test.YtdbnnpoffpipjaaFll
import Derived.Test.YtdbnnpoffpipjaaRdr
import Derived.Test.YtdbnnpoffpipjaaFd
import Derived.Test.YtdbnnpoffpipjaaFn1
import Derived.Test.YtdbnnpoffpipjaaFf1
import Derived.Test.YtdbnnpoffpipjaaJn
import Derived.Test.YtdbnnpoffpipjaaTre
import Derived.Test.YtdbnnpoffpipjaaLoop
import Derived.Test.YtdbnnpoffpipjaaAppL
import Derived.Test.YtdbnnpoffpipjaaApp
import Derived.Test.YtdbnnpoffpipjaaOwnK
import Derived.Test.YtdbnnpoffpipjaaOwn
import Derived.Test.YtdbnnpoffpipjaaDeepCells
import Derived.Test.YtdbnnpoffpipjaaRows
namespace Go.Proofs.Ytdbnnpoffpipjaa.Use
open Go.ChangeShapes Go.WideShapes Go.ChangeAt Go.RowKit Go.Sort Own
set_option linter.unusedVariables false
def flat0Post (D : Dat) (t : Tr) (w0 : World) (X : Nat → Obj → Prop) (e : Ending) (w' : World) : Prop :=
  ∃ ob2 : Nat, ∃ oc2 : Nat, e = .returned (.slice (some ⟨ob2, 0, none⟩) (t.flat.length) (t.flat.length + oc2)) ∧ Own w0 w' [row (ob2) 21 (full i32Z (rgV (t.flat)) oc2)] X
def flat1Post (D : Dat) (t : Tr) (ob oc : Nat) (ls : List Nat) (m : Nat) (w0 : World) (X : Nat → Obj → Prop) (e : Ending) (w' : World) : Prop :=
  ∃ ob2 : Nat, ∃ oc2 : Nat, e = .returned (.slice (some ⟨ob2, 0, none⟩) (m + t.flat.length) (m + t.flat.length + oc2)) ∧ Own w0 w' [row (ob2) 21 (full i32Z (rgV (ls ++ t.flat)) oc2)] X
def flatB0Post (D : Dat) (b : Nat) (l r : Tr) (x : Int) (w0 : World) (X : Nat → Obj → Prop) (e : Ending) (w' : World) : Prop :=
  ∃ ob2 : Nat, ∃ oc2 : Nat, e = .returned (.slice (some ⟨ob2, 0, none⟩) (l.flat.length + r.flat.length) (l.flat.length + r.flat.length + oc2)) ∧ Own w0 w' [row (ob2) 21 (full i32Z (rgV (l.flat ++ r.flat)) oc2)] X
set_option maxRecDepth 100000 in
set_option maxHeartbeats 1000000 in
theorem flatB0 (D : Dat) (b : Nat) (l r : Tr) (x : Int) (w0 w : World) (X : Nat → Obj → Prop) (hO : Own w0 w [] X) (hb : X b (.cells (binC D l r) 66 (0, 0))) (hNl : NodesIn X D l) (hNr : NodesIn X D r) (hbd : l.flat.length + r.flat.length ≤ 100000) (ihl : ∀ (w0 w : World) (X : Nat → Obj → Prop), Own w0 w [] X → NodesIn X D l → Calls Try.prog 12 #[.agg #[dV D l, .int .i32 (lV l)], .slice none 0 0] w (flat0Post D l w0 X)) (ihr : ∀ (ob oc : Nat) (ls : List Nat) (m : Nat) (w0 w : World) (X : Nat → Obj → Prop), Own w0 w [row (ob) 21 (full i32Z (rgV ls) oc)] X → ls.length = m → m + r.flat.length ≤ 100000 → NodesIn X D r → Calls Try.prog 12 #[.agg #[dV D r, .int .i32 (lV r)], .slice (some ⟨ob, 0, none⟩) m (m + oc)] w (flat1Post D r ob oc ls m w0 X)) :
    Calls Try.prog 12 #[.agg #[.iface 63 (.pointer (some ⟨b, 0, none⟩)), .int .i32 x], .slice none 0 0] w (flatB0Post D b l r x w0 X) := by
  go_enter Try.func12, Try.ntmps12
  have fx0_0 : w.cell? ⟨b, 0, none⟩ = some (dV D l) := hO.fcell hb 0 rfl
  have fx0_1 : w.cell? ⟨b, 1, none⟩ = some (.int .i32 (lV l)) := hO.fcell hb 1 rfl
  have fx0_2 : w.cell? ⟨b, 2, none⟩ = some (dV D r) := hO.fcell hb 2 rfl
  have fx0_3 : w.cell? ⟨b, 3, none⟩ = some (.int .i32 (lV r)) := hO.fcell hb 3 rfl
  have fx0_4 : w.cell? ⟨b, 4, none⟩ = some (.int .u8 36) := hO.fcell hb 4 rfl
  have fx0_5 : w.cell? ⟨b, 5, none⟩ = some (.bool false) := hO.fcell hb 5 rfl
  go_wp2_with (first | (with_reducible refine Own.stay (fn := Try.f12) ?_) | (at_builtin; refine Own.appStop ?_) | fail)
  try with_reducible refine Own.Stay.mk ?_
  have HO := Lib.hid hO
  clear hO
  have hO := HO.out
  clear HO fx0_0 fx0_1 fx0_2 fx0_3 fx0_4 fx0_5
  generalize hW : World.alloc _ _ = W2
  have hN : Own w0 W2 [row (w.heap.size) 35 #[.iface 63 (.pointer (some ⟨b, 0, none⟩)), .int .i32 x]] X := by
    rw [← hW]
    exact (hO).alloc' _ (w.heap.size) (by simp)
  clear hW hO
  generalize w.heap.size = B1 at hN ⊢
  have hO := hN
  clear hN
  have hL := hO.apart
  have hX := hO.apartX
  have HL := Lib.hid hL
  have HX := Lib.hid hX
  clear hL hX
  have hP9 := hO.pick [] (by decide)
  have T9 := asBin1 b x _ _ _ hP9 
  refine Calls.mono T9 ?_
  clear hP9 T9
  rintro e u3 ⟨rfl, hQ⟩
  have hN : Own w0 u3 [row (B1) 35 #[.iface 63 (.pointer (some ⟨b, 0, none⟩)), .int .i32 x]] X := hQ.back HL.out HX.out [0] (by decide) (by decide)
  clear hQ HL HX hO
  have hO := hN
  clear hN
  try simp only []
  obtain ⟨c9_0_0, c9_0_1, lt9_0, y9_0, -⟩ := hO.k2 0 rfl
  have HO := Lib.hid hO
  clear hO
  have fx0_0 : u3.cell? ⟨b, 0, none⟩ = some (dV D l) := HO.out.fcell hb 0 rfl
  have fx0_1 : u3.cell? ⟨b, 1, none⟩ = some (.int .i32 (lV l)) := HO.out.fcell hb 1 rfl
  have fx0_2 : u3.cell? ⟨b, 2, none⟩ = some (dV D r) := HO.out.fcell hb 2 rfl
  have fx0_3 : u3.cell? ⟨b, 3, none⟩ = some (.int .i32 (lV r)) := HO.out.fcell hb 3 rfl
  have fx0_4 : u3.cell? ⟨b, 4, none⟩ = some (.int .u8 36) := HO.out.fcell hb 4 rfl
  have fx0_5 : u3.cell? ⟨b, 5, none⟩ = some (.bool false) := HO.out.fcell hb 5 rfl
  go_wp2_with (first | (with_reducible refine Own.stay (fn := Try.f12) ?_) | (at_builtin; refine Own.appStop ?_) | fail)
  try with_reducible refine Own.Stay.mk ?_
  have hO := HO.out
  clear HO fx0_0 fx0_1 fx0_2 fx0_3 fx0_4 fx0_5 c9_0_0 c9_0_1 lt9_0 y9_0
  have hL := hO.apart
  have hX := hO.apartX
  have HL := Lib.hid hL
  have HX := Lib.hid hX
  clear hL hX
  have hP9 := hO.pick [] (by decide)
  have T9 := ihl  _ _ _ hP9 (hNl.mono fun _ _ h => Or.inl h)
  refine Calls.mono T9 ?_
  clear hP9 T9
  rintro e u4 ⟨nd5, nd6, rfl, hQ⟩
  have hN : Own w0 u4 [row (nd5) 21 (full i32Z (rgV (l.flat)) nd6), row (B1) 35 #[.iface 63 (.pointer (some ⟨b, 0, none⟩)), .int .i32 x]] X := hQ.back HL.out HX.out [0] (by decide) (by decide)
  clear hQ HL HX hO
  have hO := hN
  clear hN
  try simp only []
  obtain ⟨c9_1_0, c9_1_1, lt9_1, y9_1, -⟩ := hO.k2 1 rfl
  have HO := Lib.hid hO
  clear hO
  have fx0_0 : u4.cell? ⟨b, 0, none⟩ = some (dV D l) := HO.out.fcell hb 0 rfl
  have fx0_1 : u4.cell? ⟨b, 1, none⟩ = some (.int .i32 (lV l)) := HO.out.fcell hb 1 rfl
  have fx0_2 : u4.cell? ⟨b, 2, none⟩ = some (dV D r) := HO.out.fcell hb 2 rfl
  have fx0_3 : u4.cell? ⟨b, 3, none⟩ = some (.int .i32 (lV r)) := HO.out.fcell hb 3 rfl
  have fx0_4 : u4.cell? ⟨b, 4, none⟩ = some (.int .u8 36) := HO.out.fcell hb 4 rfl
  have fx0_5 : u4.cell? ⟨b, 5, none⟩ = some (.bool false) := HO.out.fcell hb 5 rfl
  go_wp2_with (first | (with_reducible refine Own.stay (fn := Try.f12) ?_) | (at_builtin; refine Own.appStop ?_) | fail)
  try with_reducible refine Own.Stay.mk ?_
  have hO := HO.out
  clear HO fx0_0 fx0_1 fx0_2 fx0_3 fx0_4 fx0_5 c9_1_0 c9_1_1 lt9_1 y9_1
  have hL := hO.apart
  have hX := hO.apartX
  have HL := Lib.hid hL
  have HX := Lib.hid hX
  clear hL hX
  have hP9 := hO.pick [0] (by decide)
  have h9_hm : l.flat.length = l.flat.length := rfl
  have T9 := ihr nd5 nd6 l.flat l.flat.length _ _ _ hP9 h9_hm (by omega) (hNr.mono fun _ _ h => Or.inl h)
  refine Calls.mono T9 ?_
  clear hP9 T9 h9_hm
  rintro e u7 ⟨nd8, nd9, rfl, hQ⟩
  have hN : Own w0 u7 [row (nd8) 21 (full i32Z (rgV (l.flat ++ r.flat)) nd9), row (B1) 35 #[.iface 63 (.pointer (some ⟨b, 0, none⟩)), .int .i32 x]] X := hQ.back HL.out HX.out [1] (by decide) (by decide)
  clear hQ HL HX hO
  have hO := hN
  clear hN
  try simp only []
  obtain ⟨c9_1_0, c9_1_1, lt9_1, y9_1, -⟩ := hO.k2 1 rfl
  have HO := Lib.hid hO
  clear hO
  have fx0_0 : u7.cell? ⟨b, 0, none⟩ = some (dV D l) := HO.out.fcell hb 0 rfl
  have fx0_1 : u7.cell? ⟨b, 1, none⟩ = some (.int .i32 (lV l)) := HO.out.fcell hb 1 rfl
  have fx0_2 : u7.cell? ⟨b, 2, none⟩ = some (dV D r) := HO.out.fcell hb 2 rfl
  have fx0_3 : u7.cell? ⟨b, 3, none⟩ = some (.int .i32 (lV r)) := HO.out.fcell hb 3 rfl
  have fx0_4 : u7.cell? ⟨b, 4, none⟩ = some (.int .u8 36) := HO.out.fcell hb 4 rfl
  have fx0_5 : u7.cell? ⟨b, 5, none⟩ = some (.bool false) := HO.out.fcell hb 5 rfl
  go_wp2_with (first | (with_reducible refine Own.stay (fn := Try.f12) ?_) | (at_builtin; refine Own.appStop ?_) | fail)
  try with_reducible refine Own.Stay.mk ?_
  have hO := HO.out
  clear HO fx0_0 fx0_1 fx0_2 fx0_3 fx0_4 fx0_5 c9_1_0 c9_1_1 lt9_1 y9_1
  refine bodyPost_ret (v := .slice (some ⟨nd8, 0, none⟩) (l.flat.length + r.flat.length) (l.flat.length + r.flat.length + nd9)) ?_ rfl ⟨nd8, nd9, rfl, hO.sub [0] (by decide)⟩
  simp [results, Try.results12, go_sem]
def flatB1Post (D : Dat) (b : Nat) (l r : Tr) (x : Int) (ob oc : Nat) (ls : List Nat) (m : Nat) (w0 : World) (X : Nat → Obj → Prop) (e : Ending) (w' : World) : Prop :=
  ∃ ob2 : Nat, ∃ oc2 : Nat, e = .returned (.slice (some ⟨ob2, 0, none⟩) (m + l.flat.length + r.flat.length) (m + l.flat.length + r.flat.length + oc2)) ∧ Own w0 w' [row (ob2) 21 (full i32Z (rgV ((ls ++ l.flat) ++ r.flat)) oc2)] X
set_option maxRecDepth 100000 in
set_option maxHeartbeats 1000000 in
theorem flatB1 (D : Dat) (b : Nat) (l r : Tr) (x : Int) (ob oc : Nat) (ls : List Nat) (m : Nat) (w0 w : World) (X : Nat → Obj → Prop) (hO : Own w0 w [row (ob) 21 (full i32Z (rgV ls) oc)] X) (hb : X b (.cells (binC D l r) 66 (0, 0))) (hNl : NodesIn X D l) (hNr : NodesIn X D r) (hm : ls.length = m) (hbd : m + l.flat.length + r.flat.length ≤ 100000) (ihl : ∀ (ob oc : Nat) (ls : List Nat) (m : Nat) (w0 w : World) (X : Nat → Obj → Prop), Own w0 w [row (ob) 21 (full i32Z (rgV ls) oc)] X → ls.length = m → m + l.flat.length ≤ 100000 → NodesIn X D l → Calls Try.prog 12 #[.agg #[dV D l, .int .i32 (lV l)], .slice (some ⟨ob, 0, none⟩) m (m + oc)] w (flat1Post D l ob oc ls m w0 X)) (ihr : ∀ (ob oc : Nat) (ls : List Nat) (m : Nat) (w0 w : World) (X : Nat → Obj → Prop), Own w0 w [row (ob) 21 (full i32Z (rgV ls) oc)] X → ls.length = m → m + r.flat.length ≤ 100000 → NodesIn X D r → Calls Try.prog 12 #[.agg #[dV D r, .int .i32 (lV r)], .slice (some ⟨ob, 0, none⟩) m (m + oc)] w (flat1Post D r ob oc ls m w0 X)) :
    Calls Try.prog 12 #[.agg #[.iface 63 (.pointer (some ⟨b, 0, none⟩)), .int .i32 x], .slice (some ⟨ob, 0, none⟩) m (m + oc)] w (flatB1Post D b l r x ob oc ls m w0 X) := by
  go_enter Try.func12, Try.ntmps12
  have fx0_0 : w.cell? ⟨b, 0, none⟩ = some (dV D l) := hO.fcell hb 0 rfl
  have fx0_1 : w.cell? ⟨b, 1, none⟩ = some (.int .i32 (lV l)) := hO.fcell hb 1 rfl
  have fx0_2 : w.cell? ⟨b, 2, none⟩ = some (dV D r) := hO.fcell hb 2 rfl
  have fx0_3 : w.cell? ⟨b, 3, none⟩ = some (.int .i32 (lV r)) := hO.fcell hb 3 rfl
  have fx0_4 : w.cell? ⟨b, 4, none⟩ = some (.int .u8 36) := hO.fcell hb 4 rfl
  have fx0_5 : w.cell? ⟨b, 5, none⟩ = some (.bool false) := hO.fcell hb 5 rfl
  go_wp2_with (first | (with_reducible refine Own.stay (fn := Try.f12) ?_) | (at_builtin; refine Own.appStop ?_) | fail)
  try with_reducible refine Own.Stay.mk ?_
  have HO := Lib.hid hO
  clear hO
  have hO := HO.out
  clear HO fx0_0 fx0_1 fx0_2 fx0_3 fx0_4 fx0_5
  generalize hW : World.alloc _ _ = W2
  have hN : Own w0 W2 [row (w.heap.size) 35 #[.iface 63 (.pointer (some ⟨b, 0, none⟩)), .int .i32 x], row (ob) 21 (full i32Z (rgV ls) oc)] X := by
    rw [← hW]
    exact (hO).alloc' _ (w.heap.size) (by simp)
  clear hW hO
  generalize w.heap.size = B1 at hN ⊢
  have hO := hN
  clear hN
  have hL := hO.apart
  have hX := hO.apartX
  have HL := Lib.hid hL
  have HX := Lib.hid hX
  clear hL hX
  have hP9 := hO.pick [] (by decide)
  have T9 := asBin1 b x _ _ _ hP9 
  refine Calls.mono T9 ?_
  clear hP9 T9
  rintro e u3 ⟨rfl, hQ⟩
  have hN : Own w0 u3 [row (B1) 35 #[.iface 63 (.pointer (some ⟨b, 0, none⟩)), .int .i32 x], row (ob) 21 (full i32Z (rgV ls) oc)] X := hQ.back HL.out HX.out [0, 1] (by decide) (by decide)
  clear hQ HL HX hO
  have hO := hN
  clear hN
  try simp only []
  obtain ⟨c9_0_0, c9_0_1, lt9_0, y9_0, -⟩ := hO.k2 0 rfl
  have HO := Lib.hid hO
  clear hO
  have fx0_0 : u3.cell? ⟨b, 0, none⟩ = some (dV D l) := HO.out.fcell hb 0 rfl
  have fx0_1 : u3.cell? ⟨b, 1, none⟩ = some (.int .i32 (lV l)) := HO.out.fcell hb 1 rfl
  have fx0_2 : u3.cell? ⟨b, 2, none⟩ = some (dV D r) := HO.out.fcell hb 2 rfl
  have fx0_3 : u3.cell? ⟨b, 3, none⟩ = some (.int .i32 (lV r)) := HO.out.fcell hb 3 rfl
  have fx0_4 : u3.cell? ⟨b, 4, none⟩ = some (.int .u8 36) := HO.out.fcell hb 4 rfl
  have fx0_5 : u3.cell? ⟨b, 5, none⟩ = some (.bool false) := HO.out.fcell hb 5 rfl
  go_wp2_with (first | (with_reducible refine Own.stay (fn := Try.f12) ?_) | (at_builtin; refine Own.appStop ?_) | fail)
  try with_reducible refine Own.Stay.mk ?_
  have hO := HO.out
  clear HO fx0_0 fx0_1 fx0_2 fx0_3 fx0_4 fx0_5 c9_0_0 c9_0_1 lt9_0 y9_0
  have hL := hO.apart
  have hX := hO.apartX
  have HL := Lib.hid hL
  have HX := Lib.hid hX
  clear hL hX
  have hP9 := hO.pick [1] (by decide)
  have h9_hbd : m + l.flat.length ≤ 100000 := (by omega)
  have T9 := ihl ob oc ls m _ _ _ hP9 hm h9_hbd (hNl.mono fun _ _ h => Or.inl h)
  refine Calls.mono T9 ?_
  clear hP9 T9 h9_hbd
  rintro e u4 ⟨nd5, nd6, rfl, hQ⟩
  have hN : Own w0 u4 [row (nd5) 21 (full i32Z (rgV (ls ++ l.flat)) nd6), row (B1) 35 #[.iface 63 (.pointer (some ⟨b, 0, none⟩)), .int .i32 x]] X := hQ.back HL.out HX.out [0] (by decide) (by decide)
  clear hQ HL HX hO
  have hO := hN
  clear hN
  try simp only []
  obtain ⟨c9_1_0, c9_1_1, lt9_1, y9_1, -⟩ := hO.k2 1 rfl
  have HO := Lib.hid hO
  clear hO
  have fx0_0 : u4.cell? ⟨b, 0, none⟩ = some (dV D l) := HO.out.fcell hb 0 rfl
  have fx0_1 : u4.cell? ⟨b, 1, none⟩ = some (.int .i32 (lV l)) := HO.out.fcell hb 1 rfl
  have fx0_2 : u4.cell? ⟨b, 2, none⟩ = some (dV D r) := HO.out.fcell hb 2 rfl
  have fx0_3 : u4.cell? ⟨b, 3, none⟩ = some (.int .i32 (lV r)) := HO.out.fcell hb 3 rfl
  have fx0_4 : u4.cell? ⟨b, 4, none⟩ = some (.int .u8 36) := HO.out.fcell hb 4 rfl
  have fx0_5 : u4.cell? ⟨b, 5, none⟩ = some (.bool false) := HO.out.fcell hb 5 rfl
  go_wp2_with (first | (with_reducible refine Own.stay (fn := Try.f12) ?_) | (at_builtin; refine Own.appStop ?_) | fail)
  try with_reducible refine Own.Stay.mk ?_
  have hO := HO.out
  clear HO fx0_0 fx0_1 fx0_2 fx0_3 fx0_4 fx0_5 c9_1_0 c9_1_1 lt9_1 y9_1
  have hL := hO.apart
  have hX := hO.apartX
  have HL := Lib.hid hL
  have HX := Lib.hid hX
  clear hL hX
  have hP9 := hO.pick [0] (by decide)
  have h9_hm : (ls ++ l.flat).length = (m + l.flat.length) := (by rw [List.length_append, hm])
  have h9_hbd : (m + l.flat.length) + r.flat.length ≤ 100000 := (by omega)
  have T9 := ihr nd5 nd6 (ls ++ l.flat) (m + l.flat.length) _ _ _ hP9 h9_hm h9_hbd (hNr.mono fun _ _ h => Or.inl h)
  refine Calls.mono T9 ?_
  clear hP9 T9 h9_hm h9_hbd
  rintro e u7 ⟨nd8, nd9, rfl, hQ⟩
  have hN : Own w0 u7 [row (nd8) 21 (full i32Z (rgV ((ls ++ l.flat) ++ r.flat)) nd9), row (B1) 35 #[.iface 63 (.pointer (some ⟨b, 0, none⟩)), .int .i32 x]] X := hQ.back HL.out HX.out [1] (by decide) (by decide)
  clear hQ HL HX hO
  have hO := hN
  clear hN
  try simp only []
  obtain ⟨c9_1_0, c9_1_1, lt9_1, y9_1, -⟩ := hO.k2 1 rfl
  have HO := Lib.hid hO
  clear hO
  have fx0_0 : u7.cell? ⟨b, 0, none⟩ = some (dV D l) := HO.out.fcell hb 0 rfl
  have fx0_1 : u7.cell? ⟨b, 1, none⟩ = some (.int .i32 (lV l)) := HO.out.fcell hb 1 rfl
  have fx0_2 : u7.cell? ⟨b, 2, none⟩ = some (dV D r) := HO.out.fcell hb 2 rfl
  have fx0_3 : u7.cell? ⟨b, 3, none⟩ = some (.int .i32 (lV r)) := HO.out.fcell hb 3 rfl
  have fx0_4 : u7.cell? ⟨b, 4, none⟩ = some (.int .u8 36) := HO.out.fcell hb 4 rfl
  have fx0_5 : u7.cell? ⟨b, 5, none⟩ = some (.bool false) := HO.out.fcell hb 5 rfl
  go_wp2_with (first | (with_reducible refine Own.stay (fn := Try.f12) ?_) | (at_builtin; refine Own.appStop ?_) | fail)
  try with_reducible refine Own.Stay.mk ?_
  have hO := HO.out
  clear HO fx0_0 fx0_1 fx0_2 fx0_3 fx0_4 fx0_5 c9_1_0 c9_1_1 lt9_1 y9_1
  refine bodyPost_ret (v := .slice (some ⟨nd8, 0, none⟩) (m + l.flat.length + r.flat.length) (m + l.flat.length + r.flat.length + nd9)) ?_ rfl ⟨nd8, nd9, rfl, hO.sub [0] (by decide)⟩
  simp [results, Try.results12, go_sem]
theorem flat01 (D : Dat) (w0 : World) : ∀ t : Tr, (∀ (w0 w : World) (X : Nat → Obj → Prop), Own w0 w [] X → NodesIn X D t → t.flat.length ≤ 100000 → Calls Try.prog 12 #[.agg #[dV D t, .int .i32 (lV t)], .slice none 0 0] w (flat0Post D t w0 X)) ∧ (∀ (ob oc : Nat) (ls : List Nat) (m : Nat) (w0 w : World) (X : Nat → Obj → Prop), Own w0 w [row (ob) 21 (full i32Z (rgV ls) oc)] X → ls.length = m → m + t.flat.length ≤ 100000 → NodesIn X D t → Calls Try.prog 12 #[.agg #[dV D t, .int .i32 (lV t)], .slice (some ⟨ob, 0, none⟩) m (m + oc)] w (flat1Post D t ob oc ls m w0 X))
  | .leaf i => by
    refine ⟨fun w0 w X hO hN hbd => ?_, fun ob oc ls m w0 w X hO hm hbd hN => ?_⟩
    · by_cases h0 : D.kd i = 0
      · rw [dV_num h0]; exact flatL0N _ i w0 w X hO
      · rw [dV_call h0]; exact flatL0C _ i w0 w X hO
    · have h5 : m ≤ 100000 := by omega
      by_cases h0 : D.kd i = 0
      · rw [dV_num h0]; exact flatL1N _ i ob oc ls m w0 w X hO hm h5
      · rw [dV_call h0]; exact flatL1C _ i ob oc ls m w0 w X hO hm h5
  | .node b l r => by
    have hlen : (Tr.node b l r).flat.length = l.flat.length + r.flat.length := List.length_append
    obtain ⟨l0, l1⟩ := flat01 D w0 l
    obtain ⟨r0, r1⟩ := flat01 D w0 r
    refine ⟨fun w0 w X hO hN hbd => ?_, fun ob oc ls m w0 w X hO hm hbd hN => ?_⟩
    · rw [hlen] at hbd
      refine Calls.mono (flatB0 D b l r _ w0 w X hO (hN _ _ _ (.here b l r)) (fun b l r h => hN _ _ _ (.left h)) (fun b l r h => hN _ _ _ (.right h)) hbd (fun w0 w X hO hN => l0 w0 w X hO hN (by omega)) r1) ?_
      rintro e w' ⟨ob2, oc2, rfl, hQ⟩
      exact ⟨ob2, oc2, by rw [hlen], hQ⟩
    · rw [hlen] at hbd
      refine Calls.mono (flatB1 D b l r _ ob oc ls m w0 w X hO (hN _ _ _ (.here b l r)) (fun b l r h => hN _ _ _ (.left h)) (fun b l r h => hN _ _ _ (.right h)) hm (by omega) l1 r1) ?_
      rintro e w' ⟨ob2, oc2, rfl, hQ⟩
      exact ⟨ob2, oc2, by rw [hlen, Nat.add_assoc], hQ.conv (by rw [List.append_assoc]; rfl)⟩

end Go.Proofs.Ytdbnnpoffpipjaa.Use
