/- zzParser. No condition. -/
import Derived.Test.YtghofdhhhbbaaaaGreatDoorNewP
import Derived.Test.YtghofdhhhbbaaaaGreatDoorIts
import Derived.Test.YtghofdhhhbbaaaaGreatDoorIfm
import Derived.Test.YtghofdhhhbbaaaaGreatDoorSla
import Derived.Test.YtghofdhhhbbaaaaGreatDoorLoop
import Derived.Test.YtghofdhhhbbaaaaGreatDoorMini
import Derived.Test.YtghofdhhhbbaaaaGreatDoorAppL
import Derived.Test.YtghofdhhhbbaaaaGreatDoorApp
import Derived.Test.YtghofdhhhbbaaaaGreatDoorOwnK
import Derived.Test.YtghofdhhhbbaaaaGreatDoorOwn
import Derived.Test.YtghofdhhhbbaaaaGreatDoorDeepCells
import Derived.Test.YtghofdhhhbbaaaaGreatDoorRows
import Derived.Test.YtghofdhhhbbaaaaGreatDoorLive
namespace Go.Proofs.YtghofdhhhbbaaaaGreatDoor.Use
open Go.ChangeShapes Go.WideShapes Go.ChangeAt Go.RowKit Go.Sort Own
set_option linter.unusedVariables false
def zzp0Post  (w0 : World) (X : Nat → Obj → Prop) (e : Ending) (w' : World) : Prop :=
  ∃ pb : Nat, ∃ sb : Nat, ∃ ms : Nat, ∃ mp : Nat, e = .returned (.pointer (some ⟨pb, 0, none⟩)) ∧ Own w0 w' [row (pb) 182 (newPar sb ms mp), row (sb) 201 (full symZ (symL ([syk ⟨#[]⟩ 0])) 0), row (ms) 194 #[.pointer none, .pointer none, .slice none 0 0, .map none, .slice none 0 0, .slice none 0 0, .int .i32 0, .int .i32 0, .int .u32 0, .int .u32 0, .bool false, .bool false, .bool false, .bool false, .int .u8 0, .int .u8 6], ((mp, .map #[] 0) : Rw)] X
set_option maxRecDepth 100000 in
set_option maxHeartbeats 1000000 in
theorem zzp0  (w0 w : World) (X : Nat → Obj → Prop) (hO : Own w0 w [] X) (hg0 : w0.cell? ⟨0, 0, none⟩ = some (.int .u32 4294967295)) (hg1 : w0.cell? ⟨0, 1, none⟩ = some (.int .u32 4294967295)) :
    Calls Tryz.prog 5 #[.bool false] w (zzp0Post  w0 X) := by
  go_enter Tryz.func5, Tryz.ntmps5
  go_wp2_with (first | (with_reducible refine Own.stay (fn := Tryz.f5) ?_) | fail)
  try with_reducible refine Own.Stay.mk ?_
  have hL := hO.apart
  have hX := hO.apartX
  have HL := Lib.hid hL
  have HX := Lib.hid hX
  clear hL hX
  have hP9 := hO.pick [] (by decide)
  have T9 := newP0  _ _ _ hP9 hg0 hg1
  refine Calls.mono T9 ?_
  clear hP9 T9
  rintro e u1 ⟨nd2, nd3, nd4, nd5, rfl, hQ⟩
  have hN : Own w0 u1 [row (nd2) 182 (newPar nd3 nd4 nd5), row (nd3) 201 (full symZ (symL ([syk ⟨#[]⟩ 0])) 0), row (nd4) 194 #[.pointer none, .pointer none, .slice none 0 0, .map none, .slice none 0 0, .slice none 0 0, .int .i32 0, .int .i32 0, .int .u32 0, .int .u32 0, .bool false, .bool false, .bool false, .bool false, .int .u8 0, .int .u8 6], ((nd5, .map #[] 0) : Rw)] X := hQ.back HL.out HX.out [] (by decide) (by decide)
  clear hQ HL HX hO
  have hO := hN
  clear hN
  go_wp2_with (first | (with_reducible refine Own.stay (fn := Tryz.f5) ?_) | fail)
  try with_reducible refine Own.Stay.mk ?_
  refine bodyPost_ret (v := .pointer (some ⟨nd2, 0, none⟩)) ?_ rfl ⟨nd2, nd3, nd4, nd5, rfl, hO.sub [0, 1, 2, 3] (by decide)⟩
  simp [results, Tryz.results5, go_sem]
def zzp1Post  (w0 : World) (X : Nat → Obj → Prop) (e : Ending) (w' : World) : Prop :=
  ∃ pb : Nat, ∃ sb : Nat, ∃ ms : Nat, ∃ mp : Nat, e = .returned (.pointer (some ⟨pb, 0, none⟩)) ∧ Own w0 w' [row (pb) 182 ((newPar sb ms mp).setIfInBounds 23 (.int .u64 35184372088832)), row (sb) 201 (full symZ (symL ([syk ⟨#[]⟩ 0])) 0), row (ms) 194 #[.pointer none, .pointer none, .slice none 0 0, .map none, .slice none 0 0, .slice none 0 0, .int .i32 0, .int .i32 0, .int .u32 0, .int .u32 0, .bool false, .bool false, .bool false, .bool false, .int .u8 0, .int .u8 6], ((mp, .map #[] 0) : Rw)] X
set_option maxRecDepth 100000 in
set_option maxHeartbeats 1000000 in
theorem zzp1  (w0 w : World) (X : Nat → Obj → Prop) (hO : Own w0 w [] X) (hg0 : w0.cell? ⟨0, 0, none⟩ = some (.int .u32 4294967295)) (hg1 : w0.cell? ⟨0, 1, none⟩ = some (.int .u32 4294967295)) :
    Calls Tryz.prog 5 #[.bool true] w (zzp1Post  w0 X) := by
  go_enter Tryz.func5, Tryz.ntmps5
  go_wp2_with (first | (with_reducible refine Own.stay (fn := Tryz.f5) ?_) | fail)
  try with_reducible refine Own.Stay.mk ?_
  have hL := hO.apart
  have hX := hO.apartX
  have HL := Lib.hid hL
  have HX := Lib.hid hX
  clear hL hX
  have hP9 := hO.pick [] (by decide)
  have T9 := newP1  _ _ _ hP9 hg0 hg1
  refine Calls.mono T9 ?_
  clear hP9 T9
  rintro e u1 ⟨nd2, nd3, nd4, nd5, rfl, hQ⟩
  have hN : Own w0 u1 [row (nd2) 182 ((newPar nd3 nd4 nd5).setIfInBounds 23 (.int .u64 35184372088832)), row (nd3) 201 (full symZ (symL ([syk ⟨#[]⟩ 0])) 0), row (nd4) 194 #[.pointer none, .pointer none, .slice none 0 0, .map none, .slice none 0 0, .slice none 0 0, .int .i32 0, .int .i32 0, .int .u32 0, .int .u32 0, .bool false, .bool false, .bool false, .bool false, .int .u8 0, .int .u8 6], ((nd5, .map #[] 0) : Rw)] X := hQ.back HL.out HX.out [] (by decide) (by decide)
  clear hQ HL HX hO
  have hO := hN
  clear hN
  go_wp2_with (first | (with_reducible refine Own.stay (fn := Tryz.f5) ?_) | fail)
  try with_reducible refine Own.Stay.mk ?_
  refine bodyPost_ret (v := .pointer (some ⟨nd2, 0, none⟩)) ?_ rfl ⟨nd2, nd3, nd4, nd5, rfl, hO.sub [0, 1, 2, 3] (by decide)⟩
  simp [results, Tryz.results5, go_sem]
end Go.Proofs.YtghofdhhhbbaaaaGreatDoor.Use
