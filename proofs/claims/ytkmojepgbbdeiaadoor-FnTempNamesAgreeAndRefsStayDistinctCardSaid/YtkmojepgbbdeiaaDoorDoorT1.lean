/- The door of generateTopLevelTempRef, walked. No condition. -/
import Derived.Test.YtkmojepgbbdeiaaDoorGenT1
import Derived.Test.YtkmojepgbbdeiaaDoorMno
import Derived.Test.YtkmojepgbbdeiaaDoorMini
import Derived.Test.YtkmojepgbbdeiaaDoorAppL
import Derived.Test.YtkmojepgbbdeiaaDoorApp
import Derived.Test.YtkmojepgbbdeiaaDoorOwnK
import Derived.Test.YtkmojepgbbdeiaaDoorOwn
import Derived.Test.YtkmojepgbbdeiaaDoorDeepCells
import Derived.Test.YtkmojepgbbdeiaaDoorRows
import Derived.Test.YtkmojepgbbdeiaaDoorLive
namespace Go.Proofs.YtkmojepgbbdeiaaDoor.Use
open Go.ChangeShapes Go.WideShapes Go.ChangeAt Go.RowKit Go.Sort Own
set_option linter.unusedVariables false
def dTTopT1Post (pb : Nat) (PC : Array Value) (sb c : Nat) (st : List Sy) (n tb : Nat) (TU : List Value) (cu : Nat) (src : Int) (i ms : Nat) (MC : Array Value) (qb : Nat) (TQ : List Value) (cq gb : Nat) (TG : List Value) (cg m : Nat) (w0 : World) (X : Nat → Obj → Prop) (e : Ending) (w' : World) : Prop :=
  ∃ sb2 : Nat, ∃ c2 : Nat, ∃ tb2 : Nat, ∃ cu2 : Nat, ∃ qb2 : Nat, ∃ cq2 : Nat, ∃ gb2 : Nat, ∃ cg2 : Nat, e = .returned (.agg #[.int .u32 src, .int .u32 (n : Int)]) ∧ Own w0 w' [row (pb) 176 ((((PC.setIfInBounds 106 (.slice (some ⟨sb2, 0, none⟩) (n + 1) (n + 1 + c2))).setIfInBounds 108 (.slice (some ⟨tb2, 0, none⟩) (n + 1) (n + 1 + cu2))).setIfInBounds 200 (.slice (some ⟨qb2, 0, none⟩) (m + 1) (m + 1 + cq2))).setIfInBounds 288 (.int .i64 ((i : Int) + 1))), row (sb2) 183 (full symZ (symL (st ++ [syk (tn i) 27])) c2), row (tb2) 22 (full u32Z (TU ++ [.int .u32 0]) cu2), row (ms) 38 (MC.setIfInBounds 5 (.slice (some ⟨gb2, 0, none⟩) (m + 1) (m + 1 + cg2))), row (qb2) 185 (full trfZ (TQ ++ [.nilIface, .int .i32 0, .int .u32 src, .int .u32 (n : Int)]) cq2), row (gb2) 33 (full refZ (TG ++ [.int .u32 src, .int .u32 (n : Int)]) cg2)] X
set_option maxRecDepth 100000 in
set_option maxHeartbeats 1000000 in
theorem dTTopT1 (pb : Nat) (PC : Array Value) (sb c : Nat) (st : List Sy) (n tb : Nat) (TU : List Value) (cu : Nat) (src : Int) (i ms : Nat) (MC : Array Value) (qb : Nat) (TQ : List Value) (cq gb : Nat) (TG : List Value) (cg m : Nat) (w0 w : World) (X : Nat → Obj → Prop) (hO : Own w0 w [row (pb) 176 PC, row (sb) 183 (full symZ (symL st) c), row (tb) 22 (full u32Z TU cu), row (ms) 38 MC, row (qb) 185 (full trfZ TQ cq), row (gb) 33 (full refZ TG cg)] X) (hk66 : PC[66]? = some (.int .u32 src)) (hk32 : PC[32]? = some (.bool true)) (hk108 : PC[108]? = some (.slice (some ⟨tb, 0, none⟩) n (n + cu))) (htl : TU.length = n) (hk106 : PC[106]? = some (.slice (some ⟨sb, 0, none⟩) n (n + c))) (hn : st.length = n) (hnb : n ≤ 2000000) (hk187 : PC[187]? = some (.pointer (some ⟨ms, 0, none⟩))) (hk288 : PC[288]? = some (.int .i64 (i : Int))) (hk200 : PC[200]? = some (.slice (some ⟨qb, 0, none⟩) m (m + cq))) (hgen : MC[5]? = some (.slice (some ⟨gb, 0, none⟩) m (m + cg))) (hql : TQ.length = m * 4) (hgl : TG.length = m * 2) (hmb : m ≤ 100000) (hi : i ≤ 100000) (hg0 : w0.cell? ⟨0, 0, none⟩ = some (.int .u32 4294967295)) (hg1 : w0.cell? ⟨0, 1, none⟩ = some (.int .u32 4294967295)) :
    Calls Tryd.prog 7 #[.pointer (some ⟨pb, 0, none⟩)] w (dTTopT1Post pb PC sb c st n tb TU cu src i ms MC qb TQ cq gb TG cg m w0 X) := by
  go_enter Tryd.func7, Tryd.ntmps7
  go_wp2_with (first | (with_reducible refine Own.stay (fn := Tryd.f7) ?_) | fail)
  try with_reducible refine Own.Stay.mk ?_
  generalize hW : World.alloc _ _ = W2
  have hN : Own w0 W2 [row (w.heap.size) 33 #[.int .u32 0, .int .u32 0], row (pb) 176 PC, row (sb) 183 (full symZ (symL st) c), row (tb) 22 (full u32Z TU cu), row (ms) 38 MC, row (qb) 185 (full trfZ TQ cq), row (gb) 33 (full refZ TG cg)] X := by
    rw [← hW]
    exact (hO).alloc' _ (w.heap.size) (by simp)
  clear hW hO
  generalize w.heap.size = B1 at hN ⊢
  have hO := hN
  clear hN
  have hL := hO.apart
  have hX := hO.apartX
  have HL := Lib.hid hL
  have HX := Lib.hid hX
  clear hL hX
  have hP9 := hO.pick [1, 2, 3, 4, 5, 6] (by decide)
  have T9 := genTopT1 pb PC sb c st n tb TU cu src i ms MC qb TQ cq gb TG cg m _ _ _ hP9 hk66 hk32 hk108 htl hk106 hn hnb hk187 hk288 hk200 hgen hql hgl hmb hi hg0 hg1
  refine Calls.mono T9 ?_
  clear hP9 T9
  rintro e u3 ⟨nd4, nd5, nd6, nd7, nd8, nd9, nd10, nd11, rfl, hQ⟩
  have hN : Own w0 u3 [row (pb) 176 ((((PC.setIfInBounds 106 (.slice (some ⟨nd4, 0, none⟩) (n + 1) (n + 1 + nd5))).setIfInBounds 108 (.slice (some ⟨nd6, 0, none⟩) (n + 1) (n + 1 + nd7))).setIfInBounds 200 (.slice (some ⟨nd8, 0, none⟩) (m + 1) (m + 1 + nd9))).setIfInBounds 288 (.int .i64 ((i : Int) + 1))), row (nd4) 183 (full symZ (symL (st ++ [syk (tn i) 27])) nd5), row (nd6) 22 (full u32Z (TU ++ [.int .u32 0]) nd7), row (ms) 38 (MC.setIfInBounds 5 (.slice (some ⟨nd10, 0, none⟩) (m + 1) (m + 1 + nd11))), row (nd8) 185 (full trfZ (TQ ++ [.nilIface, .int .i32 0, .int .u32 src, .int .u32 (n : Int)]) nd9), row (nd10) 33 (full refZ (TG ++ [.int .u32 src, .int .u32 (n : Int)]) nd11), row (B1) 33 #[.int .u32 0, .int .u32 0]] X := hQ.back HL.out HX.out [0] (by decide) (by decide)
  clear hQ HL HX hO
  have hO := hN
  clear hN
  obtain ⟨c9_6_0, c9_6_1, lt9_6, y9_6, -⟩ := hO.k2 6 rfl
  have HO := Lib.hid hO
  clear hO
  go_wp2_with (first | (with_reducible refine Own.stay (fn := Tryd.f7) ?_) | fail)
  try with_reducible refine Own.Stay.mk ?_
  have hO := HO.out
  clear HO c9_6_0 c9_6_1 lt9_6 y9_6
  generalize hW : World.setCell _ _ _ = W13
  have hN : Own w0 W13 [row (pb) 176 ((((PC.setIfInBounds 106 (.slice (some ⟨nd4, 0, none⟩) (n + 1) (n + 1 + nd5))).setIfInBounds 108 (.slice (some ⟨nd6, 0, none⟩) (n + 1) (n + 1 + nd7))).setIfInBounds 200 (.slice (some ⟨nd8, 0, none⟩) (m + 1) (m + 1 + nd9))).setIfInBounds 288 (.int .i64 ((i : Int) + 1))), row (nd4) 183 (full symZ (symL (st ++ [syk (tn i) 27])) nd5), row (nd6) 22 (full u32Z (TU ++ [.int .u32 0]) nd7), row (ms) 38 (MC.setIfInBounds 5 (.slice (some ⟨nd10, 0, none⟩) (m + 1) (m + 1 + nd11))), row (nd8) 185 (full trfZ (TQ ++ [.nilIface, .int .i32 0, .int .u32 src, .int .u32 (n : Int)]) nd9), row (nd10) 33 (full refZ (TG ++ [.int .u32 src, .int .u32 (n : Int)]) nd11), row (B1) 33 #[.int .u32 src, .int .u32 (n : Int)]] X := by
    rw [← hW]
    exact ((hO).set 6 rfl 0 _).set 6 rfl 1 _
  clear hW hO
  have hO := hN
  clear hN
  have z9_6_0 : W13.cell? ⟨B1, 0, none⟩ = some (.int .u32 src) := hO.cell 6 rfl 0 rfl
  have z9_6_1 : W13.cell? ⟨B1, 1, none⟩ = some (.int .u32 (n : Int)) := hO.cell 6 rfl 1 rfl
  refine bodyPost_ret (v := .agg #[.int .u32 src, .int .u32 (n : Int)]) ?_ rfl ⟨nd4, nd5, nd6, nd7, nd8, nd9, nd10, nd11, rfl, hO.sub [0, 1, 2, 3, 4, 5] (by decide)⟩
  simp [results, Tryd.results7, go_sem, z9_6_0, z9_6_1]
end Go.Proofs.YtkmojepgbbdeiaaDoor.Use
