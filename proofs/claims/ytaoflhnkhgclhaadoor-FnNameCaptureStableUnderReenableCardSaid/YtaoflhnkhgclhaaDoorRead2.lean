/- The law's reader of a use count. No condition. -/
import Derived.Test.YtaoflhnkhgclhaaDoorApp
import Derived.Test.YtaoflhnkhgclhaaDoorOwnK
import Derived.Test.YtaoflhnkhgclhaaDoorOwn
import Derived.Test.YtaoflhnkhgclhaaDoorDeepCells
import Derived.Test.YtaoflhnkhgclhaaDoorRows
import Derived.Test.YtaoflhnkhgclhaaDoorUse
import Derived.Test.YtaoflhnkhgclhaaDoorLive
namespace Go.Proofs.YtaoflhnkhgclhaaDoor.Use
open Go.ChangeShapes Go.WideShapes Go.ChangeAt Go.RowKit Go.Sort Own
set_option linter.unusedVariables false
def useCntPost (pb : Nat) (PC : Array Value) (sb c : Nat) (st : List Sy) (n i : Nat) (nm : ByteArray) (u : Nat) (w0 : World) (X : Nat → Obj → Prop) (e : Ending) (w' : World) : Prop :=
  e = .returned (.int .u32 (u : Int)) ∧ Own w0 w' [row (pb) 176 PC, row (sb) 199 (full symZ (symL st) c)] X
set_option maxRecDepth 100000 in
set_option maxHeartbeats 1000000 in
theorem useCnt (pb : Nat) (PC : Array Value) (sb c : Nat) (st : List Sy) (n i : Nat) (nm : ByteArray) (u : Nat) (w0 w : World) (X : Nat → Obj → Prop) (hO : Own w0 w [row (pb) 176 PC, row (sb) 199 (full symZ (symL st) c)] X) (hk106 : PC[106]? = some (.slice (some ⟨sb, 0, none⟩) n (n + c))) (hn : st.length = n) (hnb : n ≤ 4000000) (hi : i < n) (hs : st[i]? = some (sy nm u)) :
    Calls Tryd.prog 14 #[.pointer (some ⟨pb, 0, none⟩), .int .u32 (i : Int)] w (useCntPost pb PC sb c st n i nm u w0 X) := by
  go_enter Tryd.func14, Tryd.ntmps14
  have c9_0_106 : w.cell? ⟨pb, 106, none⟩ = some (.slice (some ⟨sb, 0, none⟩) n (n + c)) := hO.cell 0 rfl (106) (hk106)
  have lt9_0 : pb < w.heap.size := hO.lt 0 rfl
  have y9_0 : ∀ o, w.frozen? ⟨pb, o, none⟩ = false := hO.free 0 rfl
  have c9_1_i_10_4 : w.cell? ⟨sb, i * 10 + 4, none⟩ = some (.int .u32 (u : Int)) := hO.cell 1 rfl (i * 10 + 4) ((full_at (symL_at st i _ 4 _ hs rfl)))
  have lt9_1 : sb < w.heap.size := hO.lt 1 rfl
  have y9_1 : ∀ o, w.frozen? ⟨sb, o, none⟩ = false := hO.free 1 rfl
  have HO := Lib.hid hO
  clear hO
  have hi9 : (i : Int) < (n : Int) := by omega
  have hi8 : (0 : Int) ≤ (i : Int) := by omega
  go_wp2_with (first | (with_reducible refine Own.stay (fn := Tryd.f14) ?_) | fail)
  try with_reducible refine Own.Stay.mk ?_
  have hO := HO.out
  clear HO c9_0_106 lt9_0 y9_0 c9_1_i_10_4 lt9_1 y9_1
  refine bodyPost_ret (v := .int .u32 (u : Int)) ?_ rfl ⟨rfl, hO.sub [0, 1] (by decide)⟩
  simp [results, Tryd.results14, go_sem]
end Go.Proofs.YtaoflhnkhgclhaaDoor.Use
