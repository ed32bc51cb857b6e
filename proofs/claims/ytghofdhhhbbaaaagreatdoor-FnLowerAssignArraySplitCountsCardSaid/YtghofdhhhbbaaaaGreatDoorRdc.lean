/- Readers of the laws. No condition. -/
import Derived.Test.YtghofdhhhbbaaaaGreatDoorWdh
import Derived.Test.YtghofdhhhbbaaaaGreatDoorIts
import Derived.Test.YtghofdhhhbbaaaaGreatDoorIfm
import Derived.Test.YtghofdhhhbbaaaaGreatDoorSla
import Derived.Test.YtghofdhhhbbaaaaGreatDoorLoop
import Derived.Test.YtghofdhhhbbaaaaGreatDoorMini
import Derived.Test.YtghofdhhhbbaaaaGreatDoorAppL
import Derived.Test.YtghofdhhhbbaaaaGreatDoorApp
import Derived.Test.YtghofdhhhbbaaaaGreatDoorOwnK
import Derived.Test.YtghofdhhhbbaaaaGreatDoorOwn
import Derived.Test.YtghofdhhhbbaaaaGreatDoorDeepCells
import Derived.Test.YtghofdhhhbbaaaaGreatDoorRows
import Derived.Test.YtghofdhhhbbaaaaGreatDoorLive
namespace Go.Proofs.YtghofdhhhbbaaaaGreatDoor.Use
open Go.ChangeShapes Go.WideShapes Go.ChangeAt Go.RowKit Go.Sort Own
set_option linter.unusedVariables false
theorem ucb0 (nm : ByteArray) (kd : Int) : UcB [syk nm kd] 1000 := by
  intro i s hs
  rw [List.getElem?_singleton] at hs
  split at hs
  · cases hs
    exact Nat.zero_le _
  · cases hs
theorem pcW_sy (PC : Array Value) (i n x sb c qb cq : Nat) {u v u2 : Value} (h : PC[106]? = some u) (h2 : PC[199]? = some v) (h3 : PC[287]? = some u2) : (pcW PC i n x sb c qb cq)[106]? = some (.slice (some ⟨sb, 0, none⟩) (n + 2 + x) (n + 2 + x + c)) ∧ (pcW PC i n x sb c qb cq)[199]? = some (.slice (some ⟨qb, 0, none⟩) (1 + x) (1 + x + cq)) := by
  unfold pcW
  exact ⟨get_other (get_set (get_other h (by decide) _) _) (by decide) _, get_set (get_other (get_other h2 (by decide) _) (by decide) _) _⟩
theorem xt_cases (t : Nat) : (xt t = 0 ∧ ¬ (0 : Int) < (t : Int)) ∨ (xt t = 1 ∧ (0 : Int) < (t : Int)) := by
  cases t with
  | zero => exact Or.inl ⟨rfl, by omega⟩
  | succ t => exact Or.inr ⟨rfl, by omega⟩

def symCtPost (pb : Nat) (PC : Array Value) (sb c n : Nat) (v : Int) (w0 : World) (X : Nat → Obj → Prop) (e : Ending) (w' : World) : Prop :=
  e = .returned (.int .i64 v) ∧ Own w0 w' [row (pb) 182 PC] X
set_option maxRecDepth 100000 in
set_option maxHeartbeats 1000000 in
theorem symCt (pb : Nat) (PC : Array Value) (sb c n : Nat) (v : Int) (w0 w : World) (X : Nat → Obj → Prop) (hO : Own w0 w [row (pb) 182 PC] X) (hk106 : PC[106]? = some (.slice (some ⟨sb, 0, none⟩) n (n + c))) (hv : (n : Int) = v) :
    Calls Tryz.prog 9 #[.pointer (some ⟨pb, 0, none⟩)] w (symCtPost pb PC sb c n v w0 X) := by
  go_enter Tryz.func9, Tryz.ntmps9
  subst hv
  obtain ⟨ix9, hix9, hax9, hjx9⟩ := hO.ix
  have ix9_0 : ix9 pb = 0 := hjx9 0 _ _ rfl
  clear hjx9
  have c9_0_106 : w.cell? ⟨pb, 106, none⟩ = some (.slice (some ⟨sb, 0, none⟩) n (n + c)) := hO.cell 0 rfl (106) (hk106)
  have lt9_0 : pb < w.heap.size := hO.lt 0 rfl
  have y9_0 : ∀ o, w.frozen? ⟨pb, o, none⟩ = false := hO.free 0 rfl
  have HO := Lib.hid hO
  clear hO
  go_wp2_with (first | (with_reducible refine Own.stay (fn := Tryz.f9) ?_) | fail)
  try with_reducible refine Own.Stay.mk ?_
  have hO := HO.out
  clear HO hix9 hax9 ix9_0 ix9 c9_0_106 lt9_0 y9_0
  refine bodyPost_ret (v := .int .i64 (n : Int)) ?_ rfl ⟨rfl, hO.sub [0] (by decide)⟩
  simp [results, Tryz.results9, go_sem]
def symCt1Post (pb : Nat) (PC : Array Value) (sb : Nat) (w0 : World) (X : Nat → Obj → Prop) (e : Ending) (w' : World) : Prop :=
  e = .returned (.int .i64 1) ∧ Own w0 w' [row (pb) 182 PC] X
set_option maxRecDepth 100000 in
set_option maxHeartbeats 1000000 in
theorem symCt1 (pb : Nat) (PC : Array Value) (sb : Nat) (w0 w : World) (X : Nat → Obj → Prop) (hO : Own w0 w [row (pb) 182 PC] X) (hk106 : PC[106]? = some (.slice (some ⟨sb, 0, none⟩) 1 1)) :
    Calls Tryz.prog 9 #[.pointer (some ⟨pb, 0, none⟩)] w (symCt1Post pb PC sb w0 X) := by
  go_enter Tryz.func9, Tryz.ntmps9
  obtain ⟨ix9, hix9, hax9, hjx9⟩ := hO.ix
  have ix9_0 : ix9 pb = 0 := hjx9 0 _ _ rfl
  clear hjx9
  have c9_0_106 : w.cell? ⟨pb, 106, none⟩ = some (.slice (some ⟨sb, 0, none⟩) 1 1) := hO.cell 0 rfl (106) (hk106)
  have lt9_0 : pb < w.heap.size := hO.lt 0 rfl
  have y9_0 : ∀ o, w.frozen? ⟨pb, o, none⟩ = false := hO.free 0 rfl
  have HO := Lib.hid hO
  clear hO
  go_wp2_with (first | (with_reducible refine Own.stay (fn := Tryz.f9) ?_) | fail)
  try with_reducible refine Own.Stay.mk ?_
  have hO := HO.out
  clear HO hix9 hax9 ix9_0 ix9 c9_0_106 lt9_0 y9_0
  refine bodyPost_ret (v := .int .i64 1) ?_ rfl ⟨rfl, hO.sub [0] (by decide)⟩
  simp [results, Tryz.results9, go_sem]
def tmpCtPost (pb : Nat) (PC : Array Value) (qb cq n : Nat) (v : Int) (w0 : World) (X : Nat → Obj → Prop) (e : Ending) (w' : World) : Prop :=
  e = .returned (.int .i64 v) ∧ Own w0 w' [row (pb) 182 PC] X
set_option maxRecDepth 100000 in
set_option maxHeartbeats 1000000 in
theorem tmpCt (pb : Nat) (PC : Array Value) (qb cq n : Nat) (v : Int) (w0 w : World) (X : Nat → Obj → Prop) (hO : Own w0 w [row (pb) 182 PC] X) (hk199 : PC[199]? = some (.slice (some ⟨qb, 0, none⟩) n (n + cq))) (hv : (n : Int) = v) :
    Calls Tryz.prog 10 #[.pointer (some ⟨pb, 0, none⟩)] w (tmpCtPost pb PC qb cq n v w0 X) := by
  go_enter Tryz.func10, Tryz.ntmps10
  subst hv
  obtain ⟨ix9, hix9, hax9, hjx9⟩ := hO.ix
  have ix9_0 : ix9 pb = 0 := hjx9 0 _ _ rfl
  clear hjx9
  have c9_0_199 : w.cell? ⟨pb, 199, none⟩ = some (.slice (some ⟨qb, 0, none⟩) n (n + cq)) := hO.cell 0 rfl (199) (hk199)
  have lt9_0 : pb < w.heap.size := hO.lt 0 rfl
  have y9_0 : ∀ o, w.frozen? ⟨pb, o, none⟩ = false := hO.free 0 rfl
  have HO := Lib.hid hO
  clear hO
  go_wp2_with (first | (with_reducible refine Own.stay (fn := Tryz.f10) ?_) | fail)
  try with_reducible refine Own.Stay.mk ?_
  have hO := HO.out
  clear HO hix9 hax9 ix9_0 ix9 c9_0_199 lt9_0 y9_0
  refine bodyPost_ret (v := .int .i64 (n : Int)) ?_ rfl ⟨rfl, hO.sub [0] (by decide)⟩
  simp [results, Tryz.results10, go_sem]
def tmpCt0Post (pb : Nat) (PC : Array Value) (w0 : World) (X : Nat → Obj → Prop) (e : Ending) (w' : World) : Prop :=
  e = .returned (.int .i64 0) ∧ Own w0 w' [row (pb) 182 PC] X
set_option maxRecDepth 100000 in
set_option maxHeartbeats 1000000 in
theorem tmpCt0 (pb : Nat) (PC : Array Value) (w0 w : World) (X : Nat → Obj → Prop) (hO : Own w0 w [row (pb) 182 PC] X) (hk199 : PC[199]? = some (.slice none 0 0)) :
    Calls Tryz.prog 10 #[.pointer (some ⟨pb, 0, none⟩)] w (tmpCt0Post pb PC w0 X) := by
  go_enter Tryz.func10, Tryz.ntmps10
  obtain ⟨ix9, hix9, hax9, hjx9⟩ := hO.ix
  have ix9_0 : ix9 pb = 0 := hjx9 0 _ _ rfl
  clear hjx9
  have c9_0_199 : w.cell? ⟨pb, 199, none⟩ = some (.slice none 0 0) := hO.cell 0 rfl (199) (hk199)
  have lt9_0 : pb < w.heap.size := hO.lt 0 rfl
  have y9_0 : ∀ o, w.frozen? ⟨pb, o, none⟩ = false := hO.free 0 rfl
  have HO := Lib.hid hO
  clear hO
  go_wp2_with (first | (with_reducible refine Own.stay (fn := Tryz.f10) ?_) | fail)
  try with_reducible refine Own.Stay.mk ?_
  have hO := HO.out
  clear HO hix9 hax9 ix9_0 ix9 c9_0_199 lt9_0 y9_0
  refine bodyPost_ret (v := .int .i64 0) ?_ rfl ⟨rfl, hO.sub [0] (by decide)⟩
  simp [results, Tryz.results10, go_sem]
end Go.Proofs.YtghofdhhhbbaaaaGreatDoor.Use
