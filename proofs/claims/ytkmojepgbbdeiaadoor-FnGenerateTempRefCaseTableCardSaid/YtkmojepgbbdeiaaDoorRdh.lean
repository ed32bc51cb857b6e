/- Row 48's readers. No condition. -/
import Derived.Test.YtkmojepgbbdeiaaDoorRdk
import Derived.Test.YtkmojepgbbdeiaaDoorRead
import Derived.Test.YtkmojepgbbdeiaaDoorNewP
import Derived.Test.YtkmojepgbbdeiaaDoorTs
import Derived.Test.YtkmojepgbbdeiaaDoorMno
import Derived.Test.YtkmojepgbbdeiaaDoorMini
import Derived.Test.YtkmojepgbbdeiaaDoorAppL
import Derived.Test.YtkmojepgbbdeiaaDoorApp
import Derived.Test.YtkmojepgbbdeiaaDoorOwnK
import Derived.Test.YtkmojepgbbdeiaaDoorOwn
import Derived.Test.YtkmojepgbbdeiaaDoorDeepCells
import Derived.Test.YtkmojepgbbdeiaaDoorRows
import Derived.Test.YtkmojepgbbdeiaaDoorLive
namespace Go.Proofs.YtkmojepgbbdeiaaDoor.Use
open Go.ChangeShapes Go.WideShapes Go.ChangeAt Go.RowKit Go.Sort Own
set_option linter.unusedVariables false
def symNm8Post (pb : Nat) (PC : Array Value) (sb c n : Nat) (nm : ByteArray) (w0 : World) (X : Nat → Obj → Prop) (e : Ending) (w' : World) : Prop :=
  e = .returned (.string nm) ∧ Own w0 w' [row (pb) 176 PC, row (sb) 183 (full symZ (symL ((zSys n) ++ [syk nm 27])) c)] X
theorem symNm8 (pb : Nat) (PC : Array Value) (sb c n : Nat) (nm : ByteArray) (w0 w : World) (X : Nat → Obj → Prop) (hO : Own w0 w [row (pb) 176 PC, row (sb) 183 (full symZ (symL ((zSys n) ++ [syk nm 27])) c)] X) (hk106 : PC[106]? = some (.slice (some ⟨sb, 0, none⟩) (n + 1) (n + 1 + c))) (hn5 : n ≤ 100000) :
    Calls Tryd.prog 8 #[.pointer (some ⟨pb, 0, none⟩), .int .i64 (n : Int)] w (symNm8Post pb PC sb c n nm w0 X) :=
  symNm pb PC sb c (zSys n ++ [syk nm 27]) (n + 1) n nm 27 w0 w X hO hk106 (by rw [List.length_append, zSys_length]; rfl) (by omega) (by omega) (by rw [List.getElem?_append_right (by rw [zSys_length]; omega), zSys_length, Nat.sub_self]; rfl)

def symKd8Post (pb : Nat) (PC : Array Value) (sb c n : Nat) (nm : ByteArray) (w0 : World) (X : Nat → Obj → Prop) (e : Ending) (w' : World) : Prop :=
  e = .returned (.int .u8 27) ∧ Own w0 w' [row (pb) 176 PC, row (sb) 183 (full symZ (symL ((zSys n) ++ [syk nm 27])) c)] X
theorem symKd8 (pb : Nat) (PC : Array Value) (sb c n : Nat) (nm : ByteArray) (w0 w : World) (X : Nat → Obj → Prop) (hO : Own w0 w [row (pb) 176 PC, row (sb) 183 (full symZ (symL ((zSys n) ++ [syk nm 27])) c)] X) (hk106 : PC[106]? = some (.slice (some ⟨sb, 0, none⟩) (n + 1) (n + 1 + c))) (hn5 : n ≤ 100000) :
    Calls Tryd.prog 9 #[.pointer (some ⟨pb, 0, none⟩), .int .i64 (n : Int)] w (symKd8Post pb PC sb c n nm w0 X) :=
  symKd pb PC sb c (zSys n ++ [syk nm 27]) (n + 1) n nm 27 w0 w X hO hk106 (by rw [List.length_append, zSys_length]; rfl) (by omega) (by omega) (by rw [List.getElem?_append_right (by rw [zSys_length]; omega), zSys_length, Nat.sub_self]; rfl)

def symCnt8Post (pb : Nat) (PC : Array Value) (sb c n : Nat) (w0 : World) (X : Nat → Obj → Prop) (e : Ending) (w' : World) : Prop :=
  e = .returned (.int .i64 ((n : Int) + 1)) ∧ Own w0 w' [row (pb) 176 PC] X
theorem symCnt8 (pb : Nat) (PC : Array Value) (sb c n : Nat) (w0 w : World) (X : Nat → Obj → Prop) (hO : Own w0 w [row (pb) 176 PC] X) (hk106 : PC[106]? = some (.slice (some ⟨sb, 0, none⟩) (n + 1) (n + 1 + c))) :
    Calls Tryd.prog 10 #[.pointer (some ⟨pb, 0, none⟩)] w (symCnt8Post pb PC sb c n w0 X) :=
  symCnt pb PC sb c (n + 1) w0 w X hO hk106

def tsLen8Post (pb : Nat) (PC : Array Value) (tb cu n : Nat) (w0 : World) (X : Nat → Obj → Prop) (e : Ending) (w' : World) : Prop :=
  e = .returned (.int .i64 ((n : Int) + 1)) ∧ Own w0 w' [row (pb) 176 PC] X
theorem tsLen8 (pb : Nat) (PC : Array Value) (tb cu n : Nat) (w0 w : World) (X : Nat → Obj → Prop) (hO : Own w0 w [row (pb) 176 PC] X) (hk108 : PC[108]? = some (.slice (some ⟨tb, 0, none⟩) (n + 1) (n + 1 + cu))) :
    Calls Tryd.prog 11 #[.pointer (some ⟨pb, 0, none⟩)] w (tsLen8Post pb PC tb cu n w0 X) :=
  tsLen pb PC tb cu (n + 1) w0 w X hO hk108

def tmpLets8Post (pb : Nat) (PC : Array Value) (lb cl : Nat) (w0 : World) (X : Nat → Obj → Prop) (e : Ending) (w' : World) : Prop :=
  e = .returned (.slice (some ⟨lb, 0, none⟩) 1 (1 + cl)) ∧ Own w0 w' [row (pb) 176 PC] X
set_option maxRecDepth 100000 in
set_option maxHeartbeats 1000000 in
theorem tmpLets8 (pb : Nat) (PC : Array Value) (lb cl : Nat) (w0 w : World) (X : Nat → Obj → Prop) (hO : Own w0 w [row (pb) 176 PC] X) (hk198 : PC[198]? = some (.slice (some ⟨lb, 0, none⟩) 1 (1 + cl))) :
    Calls Tryd.prog 16 #[.pointer (some ⟨pb, 0, none⟩)] w (tmpLets8Post pb PC lb cl w0 X) := by
  go_enter Tryd.func16, Tryd.ntmps16
  obtain ⟨ix9, hix9, hax9, hjx9⟩ := hO.ix
  have ix9_0 : ix9 pb = 0 := hjx9 0 _ _ rfl
  clear hjx9
  have c9_0_198 : w.cell? ⟨pb, 198, none⟩ = some (.slice (some ⟨lb, 0, none⟩) 1 (1 + cl)) := hO.cell 0 rfl (198) (hk198)
  have lt9_0 : pb < w.heap.size := hO.lt 0 rfl
  have y9_0 : ∀ o, w.frozen? ⟨pb, o, none⟩ = false := hO.free 0 rfl
  have HO := Lib.hid hO
  clear hO
  go_wp2_with (first | (with_reducible refine Own.stay (fn := Tryd.f16) ?_) | fail)
  try with_reducible refine Own.Stay.mk ?_
  have hO := HO.out
  clear HO hix9 hax9 ix9_0 ix9 c9_0_198 lt9_0 y9_0
  refine bodyPost_ret (v := .slice (some ⟨lb, 0, none⟩) 1 (1 + cl)) ?_ rfl ⟨rfl, hO.sub [0] (by decide)⟩
  simp [results, Tryd.results16, go_sem]
def tmpRefs8Post (pb : Nat) (PC : Array Value) (src : Int) (n qb cq : Nat) (w0 : World) (X : Nat → Obj → Prop) (e : Ending) (w' : World) : Prop :=
  ∃ rb : Nat, ∃ cr : Nat, e = .returned (.slice (some ⟨rb, 0, none⟩) 1 (1 + cr)) ∧ Own w0 w' [row (pb) 176 PC, row (qb) 185 (full trfZ ([.nilIface, .int .i32 0, .int .u32 src, .int .u32 (n : Int)]) cq), row (rb) 33 (full refZ ([.int .u32 src, .int .u32 (n : Int)]) cr)] X
theorem tmpRefs8 (pb : Nat) (PC : Array Value) (src : Int) (n qb cq : Nat) (w0 w : World) (X : Nat → Obj → Prop) (hO : Own w0 w [row (pb) 176 PC, row (qb) 185 (full trfZ ([.nilIface, .int .i32 0, .int .u32 src, .int .u32 (n : Int)]) cq)] X) (hk199 : PC[199]? = some (.slice (some ⟨qb, 0, none⟩) 1 (1 + cq))) :
    Calls Tryd.prog 15 #[.pointer (some ⟨pb, 0, none⟩)] w (tmpRefs8Post pb PC src n qb cq w0 X) :=
  (rdlR pb PC 1 qb cq _ _ w0 w X hO hk199 (by omega) rfl (fun i hi => match i, hi with | 0, _ => ⟨src, (n : Int), rfl, rfl, rfl, rfl, rfl, rfl⟩ | k + 1, h => absurd h (by omega)))

end Go.Proofs.YtkmojepgbbdeiaaDoor.Use
