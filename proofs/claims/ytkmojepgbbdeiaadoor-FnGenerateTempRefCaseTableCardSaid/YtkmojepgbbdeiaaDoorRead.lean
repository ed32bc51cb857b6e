/- The laws' readers. No condition. -/
import Derived.Test.YtkmojepgbbdeiaaDoorAppL
import Derived.Test.YtkmojepgbbdeiaaDoorApp
import Derived.Test.YtkmojepgbbdeiaaDoorOwnK
import Derived.Test.YtkmojepgbbdeiaaDoorOwn
import Derived.Test.YtkmojepgbbdeiaaDoorDeepCells
import Derived.Test.YtkmojepgbbdeiaaDoorRows
import Derived.Test.YtkmojepgbbdeiaaDoorLive
namespace Go.Proofs.YtkmojepgbbdeiaaDoor.Use
open Go.ChangeShapes Go.WideShapes Go.ChangeAt Go.RowKit Go.Sort Own
set_option linter.unusedVariables false
def symNmPost (pb : Nat) (PC : Array Value) (sb c : Nat) (st : List Sy) (n i : Nat) (nm : ByteArray) (kd : Int) (w0 : World) (X : Nat → Obj → Prop) (e : Ending) (w' : World) : Prop :=
  e = .returned (.string nm) ∧ Own w0 w' [row (pb) 176 PC, row (sb) 183 (full symZ (symL st) c)] X
set_option maxRecDepth 100000 in
set_option maxHeartbeats 1000000 in
theorem symNm (pb : Nat) (PC : Array Value) (sb c : Nat) (st : List Sy) (n i : Nat) (nm : ByteArray) (kd : Int) (w0 w : World) (X : Nat → Obj → Prop) (hO : Own w0 w [row (pb) 176 PC, row (sb) 183 (full symZ (symL st) c)] X) (hk106 : PC[106]? = some (.slice (some ⟨sb, 0, none⟩) n (n + c))) (hn : st.length = n) (hnb : n ≤ 4000000) (hi : i < n) (hs : st[i]? = some (syk nm kd)) :
    Calls Tryd.prog 8 #[.pointer (some ⟨pb, 0, none⟩), .int .i64 (i : Int)] w (symNmPost pb PC sb c st n i nm kd w0 X) := by
  go_enter Tryd.func8, Tryd.ntmps8
  have c9_0_106 : w.cell? ⟨pb, 106, none⟩ = some (.slice (some ⟨sb, 0, none⟩) n (n + c)) := hO.cell 0 rfl (106) (hk106)
  have lt9_0 : pb < w.heap.size := hO.lt 0 rfl
  have y9_0 : ∀ o, w.frozen? ⟨pb, o, none⟩ = false := hO.free 0 rfl
  have c9_1_i_10_1 : w.cell? ⟨sb, i * 10 + 1, none⟩ = some (.string nm) := hO.cell 1 rfl (i * 10 + 1) ((full_at (symL_at st i _ 1 _ hs rfl)))
  have lt9_1 : sb < w.heap.size := hO.lt 1 rfl
  have y9_1 : ∀ o, w.frozen? ⟨sb, o, none⟩ = false := hO.free 1 rfl
  have HO := Lib.hid hO
  clear hO
  have hi9 : (i : Int) < (n : Int) := by omega
  have hi8 : (0 : Int) ≤ (i : Int) := by omega
  go_wp2_with (first | (with_reducible refine Own.stay (fn := Tryd.f8) ?_) | fail)
  try with_reducible refine Own.Stay.mk ?_
  have hO := HO.out
  clear HO c9_0_106 lt9_0 y9_0 c9_1_i_10_1 lt9_1 y9_1
  refine bodyPost_ret (v := .string nm) ?_ rfl ⟨rfl, hO.sub [0, 1] (by decide)⟩
  simp [results, Tryd.results8, go_sem]
def symKdPost (pb : Nat) (PC : Array Value) (sb c : Nat) (st : List Sy) (n i : Nat) (nm : ByteArray) (kd : Int) (w0 : World) (X : Nat → Obj → Prop) (e : Ending) (w' : World) : Prop :=
  e = .returned (.int .u8 kd) ∧ Own w0 w' [row (pb) 176 PC, row (sb) 183 (full symZ (symL st) c)] X
set_option maxRecDepth 100000 in
set_option maxHeartbeats 1000000 in
theorem symKd (pb : Nat) (PC : Array Value) (sb c : Nat) (st : List Sy) (n i : Nat) (nm : ByteArray) (kd : Int) (w0 w : World) (X : Nat → Obj → Prop) (hO : Own w0 w [row (pb) 176 PC, row (sb) 183 (full symZ (symL st) c)] X) (hk106 : PC[106]? = some (.slice (some ⟨sb, 0, none⟩) n (n + c))) (hn : st.length = n) (hnb : n ≤ 4000000) (hi : i < n) (hs : st[i]? = some (syk nm kd)) :
    Calls Tryd.prog 9 #[.pointer (some ⟨pb, 0, none⟩), .int .i64 (i : Int)] w (symKdPost pb PC sb c st n i nm kd w0 X) := by
  go_enter Tryd.func9, Tryd.ntmps9
  have c9_0_106 : w.cell? ⟨pb, 106, none⟩ = some (.slice (some ⟨sb, 0, none⟩) n (n + c)) := hO.cell 0 rfl (106) (hk106)
  have lt9_0 : pb < w.heap.size := hO.lt 0 rfl
  have y9_0 : ∀ o, w.frozen? ⟨pb, o, none⟩ = false := hO.free 0 rfl
  have c9_1_i_10_8 : w.cell? ⟨sb, i * 10 + 8, none⟩ = some (.int .u8 kd) := hO.cell 1 rfl (i * 10 + 8) ((full_at (symL_at st i _ 8 _ hs rfl)))
  have lt9_1 : sb < w.heap.size := hO.lt 1 rfl
  have y9_1 : ∀ o, w.frozen? ⟨sb, o, none⟩ = false := hO.free 1 rfl
  have HO := Lib.hid hO
  clear hO
  have hi9 : (i : Int) < (n : Int) := by omega
  have hi8 : (0 : Int) ≤ (i : Int) := by omega
  go_wp2_with (first | (with_reducible refine Own.stay (fn := Tryd.f9) ?_) | fail)
  try with_reducible refine Own.Stay.mk ?_
  have hO := HO.out
  clear HO c9_0_106 lt9_0 y9_0 c9_1_i_10_8 lt9_1 y9_1
  refine bodyPost_ret (v := .int .u8 kd) ?_ rfl ⟨rfl, hO.sub [0, 1] (by decide)⟩
  simp [results, Tryd.results9, go_sem]
def symCntPost (pb : Nat) (PC : Array Value) (sb c n : Nat) (w0 : World) (X : Nat → Obj → Prop) (e : Ending) (w' : World) : Prop :=
  e = .returned (.int .i64 (n : Int)) ∧ Own w0 w' [row (pb) 176 PC] X
set_option maxRecDepth 100000 in
set_option maxHeartbeats 1000000 in
theorem symCnt (pb : Nat) (PC : Array Value) (sb c n : Nat) (w0 w : World) (X : Nat → Obj → Prop) (hO : Own w0 w [row (pb) 176 PC] X) (hk106 : PC[106]? = some (.slice (some ⟨sb, 0, none⟩) n (n + c))) :
    Calls Tryd.prog 10 #[.pointer (some ⟨pb, 0, none⟩)] w (symCntPost pb PC sb c n w0 X) := by
  go_enter Tryd.func10, Tryd.ntmps10
  obtain ⟨ix9, hix9, hax9, hjx9⟩ := hO.ix
  have ix9_0 : ix9 pb = 0 := hjx9 0 _ _ rfl
  clear hjx9
  have c9_0_106 : w.cell? ⟨pb, 106, none⟩ = some (.slice (some ⟨sb, 0, none⟩) n (n + c)) := hO.cell 0 rfl (106) (hk106)
  have lt9_0 : pb < w.heap.size := hO.lt 0 rfl
  have y9_0 : ∀ o, w.frozen? ⟨pb, o, none⟩ = false := hO.free 0 rfl
  have HO := Lib.hid hO
  clear hO
  go_wp2_with (first | (with_reducible refine Own.stay (fn := Tryd.f10) ?_) | fail)
  try with_reducible refine Own.Stay.mk ?_
  have hO := HO.out
  clear HO hix9 hax9 ix9_0 ix9 c9_0_106 lt9_0 y9_0
  refine bodyPost_ret (v := .int .i64 (n : Int)) ?_ rfl ⟨rfl, hO.sub [0] (by decide)⟩
  simp [results, Tryd.results10, go_sem]
def tsLenPost (pb : Nat) (PC : Array Value) (tb cu n : Nat) (w0 : World) (X : Nat → Obj → Prop) (e : Ending) (w' : World) : Prop :=
  e = .returned (.int .i64 (n : Int)) ∧ Own w0 w' [row (pb) 176 PC] X
set_option maxRecDepth 100000 in
set_option maxHeartbeats 1000000 in
theorem tsLen (pb : Nat) (PC : Array Value) (tb cu n : Nat) (w0 w : World) (X : Nat → Obj → Prop) (hO : Own w0 w [row (pb) 176 PC] X) (hk108 : PC[108]? = some (.slice (some ⟨tb, 0, none⟩) n (n + cu))) :
    Calls Tryd.prog 11 #[.pointer (some ⟨pb, 0, none⟩)] w (tsLenPost pb PC tb cu n w0 X) := by
  go_enter Tryd.func11, Tryd.ntmps11
  obtain ⟨ix9, hix9, hax9, hjx9⟩ := hO.ix
  have ix9_0 : ix9 pb = 0 := hjx9 0 _ _ rfl
  clear hjx9
  have c9_0_108 : w.cell? ⟨pb, 108, none⟩ = some (.slice (some ⟨tb, 0, none⟩) n (n + cu)) := hO.cell 0 rfl (108) (hk108)
  have lt9_0 : pb < w.heap.size := hO.lt 0 rfl
  have y9_0 : ∀ o, w.frozen? ⟨pb, o, none⟩ = false := hO.free 0 rfl
  have HO := Lib.hid hO
  clear hO
  go_wp2_with (first | (with_reducible refine Own.stay (fn := Tryd.f11) ?_) | fail)
  try with_reducible refine Own.Stay.mk ?_
  have hO := HO.out
  clear HO hix9 hax9 ix9_0 ix9 c9_0_108 lt9_0 y9_0
  refine bodyPost_ret (v := .int .i64 (n : Int)) ?_ rfl ⟨rfl, hO.sub [0] (by decide)⟩
  simp [results, Tryd.results11, go_sem]
def tsLen0Post (pb : Nat) (PC : Array Value) (w0 : World) (X : Nat → Obj → Prop) (e : Ending) (w' : World) : Prop :=
  e = .returned (.int .i64 0) ∧ Own w0 w' [row (pb) 176 PC] X
set_option maxRecDepth 100000 in
set_option maxHeartbeats 1000000 in
theorem tsLen0 (pb : Nat) (PC : Array Value) (w0 w : World) (X : Nat → Obj → Prop) (hO : Own w0 w [row (pb) 176 PC] X) (hk108 : PC[108]? = some (.slice none 0 0)) :
    Calls Tryd.prog 11 #[.pointer (some ⟨pb, 0, none⟩)] w (tsLen0Post pb PC w0 X) := by
  go_enter Tryd.func11, Tryd.ntmps11
  obtain ⟨ix9, hix9, hax9, hjx9⟩ := hO.ix
  have ix9_0 : ix9 pb = 0 := hjx9 0 _ _ rfl
  clear hjx9
  have c9_0_108 : w.cell? ⟨pb, 108, none⟩ = some (.slice none 0 0) := hO.cell 0 rfl (108) (hk108)
  have lt9_0 : pb < w.heap.size := hO.lt 0 rfl
  have y9_0 : ∀ o, w.frozen? ⟨pb, o, none⟩ = false := hO.free 0 rfl
  have HO := Lib.hid hO
  clear hO
  go_wp2_with (first | (with_reducible refine Own.stay (fn := Tryd.f11) ?_) | fail)
  try with_reducible refine Own.Stay.mk ?_
  have hO := HO.out
  clear HO hix9 hax9 ix9_0 ix9 c9_0_108 lt9_0 y9_0
  refine bodyPost_ret (v := .int .i64 0) ?_ rfl ⟨rfl, hO.sub [0] (by decide)⟩
  simp [results, Tryd.results11, go_sem]
def topCntPost (pb : Nat) (PC : Array Value) (i : Int) (w0 : World) (X : Nat → Obj → Prop) (e : Ending) (w' : World) : Prop :=
  e = .returned (.int .i64 i) ∧ Own w0 w' [row (pb) 176 PC] X
set_option maxRecDepth 100000 in
set_option maxHeartbeats 1000000 in
theorem topCnt (pb : Nat) (PC : Array Value) (i : Int) (w0 w : World) (X : Nat → Obj → Prop) (hO : Own w0 w [row (pb) 176 PC] X) (hk288 : PC[288]? = some (.int .i64 i)) :
    Calls Tryd.prog 13 #[.pointer (some ⟨pb, 0, none⟩)] w (topCntPost pb PC i w0 X) := by
  go_enter Tryd.func13, Tryd.ntmps13
  obtain ⟨ix9, hix9, hax9, hjx9⟩ := hO.ix
  have ix9_0 : ix9 pb = 0 := hjx9 0 _ _ rfl
  clear hjx9
  have c9_0_288 : w.cell? ⟨pb, 288, none⟩ = some (.int .i64 i) := hO.cell 0 rfl (288) (hk288)
  have lt9_0 : pb < w.heap.size := hO.lt 0 rfl
  have y9_0 : ∀ o, w.frozen? ⟨pb, o, none⟩ = false := hO.free 0 rfl
  have HO := Lib.hid hO
  clear hO
  go_wp2_with (first | (with_reducible refine Own.stay (fn := Tryd.f13) ?_) | fail)
  try with_reducible refine Own.Stay.mk ?_
  have hO := HO.out
  clear HO hix9 hax9 ix9_0 ix9 c9_0_288 lt9_0 y9_0
  refine bodyPost_ret (v := .int .i64 i) ?_ rfl ⟨rfl, hO.sub [0] (by decide)⟩
  simp [results, Tryd.results13, go_sem]
def tmpCntPost (pb : Nat) (PC : Array Value) (i : Int) (w0 : World) (X : Nat → Obj → Prop) (e : Ending) (w' : World) : Prop :=
  e = .returned (.int .i64 i) ∧ Own w0 w' [row (pb) 176 PC] X
set_option maxRecDepth 100000 in
set_option maxHeartbeats 1000000 in
theorem tmpCnt (pb : Nat) (PC : Array Value) (i : Int) (w0 w : World) (X : Nat → Obj → Prop) (hO : Own w0 w [row (pb) 176 PC] X) (hk287 : PC[287]? = some (.int .i64 i)) :
    Calls Tryd.prog 14 #[.pointer (some ⟨pb, 0, none⟩)] w (tmpCntPost pb PC i w0 X) := by
  go_enter Tryd.func14, Tryd.ntmps14
  obtain ⟨ix9, hix9, hax9, hjx9⟩ := hO.ix
  have ix9_0 : ix9 pb = 0 := hjx9 0 _ _ rfl
  clear hjx9
  have c9_0_287 : w.cell? ⟨pb, 287, none⟩ = some (.int .i64 i) := hO.cell 0 rfl (287) (hk287)
  have lt9_0 : pb < w.heap.size := hO.lt 0 rfl
  have y9_0 : ∀ o, w.frozen? ⟨pb, o, none⟩ = false := hO.free 0 rfl
  have HO := Lib.hid hO
  clear hO
  go_wp2_with (first | (with_reducible refine Own.stay (fn := Tryd.f14) ?_) | fail)
  try with_reducible refine Own.Stay.mk ?_
  have hO := HO.out
  clear HO hix9 hax9 ix9_0 ix9 c9_0_287 lt9_0 y9_0
  refine bodyPost_ret (v := .int .i64 i) ?_ rfl ⟨rfl, hO.sub [0] (by decide)⟩
  simp [results, Tryd.results14, go_sem]
def tmpLets0Post (pb : Nat) (PC : Array Value) (w0 : World) (X : Nat → Obj → Prop) (e : Ending) (w' : World) : Prop :=
  e = .returned (.slice none 0 0) ∧ Own w0 w' [row (pb) 176 PC] X
set_option maxRecDepth 100000 in
set_option maxHeartbeats 1000000 in
theorem tmpLets0 (pb : Nat) (PC : Array Value) (w0 w : World) (X : Nat → Obj → Prop) (hO : Own w0 w [row (pb) 176 PC] X) (hk198 : PC[198]? = some (.slice none 0 0)) :
    Calls Tryd.prog 16 #[.pointer (some ⟨pb, 0, none⟩)] w (tmpLets0Post pb PC w0 X) := by
  go_enter Tryd.func16, Tryd.ntmps16
  obtain ⟨ix9, hix9, hax9, hjx9⟩ := hO.ix
  have ix9_0 : ix9 pb = 0 := hjx9 0 _ _ rfl
  clear hjx9
  have c9_0_198 : w.cell? ⟨pb, 198, none⟩ = some (.slice none 0 0) := hO.cell 0 rfl (198) (hk198)
  have lt9_0 : pb < w.heap.size := hO.lt 0 rfl
  have y9_0 : ∀ o, w.frozen? ⟨pb, o, none⟩ = false := hO.free 0 rfl
  have HO := Lib.hid hO
  clear hO
  go_wp2_with (first | (with_reducible refine Own.stay (fn := Tryd.f16) ?_) | fail)
  try with_reducible refine Own.Stay.mk ?_
  have hO := HO.out
  clear HO hix9 hax9 ix9_0 ix9 c9_0_198 lt9_0 y9_0
  refine bodyPost_ret (v := .slice none 0 0) ?_ rfl ⟨rfl, hO.sub [0] (by decide)⟩
  simp [results, Tryd.results16, go_sem]
end Go.Proofs.YtkmojepgbbdeiaaDoor.Use
