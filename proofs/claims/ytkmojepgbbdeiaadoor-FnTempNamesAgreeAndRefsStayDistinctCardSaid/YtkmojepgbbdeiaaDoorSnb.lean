/- Readers and makers for row 41. No condition. -/
import Derived.Test.YtkmojepgbbdeiaaDoorAdn
import Derived.Test.YtkmojepgbbdeiaaDoorS41h
import Derived.Test.YtkmojepgbbdeiaaDoorSt
import Derived.Test.YtkmojepgbbdeiaaDoorLoop
import Derived.Test.YtkmojepgbbdeiaaDoorMno
import Derived.Test.YtkmojepgbbdeiaaDoorMini
import Derived.Test.YtkmojepgbbdeiaaDoorAppL
import Derived.Test.YtkmojepgbbdeiaaDoorApp
import Derived.Test.YtkmojepgbbdeiaaDoorOwnK
import Derived.Test.YtkmojepgbbdeiaaDoorOwn
import Derived.Test.YtkmojepgbbdeiaaDoorDeepCells
import Derived.Test.YtkmojepgbbdeiaaDoorRows
import Derived.Test.YtkmojepgbbdeiaaDoorLive
namespace Go.Proofs.YtkmojepgbbdeiaaDoor.Use
open Go.ChangeShapes Go.WideShapes Go.ChangeAt Go.RowKit Go.Sort Own
set_option linter.unusedVariables false
theorem _root_.Go.Proofs.YtkmojepgbbdeiaaDoor.Base.cell_belowA {w0 w : World} {a : Addr} {v : Value} (hb : Below w0.heap.size w0 w) (h : w0.cell? a = some v) : w.cell? a = some v := by
  rw [← h]
  refine hb.cell (p := a) ?_
  simp only [World.cell?] at h
  cases hx : w0.heap[a.block]? with
  | none => rw [hx] at h; simp at h
  | some x => exact (Array.getElem?_eq_some_iff.1 hx).1

/-- A slice of bools that came in: each of its cells. -/
def BoolsAt (w : World) (x : Addr) (n : Nat) (B : Nat → Bool) : Prop := ∀ i, i < n → w.cell? (x.add i) = some (.bool (B i))

theorem makeStrs (n : Nat) (hn : n ≤ 1048576) (w : World) : (Instr.makeSlice 51 (.int .i64 0) (.int .i64 (n : Int))).run Tryd.prog w = .ok (.slice (some ⟨w.heap.size, 0, none⟩) 0 n) (w.alloc (.cells (full strZ [] n) 9)) := by
  obtain ⟨i, hi, z1, z2, z3⟩ := info_parts infoStr
  exact run_mk_full w 51 9 i (.string ⟨#[]⟩) 1 16 Tryd.underlying51 hi z1 z2 z3 rfl .i64 .i64 0 n (by omega) (by omega) (by omega)

def snmR00Post (pb : Nat) (PC : Array Value) (sb c s : Nat) (B : Nat → Bool) (w0 : World) (X : Nat → Obj → Prop) (e : Ending) (w' : World) : Prop :=
  e = .returned (.string (tn s)) ∧ Own w0 w' [row (pb) 176 PC, row (sb) 183 (full symZ (symL (stB s B 1)) c)] X
theorem snmR00 (pb : Nat) (PC : Array Value) (sb c s : Nat) (B : Nat → Bool) (w0 w : World) (X : Nat → Obj → Prop) (hO : Own w0 w [row (pb) 176 PC, row (sb) 183 (full symZ (symL (stB s B 1)) c)] X) (hk106 : PC[106]? = some (.slice (some ⟨sb, 0, none⟩) 1 (1 + c))) (hbj : B 0 = true) :
    Calls Tryd.prog 8 #[.pointer (some ⟨pb, 0, none⟩), .int .i64 0] w (snmR00Post pb PC sb c s B w0 X) := by
  have e := stB_at s B true 0 hbj
  exact symNm pb PC sb c (stB s B 1) 1 0 (tn s) 27 w0 w X hO hk106 (stB_length _ _ _) (by omega) (by omega) e

def snmR01Post (pb : Nat) (PC : Array Value) (sb c s : Nat) (B : Nat → Bool) (j : Nat) (w0 : World) (X : Nat → Obj → Prop) (e : Ending) (w' : World) : Prop :=
  e = .returned (.string (tn s)) ∧ Own w0 w' [row (pb) 176 PC, row (sb) 183 (full symZ (symL (stB s B (j + 1))) c)] X
theorem snmR01 (pb : Nat) (PC : Array Value) (sb c s : Nat) (B : Nat → Bool) (j : Nat) (w0 w : World) (X : Nat → Obj → Prop) (hO : Own w0 w [row (pb) 176 PC, row (sb) 183 (full symZ (symL (stB s B (j + 1))) c)] X) (hk106 : PC[106]? = some (.slice (some ⟨sb, 0, none⟩) (j + 1) (j + 1 + c))) (hbj : B j = true) (hj5 : j ≤ 100000) (ha : cn B true j = 0) :
    Calls Tryd.prog 8 #[.pointer (some ⟨pb, 0, none⟩), .int .i64 (j : Int)] w (snmR01Post pb PC sb c s B j w0 X) := by
  have e := stB_at s B true j hbj
  rw [ha] at e
  exact symNm pb PC sb c (stB s B (j + 1)) (j + 1) j (tn s) 27 w0 w X hO hk106 (stB_length _ _ _) (by omega) (by omega) e

def snmR11Post (pb : Nat) (PC : Array Value) (sb c s : Nat) (B : Nat → Bool) (j a : Nat) (w0 : World) (X : Nat → Obj → Prop) (e : Ending) (w' : World) : Prop :=
  e = .returned (.string (tn (s + a))) ∧ Own w0 w' [row (pb) 176 PC, row (sb) 183 (full symZ (symL (stB s B (j + 1))) c)] X
theorem snmR11 (pb : Nat) (PC : Array Value) (sb c s : Nat) (B : Nat → Bool) (j a : Nat) (w0 w : World) (X : Nat → Obj → Prop) (hO : Own w0 w [row (pb) 176 PC, row (sb) 183 (full symZ (symL (stB s B (j + 1))) c)] X) (hk106 : PC[106]? = some (.slice (some ⟨sb, 0, none⟩) (j + 1) (j + 1 + c))) (hbj : B j = true) (hj5 : j ≤ 100000) (ha : cn B true j = a) :
    Calls Tryd.prog 8 #[.pointer (some ⟨pb, 0, none⟩), .int .i64 (j : Int)] w (snmR11Post pb PC sb c s B j a w0 X) := by
  have e := stB_at s B true j hbj
  rw [ha] at e
  exact symNm pb PC sb c (stB s B (j + 1)) (j + 1) j (tn (s + a)) 27 w0 w X hO hk106 (stB_length _ _ _) (by omega) (by omega) e

def snmL00Post (pb : Nat) (PC : Array Value) (sb c s : Nat) (B : Nat → Bool) (w0 : World) (X : Nat → Obj → Prop) (e : Ending) (w' : World) : Prop :=
  e = .returned (.string (tn s)) ∧ Own w0 w' [row (pb) 176 PC, row (sb) 183 (full symZ (symL (stB s B 1)) c)] X
theorem snmL00 (pb : Nat) (PC : Array Value) (sb c s : Nat) (B : Nat → Bool) (w0 w : World) (X : Nat → Obj → Prop) (hO : Own w0 w [row (pb) 176 PC, row (sb) 183 (full symZ (symL (stB s B 1)) c)] X) (hk106 : PC[106]? = some (.slice (some ⟨sb, 0, none⟩) 1 (1 + c))) (hbj : B 0 = false) :
    Calls Tryd.prog 8 #[.pointer (some ⟨pb, 0, none⟩), .int .i64 0] w (snmL00Post pb PC sb c s B w0 X) := by
  have e := stB_at s B false 0 hbj
  exact symNm pb PC sb c (stB s B 1) 1 0 (tn s) 27 w0 w X hO hk106 (stB_length _ _ _) (by omega) (by omega) e

def snmL01Post (pb : Nat) (PC : Array Value) (sb c s : Nat) (B : Nat → Bool) (j : Nat) (w0 : World) (X : Nat → Obj → Prop) (e : Ending) (w' : World) : Prop :=
  e = .returned (.string (tn s)) ∧ Own w0 w' [row (pb) 176 PC, row (sb) 183 (full symZ (symL (stB s B (j + 1))) c)] X
theorem snmL01 (pb : Nat) (PC : Array Value) (sb c s : Nat) (B : Nat → Bool) (j : Nat) (w0 w : World) (X : Nat → Obj → Prop) (hO : Own w0 w [row (pb) 176 PC, row (sb) 183 (full symZ (symL (stB s B (j + 1))) c)] X) (hk106 : PC[106]? = some (.slice (some ⟨sb, 0, none⟩) (j + 1) (j + 1 + c))) (hbj : B j = false) (hj5 : j ≤ 100000) (ha : cn B false j = 0) :
    Calls Tryd.prog 8 #[.pointer (some ⟨pb, 0, none⟩), .int .i64 (j : Int)] w (snmL01Post pb PC sb c s B j w0 X) := by
  have e := stB_at s B false j hbj
  rw [ha] at e
  exact symNm pb PC sb c (stB s B (j + 1)) (j + 1) j (tn s) 27 w0 w X hO hk106 (stB_length _ _ _) (by omega) (by omega) e

def snmL11Post (pb : Nat) (PC : Array Value) (sb c s : Nat) (B : Nat → Bool) (j a : Nat) (w0 : World) (X : Nat → Obj → Prop) (e : Ending) (w' : World) : Prop :=
  e = .returned (.string (tn (s + a))) ∧ Own w0 w' [row (pb) 176 PC, row (sb) 183 (full symZ (symL (stB s B (j + 1))) c)] X
theorem snmL11 (pb : Nat) (PC : Array Value) (sb c s : Nat) (B : Nat → Bool) (j a : Nat) (w0 w : World) (X : Nat → Obj → Prop) (hO : Own w0 w [row (pb) 176 PC, row (sb) 183 (full symZ (symL (stB s B (j + 1))) c)] X) (hk106 : PC[106]? = some (.slice (some ⟨sb, 0, none⟩) (j + 1) (j + 1 + c))) (hbj : B j = false) (hj5 : j ≤ 100000) (ha : cn B false j = a) :
    Calls Tryd.prog 8 #[.pointer (some ⟨pb, 0, none⟩), .int .i64 (j : Int)] w (snmL11Post pb PC sb c s B j a w0 X) := by
  have e := stB_at s B false j hbj
  rw [ha] at e
  exact symNm pb PC sb c (stB s B (j + 1)) (j + 1) j (tn (s + a)) 27 w0 w X hO hk106 (stB_length _ _ _) (by omega) (by omega) e

def setCntPost (pb : Nat) (PC : Array Value) (t1 t2 : Int) (u1 u2 : Value) (w0 : World) (X : Nat → Obj → Prop) (e : Ending) (w' : World) : Prop :=
  e = .returned (.tuple #[]) ∧ Own w0 w' [row (pb) 176 ((PC.setIfInBounds 287 (.int .i64 t1)).setIfInBounds 288 (.int .i64 t2))] X
set_option maxRecDepth 100000 in
set_option maxHeartbeats 1000000 in
theorem setCnt (pb : Nat) (PC : Array Value) (t1 t2 : Int) (u1 u2 : Value) (w0 w : World) (X : Nat → Obj → Prop) (hO : Own w0 w [row (pb) 176 PC] X) (hk287 : PC[287]? = some (u1)) (hk288 : PC[288]? = some (u2)) :
    Calls Tryd.prog 18 #[.pointer (some ⟨pb, 0, none⟩), .int .i64 t1, .int .i64 t2] w (setCntPost pb PC t1 t2 u1 u2 w0 X) := by
  go_enter Tryd.func18, Tryd.ntmps18
  obtain ⟨ix9, hix9, hax9, hjx9⟩ := hO.ix
  have ix9_0 : ix9 pb = 0 := hjx9 0 _ _ rfl
  clear hjx9
  have c9_0_287 : w.cell? ⟨pb, 287, none⟩ = some (u1) := hO.cell 0 rfl (287) (hk287)
  have c9_0_288 : w.cell? ⟨pb, 288, none⟩ = some (u2) := hO.cell 0 rfl (288) (hk288)
  have lt9_0 : pb < w.heap.size := hO.lt 0 rfl
  have y9_0 : ∀ o, w.frozen? ⟨pb, o, none⟩ = false := hO.free 0 rfl
  have HO := Lib.hid hO
  clear hO
  go_wp2_with (first | (with_reducible refine Own.stay (fn := Tryd.f18) ?_) | fail)
  try with_reducible refine Own.Stay.mk ?_
  have hO := HO.out
  clear HO hix9 hax9 ix9_0 ix9 c9_0_287 c9_0_288 lt9_0 y9_0
  generalize hW : World.setCell _ _ _ = W2
  have hN : Own w0 W2 [row (pb) 176 ((PC.setIfInBounds 287 (.int .i64 t1)).setIfInBounds 288 (.int .i64 t2))] X := by
    rw [← hW]
    exact ((hO).set 0 rfl 287 _).set 0 rfl 288 _
  clear hW hO
  have hO := hN
  clear hN
  refine bodyPost_ret (v := .tuple #[]) ?_ rfl ⟨rfl, hO.sub [0] (by decide)⟩
  simp [results, Tryd.results18, go_sem]
end Go.Proofs.YtkmojepgbbdeiaaDoor.Use
