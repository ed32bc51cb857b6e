/- Readers at the laws' states. No condition. -/
import Derived.Test.YtkmojepgbbdeiaaDoorTop
import Derived.Test.YtkmojepgbbdeiaaDoorSt
import Derived.Test.YtkmojepgbbdeiaaDoorLoop
import Derived.Test.YtkmojepgbbdeiaaDoorMno
import Derived.Test.YtkmojepgbbdeiaaDoorMini
import Derived.Test.YtkmojepgbbdeiaaDoorAppL
import Derived.Test.YtkmojepgbbdeiaaDoorApp
import Derived.Test.YtkmojepgbbdeiaaDoorOwnK
import Derived.Test.YtkmojepgbbdeiaaDoorOwn
import Derived.Test.YtkmojepgbbdeiaaDoorDeepCells
import Derived.Test.YtkmojepgbbdeiaaDoorRows
import Derived.Test.YtkmojepgbbdeiaaDoorLive
namespace Go.Proofs.YtkmojepgbbdeiaaDoor.Use
open Go.ChangeShapes Go.WideShapes Go.ChangeAt Go.RowKit Go.Sort Own
set_option linter.unusedVariables false
theorem tn_at0 (i : Nat) (h : 0 < (tn i).size) : (((tn i)[0]'h).toNat : Int) = 95 := by
  have hd : (tn i).data = #[95] ++ (nm i).toArray := by
    unfold tn nmB
    exact ByteArray.data_append
  have h2 : (tn i)[0]'h = (95 : UInt8) := by
    show (tn i).data[0]'h = 95
    simp [hd]
  rw [h2]
  rfl

def symNmJPost (pb : Nat) (PC : Array Value) (sb c n j : Nat) (w0 : World) (X : Nat → Obj → Prop) (e : Ending) (w' : World) : Prop :=
  e = .returned (.string (tn j)) ∧ Own w0 w' [row (pb) 176 PC, row (sb) 183 (full symZ (symL (stJ n (j + 1))) c)] X
theorem symNmJ (pb : Nat) (PC : Array Value) (sb c n j : Nat) (w0 w : World) (X : Nat → Obj → Prop) (hO : Own w0 w [row (pb) 176 PC, row (sb) 183 (full symZ (symL (stJ n (j + 1))) c)] X) (hk106 : PC[106]? = some (.slice (some ⟨sb, 0, none⟩) (n + (j + 1)) (n + (j + 1) + c))) (hn5 : n ≤ 100000) (hj5 : j ≤ 100000) :
    Calls Tryd.prog 8 #[.pointer (some ⟨pb, 0, none⟩), .int .i64 ((n : Int) + (j : Int))] w (symNmJPost pb PC sb c n j w0 X) :=
  symNm pb PC sb c (stJ n (j + 1)) (n + (j + 1)) (n + j) (tn j) 27 w0 w X hO hk106 (stJ_length _ _) (by omega) (by omega) (stJ_at n j)

def symKdJPost (pb : Nat) (PC : Array Value) (sb c n j : Nat) (w0 : World) (X : Nat → Obj → Prop) (e : Ending) (w' : World) : Prop :=
  e = .returned (.int .u8 27) ∧ Own w0 w' [row (pb) 176 PC, row (sb) 183 (full symZ (symL (stJ n (j + 1))) c)] X
theorem symKdJ (pb : Nat) (PC : Array Value) (sb c n j : Nat) (w0 w : World) (X : Nat → Obj → Prop) (hO : Own w0 w [row (pb) 176 PC, row (sb) 183 (full symZ (symL (stJ n (j + 1))) c)] X) (hk106 : PC[106]? = some (.slice (some ⟨sb, 0, none⟩) (n + (j + 1)) (n + (j + 1) + c))) (hn5 : n ≤ 100000) (hj5 : j ≤ 100000) :
    Calls Tryd.prog 9 #[.pointer (some ⟨pb, 0, none⟩), .int .i64 ((n : Int) + (j : Int))] w (symKdJPost pb PC sb c n j w0 X) :=
  symKd pb PC sb c (stJ n (j + 1)) (n + (j + 1)) (n + j) (tn j) 27 w0 w X hO hk106 (stJ_length _ _) (by omega) (by omega) (stJ_at n j)

def symNm1Post (pb : Nat) (PC : Array Value) (sb c n : Nat) (w0 : World) (X : Nat → Obj → Prop) (e : Ending) (w' : World) : Prop :=
  e = .returned (.string (tn 0)) ∧ Own w0 w' [row (pb) 176 PC, row (sb) 183 (full symZ (symL (stJ n 1)) c)] X
theorem symNm1 (pb : Nat) (PC : Array Value) (sb c n : Nat) (w0 w : World) (X : Nat → Obj → Prop) (hO : Own w0 w [row (pb) 176 PC, row (sb) 183 (full symZ (symL (stJ n 1)) c)] X) (hk106 : PC[106]? = some (.slice (some ⟨sb, 0, none⟩) (n + 1) (n + 1 + c))) (hn5 : n ≤ 100000) :
    Calls Tryd.prog 8 #[.pointer (some ⟨pb, 0, none⟩), .int .i64 (n : Int)] w (symNm1Post pb PC sb c n w0 X) :=
  symNm pb PC sb c (stJ n 1) (n + 1) n (tn 0) 27 w0 w X hO hk106 (stJ_length _ _) (by omega) (by omega) (stJ_at n 0)

def symKd1Post (pb : Nat) (PC : Array Value) (sb c n : Nat) (w0 : World) (X : Nat → Obj → Prop) (e : Ending) (w' : World) : Prop :=
  e = .returned (.int .u8 27) ∧ Own w0 w' [row (pb) 176 PC, row (sb) 183 (full symZ (symL (stJ n 1)) c)] X
theorem symKd1 (pb : Nat) (PC : Array Value) (sb c n : Nat) (w0 w : World) (X : Nat → Obj → Prop) (hO : Own w0 w [row (pb) 176 PC, row (sb) 183 (full symZ (symL (stJ n 1)) c)] X) (hk106 : PC[106]? = some (.slice (some ⟨sb, 0, none⟩) (n + 1) (n + 1 + c))) (hn5 : n ≤ 100000) :
    Calls Tryd.prog 9 #[.pointer (some ⟨pb, 0, none⟩), .int .i64 (n : Int)] w (symKd1Post pb PC sb c n w0 X) :=
  symKd pb PC sb c (stJ n 1) (n + 1) n (tn 0) 27 w0 w X hO hk106 (stJ_length _ _) (by omega) (by omega) (stJ_at n 0)

def symCntJPost (pb : Nat) (PC : Array Value) (sb c n j : Nat) (w0 : World) (X : Nat → Obj → Prop) (e : Ending) (w' : World) : Prop :=
  e = .returned (.int .i64 ((n : Int) + (j : Int))) ∧ Own w0 w' [row (pb) 176 PC] X
theorem symCntJ (pb : Nat) (PC : Array Value) (sb c n j : Nat) (w0 w : World) (X : Nat → Obj → Prop) (hO : Own w0 w [row (pb) 176 PC] X) (hk106 : PC[106]? = some (.slice (some ⟨sb, 0, none⟩) (n + j) (n + j + c))) :
    Calls Tryd.prog 10 #[.pointer (some ⟨pb, 0, none⟩)] w (symCntJPost pb PC sb c n j w0 X) :=
  symCnt pb PC sb c (n + j) w0 w X hO hk106

def symCnt0Post (pb : Nat) (PC : Array Value) (sb n : Nat) (w0 : World) (X : Nat → Obj → Prop) (e : Ending) (w' : World) : Prop :=
  e = .returned (.int .i64 (n : Int)) ∧ Own w0 w' [row (pb) 176 PC] X
theorem symCnt0 (pb : Nat) (PC : Array Value) (sb n : Nat) (w0 w : World) (X : Nat → Obj → Prop) (hO : Own w0 w [row (pb) 176 PC] X) (hk106 : PC[106]? = some (.slice (some ⟨sb, 0, none⟩) n n)) :
    Calls Tryd.prog 10 #[.pointer (some ⟨pb, 0, none⟩)] w (symCnt0Post pb PC sb n w0 X) :=
  symCnt pb PC sb 0 n w0 w X hO hk106

def tsLenJPost (pb : Nat) (PC : Array Value) (tb cu n j : Nat) (w0 : World) (X : Nat → Obj → Prop) (e : Ending) (w' : World) : Prop :=
  e = .returned (.int .i64 ((n : Int) + (j : Int))) ∧ Own w0 w' [row (pb) 176 PC] X
theorem tsLenJ (pb : Nat) (PC : Array Value) (tb cu n j : Nat) (w0 w : World) (X : Nat → Obj → Prop) (hO : Own w0 w [row (pb) 176 PC] X) (hk108 : PC[108]? = some (.slice (some ⟨tb, 0, none⟩) (n + j) (n + j + cu))) :
    Calls Tryd.prog 11 #[.pointer (some ⟨pb, 0, none⟩)] w (tsLenJPost pb PC tb cu n j w0 X) :=
  tsLen pb PC tb cu (n + j) w0 w X hO hk108

def tsLenNPost (pb : Nat) (PC : Array Value) (tb n : Nat) (w0 : World) (X : Nat → Obj → Prop) (e : Ending) (w' : World) : Prop :=
  e = .returned (.int .i64 (n : Int)) ∧ Own w0 w' [row (pb) 176 PC] X
theorem tsLenN (pb : Nat) (PC : Array Value) (tb n : Nat) (w0 w : World) (X : Nat → Obj → Prop) (hO : Own w0 w [row (pb) 176 PC] X) (hk108 : PC[108]? = some (.slice (some ⟨tb, 0, none⟩) n n)) :
    Calls Tryd.prog 11 #[.pointer (some ⟨pb, 0, none⟩)] w (tsLenNPost pb PC tb n w0 X) :=
  tsLen pb PC tb 0 n w0 w X hO hk108

end Go.Proofs.YtkmojepgbbdeiaaDoor.Use
