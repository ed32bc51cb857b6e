/- The laws' states and what one more temporary does to them. No condition. -/
import Derived.Test.YtkmojepgbbdeiaaDoorDoorN0
import Derived.Test.YtkmojepgbbdeiaaDoorDoorN1
import Derived.Test.YtkmojepgbbdeiaaDoorDoorT0
import Derived.Test.YtkmojepgbbdeiaaDoorDoorT1
import Derived.Test.YtkmojepgbbdeiaaDoorRead
import Derived.Test.YtkmojepgbbdeiaaDoorNewP
import Derived.Test.YtkmojepgbbdeiaaDoorLoop
import Derived.Test.YtkmojepgbbdeiaaDoorMno
import Derived.Test.YtkmojepgbbdeiaaDoorMini
import Derived.Test.YtkmojepgbbdeiaaDoorAppL
import Derived.Test.YtkmojepgbbdeiaaDoorApp
import Derived.Test.YtkmojepgbbdeiaaDoorOwnK
import Derived.Test.YtkmojepgbbdeiaaDoorOwn
import Derived.Test.YtkmojepgbbdeiaaDoorDeepCells
import Derived.Test.YtkmojepgbbdeiaaDoorRows
import Derived.Test.YtkmojepgbbdeiaaDoorLive
namespace Go.Proofs.YtkmojepgbbdeiaaDoor.Use
open Go.ChangeShapes Go.WideShapes Go.ChangeAt Go.RowKit Go.Sort Own
set_option linter.unusedVariables false
def stJ (n j : Nat) : List Sy := zSys n ++ (List.range j).map (fun i => syk (tn i) 27)
theorem stJ_length (n j : Nat) : (stJ n j).length = n + j := by simp [stJ, zSys_length]
theorem stJ_succ (n j : Nat) : stJ n j ++ [syk (tn j) 27] = stJ n (j + 1) := by simp [stJ, List.range_succ]
theorem stJ_one (n : Nat) : zSys n ++ [syk (tn 0) 27] = stJ n 1 := by simp [stJ, List.range_succ]
theorem stJ_at (n j : Nat) : (stJ n (j + 1))[n + j]? = some (syk (tn j) 27) := by
  rw [← stJ_succ, List.getElem?_append_right (by rw [stJ_length]; omega), stJ_length, Nat.sub_self]
  rfl
theorem zU_succ (n : Nat) : zU n ++ [.int .u32 0] = zU (n + 1) := (List.replicate_succ' ..).symm
def rfL (src : Int) (n i : Nat) : List Value := [.int .u32 src, .int .u32 ((n + i : Nat) : Int)]
def tqL (src : Int) (n i : Nat) : List Value := [.nilIface, .int .i32 0, .int .u32 src, .int .u32 ((n + i : Nat) : Int)]
def tgJ (src : Int) (n j : Nat) : List Value := tab (rfL src n) j
def tqJ (src : Int) (n j : Nat) : List Value := tab (tqL src n) j
theorem tgJ_length (src : Int) (n j : Nat) : (tgJ src n j).length = j * 2 := tab_length (k := 2) (fun _ => rfl) j
theorem tqJ_length (src : Int) (n j : Nat) : (tqJ src n j).length = j * 4 := tab_length (k := 4) (fun _ => rfl) j
theorem tgJ_succ (src : Int) (n j : Nat) : tgJ src n j ++ [.int .u32 src, .int .u32 ((n + j : Nat) : Int)] = tgJ src n (j + 1) := (tab_succ _ _).symm
theorem tqJ_succ (src : Int) (n j : Nat) : tqJ src n j ++ [.nilIface, .int .i32 0, .int .u32 src, .int .u32 ((n + j : Nat) : Int)] = tqJ src n (j + 1) := (tab_succ _ _).symm
theorem tgJ_one (src : Int) (n : Nat) : ([.int .u32 src, .int .u32 (n : Int)] : List Value) = tgJ src n 1 := rfl
theorem tqJ_one (src : Int) (n : Nat) : ([.nilIface, .int .i32 0, .int .u32 src, .int .u32 (n : Int)] : List Value) = tqJ src n 1 := rfl
theorem tgJ_at0 (src : Int) (n j i : Nat) (h : i < j) : (tgJ src n j)[i * 2 + 0]? = some (.int .u32 src) := tab_at (k := 2) (fun _ => rfl) h rfl
theorem tgJ_at1 (src : Int) (n j i : Nat) (h : i < j) : (tgJ src n j)[i * 2 + 1]? = some (.int .u32 ((n : Int) + (i : Int))) := tab_at (k := 2) (fun _ => rfl) h rfl
theorem tqJ_at (src : Int) (n j i o : Nat) (v : Value) (h : i < j) (ho : (tqL src n i)[o]? = some v) : (tqJ src n j)[i * 4 + o]? = some v := tab_at (k := 4) (fun _ => rfl) h ho
theorem tn_size (i : Nat) : 2 ≤ (tn i).size := by
  unfold tn nmB nm
  rw [ByteArray.size_append]
  show 2 ≤ 1 + (List.toArray _).size
  rw [List.size_toArray, List.length_cons]
  omega
theorem tn_size_le (i : Nat) (hi : i ≤ 1048576) : (tn i).size ≤ 1048579 := by
  have := nmB_size i hi
  unfold tn
  rw [ByteArray.size_append]
  show 1 + _ ≤ _
  omega

def stepN0Post (pb : Nat) (PC : Array Value) (sb n : Nat) (src : Int) (ms : Nat) (MC : Array Value) (w0 : World) (X : Nat → Obj → Prop) (e : Ending) (w' : World) : Prop :=
  ∃ PC2 : Array Value, ∃ MC2 : Array Value, ∃ sb2 : Nat, ∃ c2 : Nat, ∃ qb2 : Nat, ∃ cq2 : Nat, ∃ gb2 : Nat, ∃ cg2 : Nat, e = .returned (.agg #[.int .u32 src, .int .u32 (n : Int)]) ∧ PC2[66]? = some (.int .u32 src) ∧ PC2[32]? = some (.bool false) ∧ PC2[106]? = some (.slice (some ⟨sb2, 0, none⟩) (n + 1) (n + 1 + c2)) ∧ PC2[108]? = some (.slice none 0 0) ∧ PC2[187]? = some (.pointer (some ⟨ms, 0, none⟩)) ∧ PC2[200]? = some (.slice (some ⟨qb2, 0, none⟩) 1 (1 + cq2)) ∧ PC2[288]? = some (.int .i64 1) ∧ PC2[199]? = some (.slice none 0 0) ∧ PC2[287]? = some (.int .i64 0) ∧ PC2[198]? = some (.slice none 0 0) ∧ MC2[5]? = some (.slice (some ⟨gb2, 0, none⟩) 1 (1 + cg2)) ∧ Own w0 w' [row (pb) 176 PC2, row (sb2) 183 (full symZ (symL (stJ n 1)) c2), row (ms) 38 MC2, row (qb2) 185 (full trfZ (tqJ src n 1) cq2), row (gb2) 33 (full refZ (tgJ src n 1) cg2)] X
set_option maxRecDepth 100000 in
set_option maxHeartbeats 1000000 in
theorem stepN0 (pb : Nat) (PC : Array Value) (sb n : Nat) (src : Int) (ms : Nat) (MC : Array Value) (w0 w : World) (X : Nat → Obj → Prop) (hO : Own w0 w [row (pb) 176 PC, row (sb) 183 (full symZ (symL (zSys n)) 0), row (ms) 38 MC] X) (hk66 : PC[66]? = some (.int .u32 src)) (hk32 : PC[32]? = some (.bool false)) (hk106 : PC[106]? = some (.slice (some ⟨sb, 0, none⟩) n n)) (hk108 : PC[108]? = some (.slice none 0 0)) (hk187 : PC[187]? = some (.pointer (some ⟨ms, 0, none⟩))) (hk200 : PC[200]? = some (.slice none 0 0)) (hk288 : PC[288]? = some (.int .i64 0)) (hk199 : PC[199]? = some (.slice none 0 0)) (hk287 : PC[287]? = some (.int .i64 0)) (hk198 : PC[198]? = some (.slice none 0 0)) (hgen : MC[5]? = some (.slice none 0 0)) (hn5 : n ≤ 100000) (hg0 : w0.cell? ⟨0, 0, none⟩ = some (.int .u32 4294967295)) (hg1 : w0.cell? ⟨0, 1, none⟩ = some (.int .u32 4294967295)) :
    Calls Tryd.prog 7 #[.pointer (some ⟨pb, 0, none⟩)] w (stepN0Post pb PC sb n src ms MC w0 X) := by
  refine Calls.mono (dTTopN0 pb PC sb 0 (zSys n) n src 0 ms MC w0 w X hO hk66 hk32 hk106 (zSys_length _) (by omega) hk187 hk288 hk200 hgen (by omega) hg0 hg1) ?_
  rintro e w' ⟨sb2, c2, qb2, cq2, gb2, cg2, rfl, hQ⟩
  rw [stJ_one, tqJ_one, tgJ_one] at hQ
  exact ⟨((PC.setIfInBounds 106 (.slice (some ⟨sb2, 0, none⟩) (n + 1) (n + 1 + c2))).setIfInBounds 200 (.slice (some ⟨qb2, 0, none⟩) 1 (1 + cq2))).setIfInBounds 288 (.int .i64 1), MC.setIfInBounds 5 (.slice (some ⟨gb2, 0, none⟩) 1 (1 + cg2)), sb2, c2, qb2, cq2, gb2, cg2, rfl, (get_other (get_other (get_other hk66 (by omega) _) (by omega) _) (by omega) _), (get_other (get_other (get_other hk32 (by omega) _) (by omega) _) (by omega) _), (get_other (get_other (get_set hk106 _) (by omega) _) (by omega) _), (get_other (get_other (get_other hk108 (by omega) _) (by omega) _) (by omega) _), (get_other (get_other (get_other hk187 (by omega) _) (by omega) _) (by omega) _), (get_other (get_set (get_other hk200 (by omega) _) _) (by omega) _), (get_set (get_other (get_other hk288 (by omega) _) (by omega) _) _), (get_other (get_other (get_other hk199 (by omega) _) (by omega) _) (by omega) _), (get_other (get_other (get_other hk287 (by omega) _) (by omega) _) (by omega) _), (get_other (get_other (get_other hk198 (by omega) _) (by omega) _) (by omega) _), get_set hgen _, hQ⟩

def stepN1Post (pb : Nat) (PC : Array Value) (sb c n j : Nat) (src : Int) (ms : Nat) (MC : Array Value) (qb cq gb cg : Nat) (w0 : World) (X : Nat → Obj → Prop) (e : Ending) (w' : World) : Prop :=
  ∃ PC2 : Array Value, ∃ MC2 : Array Value, ∃ sb2 : Nat, ∃ c2 : Nat, ∃ qb2 : Nat, ∃ cq2 : Nat, ∃ gb2 : Nat, ∃ cg2 : Nat, e = .returned (.agg #[.int .u32 src, .int .u32 ((n : Int) + (j : Int))]) ∧ PC2[66]? = some (.int .u32 src) ∧ PC2[32]? = some (.bool false) ∧ PC2[106]? = some (.slice (some ⟨sb2, 0, none⟩) (n + (j + 1)) (n + (j + 1) + c2)) ∧ PC2[108]? = some (.slice none 0 0) ∧ PC2[187]? = some (.pointer (some ⟨ms, 0, none⟩)) ∧ PC2[200]? = some (.slice (some ⟨qb2, 0, none⟩) (j + 1) (j + 1 + cq2)) ∧ PC2[288]? = some (.int .i64 ((j : Int) + 1)) ∧ PC2[199]? = some (.slice none 0 0) ∧ PC2[287]? = some (.int .i64 0) ∧ PC2[198]? = some (.slice none 0 0) ∧ MC2[5]? = some (.slice (some ⟨gb2, 0, none⟩) (j + 1) (j + 1 + cg2)) ∧ Own w0 w' [row (pb) 176 PC2, row (sb2) 183 (full symZ (symL (stJ n (j + 1))) c2), row (ms) 38 MC2, row (qb2) 185 (full trfZ (tqJ src n (j + 1)) cq2), row (gb2) 33 (full refZ (tgJ src n (j + 1)) cg2)] X
set_option maxRecDepth 100000 in
set_option maxHeartbeats 1000000 in
theorem stepN1 (pb : Nat) (PC : Array Value) (sb c n j : Nat) (src : Int) (ms : Nat) (MC : Array Value) (qb cq gb cg : Nat) (w0 w : World) (X : Nat → Obj → Prop) (hO : Own w0 w [row (pb) 176 PC, row (sb) 183 (full symZ (symL (stJ n j)) c), row (ms) 38 MC, row (qb) 185 (full trfZ (tqJ src n j) cq), row (gb) 33 (full refZ (tgJ src n j) cg)] X) (hk66 : PC[66]? = some (.int .u32 src)) (hk32 : PC[32]? = some (.bool false)) (hk106 : PC[106]? = some (.slice (some ⟨sb, 0, none⟩) (n + j) (n + j + c))) (hk108 : PC[108]? = some (.slice none 0 0)) (hk187 : PC[187]? = some (.pointer (some ⟨ms, 0, none⟩))) (hk200 : PC[200]? = some (.slice (some ⟨qb, 0, none⟩) j (j + cq))) (hk288 : PC[288]? = some (.int .i64 (j : Int))) (hk199 : PC[199]? = some (.slice none 0 0)) (hk287 : PC[287]? = some (.int .i64 0)) (hk198 : PC[198]? = some (.slice none 0 0)) (hgen : MC[5]? = some (.slice (some ⟨gb, 0, none⟩) j (j + cg))) (hn5 : n ≤ 100000) (hj5 : j ≤ 100000) (hg0 : w0.cell? ⟨0, 0, none⟩ = some (.int .u32 4294967295)) (hg1 : w0.cell? ⟨0, 1, none⟩ = some (.int .u32 4294967295)) :
    Calls Tryd.prog 7 #[.pointer (some ⟨pb, 0, none⟩)] w (stepN1Post pb PC sb c n j src ms MC qb cq gb cg w0 X) := by
  refine Calls.mono (dTTopN1 pb PC sb c (stJ n j) (n + j) src j ms MC qb (tqJ src n j) cq gb (tgJ src n j) cg j w0 w X hO hk66 hk32 hk106 (stJ_length _ _) (by omega) hk187 hk288 hk200 hgen (tqJ_length _ _ _) (tgJ_length _ _ _) hj5 (by omega) hg0 hg1) ?_
  rintro e w' ⟨sb2, c2, qb2, cq2, gb2, cg2, rfl, hQ⟩
  rw [stJ_succ, tqJ_succ, tgJ_succ] at hQ
  exact ⟨((PC.setIfInBounds 106 (.slice (some ⟨sb2, 0, none⟩) (n + (j + 1)) (n + (j + 1) + c2))).setIfInBounds 200 (.slice (some ⟨qb2, 0, none⟩) (j + 1) (j + 1 + cq2))).setIfInBounds 288 (.int .i64 ((j : Int) + 1)), MC.setIfInBounds 5 (.slice (some ⟨gb2, 0, none⟩) (j + 1) (j + 1 + cg2)), sb2, c2, qb2, cq2, gb2, cg2, rfl, (get_other (get_other (get_other hk66 (by omega) _) (by omega) _) (by omega) _), (get_other (get_other (get_other hk32 (by omega) _) (by omega) _) (by omega) _), (get_other (get_other (get_set hk106 _) (by omega) _) (by omega) _), (get_other (get_other (get_other hk108 (by omega) _) (by omega) _) (by omega) _), (get_other (get_other (get_other hk187 (by omega) _) (by omega) _) (by omega) _), (get_other (get_set (get_other hk200 (by omega) _) _) (by omega) _), (get_set (get_other (get_other hk288 (by omega) _) (by omega) _) _), (get_other (get_other (get_other hk199 (by omega) _) (by omega) _) (by omega) _), (get_other (get_other (get_other hk287 (by omega) _) (by omega) _) (by omega) _), (get_other (get_other (get_other hk198 (by omega) _) (by omega) _) (by omega) _), get_set hgen _, hQ⟩

def stepT0Post (pb : Nat) (PC : Array Value) (sb n tb : Nat) (src : Int) (ms : Nat) (MC : Array Value) (w0 : World) (X : Nat → Obj → Prop) (e : Ending) (w' : World) : Prop :=
  ∃ PC2 : Array Value, ∃ MC2 : Array Value, ∃ sb2 : Nat, ∃ c2 : Nat, ∃ tb2 : Nat, ∃ cu2 : Nat, ∃ qb2 : Nat, ∃ cq2 : Nat, ∃ gb2 : Nat, ∃ cg2 : Nat, e = .returned (.agg #[.int .u32 src, .int .u32 (n : Int)]) ∧ PC2[66]? = some (.int .u32 src) ∧ PC2[32]? = some (.bool true) ∧ PC2[106]? = some (.slice (some ⟨sb2, 0, none⟩) (n + 1) (n + 1 + c2)) ∧ PC2[108]? = some (.slice (some ⟨tb2, 0, none⟩) (n + 1) (n + 1 + cu2)) ∧ PC2[187]? = some (.pointer (some ⟨ms, 0, none⟩)) ∧ PC2[200]? = some (.slice (some ⟨qb2, 0, none⟩) 1 (1 + cq2)) ∧ PC2[288]? = some (.int .i64 1) ∧ PC2[199]? = some (.slice none 0 0) ∧ PC2[287]? = some (.int .i64 0) ∧ PC2[198]? = some (.slice none 0 0) ∧ MC2[5]? = some (.slice (some ⟨gb2, 0, none⟩) 1 (1 + cg2)) ∧ Own w0 w' [row (pb) 176 PC2, row (sb2) 183 (full symZ (symL (stJ n 1)) c2), row (tb2) 22 (full u32Z (zU (n + 1)) cu2), row (ms) 38 MC2, row (qb2) 185 (full trfZ (tqJ src n 1) cq2), row (gb2) 33 (full refZ (tgJ src n 1) cg2)] X
set_option maxRecDepth 100000 in
set_option maxHeartbeats 1000000 in
theorem stepT0 (pb : Nat) (PC : Array Value) (sb n tb : Nat) (src : Int) (ms : Nat) (MC : Array Value) (w0 w : World) (X : Nat → Obj → Prop) (hO : Own w0 w [row (pb) 176 PC, row (sb) 183 (full symZ (symL (zSys n)) 0), row (tb) 22 (full u32Z (zU n) 0), row (ms) 38 MC] X) (hk66 : PC[66]? = some (.int .u32 src)) (hk32 : PC[32]? = some (.bool true)) (hk106 : PC[106]? = some (.slice (some ⟨sb, 0, none⟩) n n)) (hk108 : PC[108]? = some (.slice (some ⟨tb, 0, none⟩) n n)) (hk187 : PC[187]? = some (.pointer (some ⟨ms, 0, none⟩))) (hk200 : PC[200]? = some (.slice none 0 0)) (hk288 : PC[288]? = some (.int .i64 0)) (hk199 : PC[199]? = some (.slice none 0 0)) (hk287 : PC[287]? = some (.int .i64 0)) (hk198 : PC[198]? = some (.slice none 0 0)) (hgen : MC[5]? = some (.slice none 0 0)) (hn5 : n ≤ 100000) (hg0 : w0.cell? ⟨0, 0, none⟩ = some (.int .u32 4294967295)) (hg1 : w0.cell? ⟨0, 1, none⟩ = some (.int .u32 4294967295)) :
    Calls Tryd.prog 7 #[.pointer (some ⟨pb, 0, none⟩)] w (stepT0Post pb PC sb n tb src ms MC w0 X) := by
  refine Calls.mono (dTTopT0 pb PC sb 0 (zSys n) n tb (zU n) 0 src 0 ms MC w0 w X hO hk66 hk32 hk108 (zU_length _) hk106 (zSys_length _) (by omega) hk187 hk288 hk200 hgen (by omega) hg0 hg1) ?_
  rintro e w' ⟨sb2, c2, tb2, cu2, qb2, cq2, gb2, cg2, rfl, hQ⟩
  rw [stJ_one, tqJ_one, tgJ_one, zU_succ] at hQ
  exact ⟨(((PC.setIfInBounds 106 (.slice (some ⟨sb2, 0, none⟩) (n + 1) (n + 1 + c2))).setIfInBounds 108 (.slice (some ⟨tb2, 0, none⟩) (n + 1) (n + 1 + cu2))).setIfInBounds 200 (.slice (some ⟨qb2, 0, none⟩) 1 (1 + cq2))).setIfInBounds 288 (.int .i64 1), MC.setIfInBounds 5 (.slice (some ⟨gb2, 0, none⟩) 1 (1 + cg2)), sb2, c2, tb2, cu2, qb2, cq2, gb2, cg2, rfl, (get_other (get_other (get_other (get_other hk66 (by omega) _) (by omega) _) (by omega) _) (by omega) _), (get_other (get_other (get_other (get_other hk32 (by omega) _) (by omega) _) (by omega) _) (by omega) _), (get_other (get_other (get_other (get_set hk106 _) (by omega) _) (by omega) _) (by omega) _), (get_other (get_other (get_set (get_other hk108 (by omega) _) _) (by omega) _) (by omega) _), (get_other (get_other (get_other (get_other hk187 (by omega) _) (by omega) _) (by omega) _) (by omega) _), (get_other (get_set (get_other (get_other hk200 (by omega) _) (by omega) _) _) (by omega) _), (get_set (get_other (get_other (get_other hk288 (by omega) _) (by omega) _) (by omega) _) _), (get_other (get_other (get_other (get_other hk199 (by omega) _) (by omega) _) (by omega) _) (by omega) _), (get_other (get_other (get_other (get_other hk287 (by omega) _) (by omega) _) (by omega) _) (by omega) _), (get_other (get_other (get_other (get_other hk198 (by omega) _) (by omega) _) (by omega) _) (by omega) _), get_set hgen _, hQ⟩

def stepT1Post (pb : Nat) (PC : Array Value) (sb c n j tb cu : Nat) (src : Int) (ms : Nat) (MC : Array Value) (qb cq gb cg : Nat) (w0 : World) (X : Nat → Obj → Prop) (e : Ending) (w' : World) : Prop :=
  ∃ PC2 : Array Value, ∃ MC2 : Array Value, ∃ sb2 : Nat, ∃ c2 : Nat, ∃ tb2 : Nat, ∃ cu2 : Nat, ∃ qb2 : Nat, ∃ cq2 : Nat, ∃ gb2 : Nat, ∃ cg2 : Nat, e = .returned (.agg #[.int .u32 src, .int .u32 ((n : Int) + (j : Int))]) ∧ PC2[66]? = some (.int .u32 src) ∧ PC2[32]? = some (.bool true) ∧ PC2[106]? = some (.slice (some ⟨sb2, 0, none⟩) (n + (j + 1)) (n + (j + 1) + c2)) ∧ PC2[108]? = some (.slice (some ⟨tb2, 0, none⟩) (n + (j + 1)) (n + (j + 1) + cu2)) ∧ PC2[187]? = some (.pointer (some ⟨ms, 0, none⟩)) ∧ PC2[200]? = some (.slice (some ⟨qb2, 0, none⟩) (j + 1) (j + 1 + cq2)) ∧ PC2[288]? = some (.int .i64 ((j : Int) + 1)) ∧ PC2[199]? = some (.slice none 0 0) ∧ PC2[287]? = some (.int .i64 0) ∧ PC2[198]? = some (.slice none 0 0) ∧ MC2[5]? = some (.slice (some ⟨gb2, 0, none⟩) (j + 1) (j + 1 + cg2)) ∧ Own w0 w' [row (pb) 176 PC2, row (sb2) 183 (full symZ (symL (stJ n (j + 1))) c2), row (tb2) 22 (full u32Z (zU (n + (j + 1))) cu2), row (ms) 38 MC2, row (qb2) 185 (full trfZ (tqJ src n (j + 1)) cq2), row (gb2) 33 (full refZ (tgJ src n (j + 1)) cg2)] X
set_option maxRecDepth 100000 in
set_option maxHeartbeats 1000000 in
theorem stepT1 (pb : Nat) (PC : Array Value) (sb c n j tb cu : Nat) (src : Int) (ms : Nat) (MC : Array Value) (qb cq gb cg : Nat) (w0 w : World) (X : Nat → Obj → Prop) (hO : Own w0 w [row (pb) 176 PC, row (sb) 183 (full symZ (symL (stJ n j)) c), row (tb) 22 (full u32Z (zU (n + j)) cu), row (ms) 38 MC, row (qb) 185 (full trfZ (tqJ src n j) cq), row (gb) 33 (full refZ (tgJ src n j) cg)] X) (hk66 : PC[66]? = some (.int .u32 src)) (hk32 : PC[32]? = some (.bool true)) (hk106 : PC[106]? = some (.slice (some ⟨sb, 0, none⟩) (n + j) (n + j + c))) (hk108 : PC[108]? = some (.slice (some ⟨tb, 0, none⟩) (n + j) (n + j + cu))) (hk187 : PC[187]? = some (.pointer (some ⟨ms, 0, none⟩))) (hk200 : PC[200]? = some (.slice (some ⟨qb, 0, none⟩) j (j + cq))) (hk288 : PC[288]? = some (.int .i64 (j : Int))) (hk199 : PC[199]? = some (.slice none 0 0)) (hk287 : PC[287]? = some (.int .i64 0)) (hk198 : PC[198]? = some (.slice none 0 0)) (hgen : MC[5]? = some (.slice (some ⟨gb, 0, none⟩) j (j + cg))) (hn5 : n ≤ 100000) (hj5 : j ≤ 100000) (hg0 : w0.cell? ⟨0, 0, none⟩ = some (.int .u32 4294967295)) (hg1 : w0.cell? ⟨0, 1, none⟩ = some (.int .u32 4294967295)) :
    Calls Tryd.prog 7 #[.pointer (some ⟨pb, 0, none⟩)] w (stepT1Post pb PC sb c n j tb cu src ms MC qb cq gb cg w0 X) := by
  refine Calls.mono (dTTopT1 pb PC sb c (stJ n j) (n + j) tb (zU (n + j)) cu src j ms MC qb (tqJ src n j) cq gb (tgJ src n j) cg j w0 w X hO hk66 hk32 hk108 (zU_length _) hk106 (stJ_length _ _) (by omega) hk187 hk288 hk200 hgen (tqJ_length _ _ _) (tgJ_length _ _ _) hj5 (by omega) hg0 hg1) ?_
  rintro e w' ⟨sb2, c2, tb2, cu2, qb2, cq2, gb2, cg2, rfl, hQ⟩
  rw [stJ_succ, tqJ_succ, tgJ_succ, zU_succ] at hQ
  exact ⟨(((PC.setIfInBounds 106 (.slice (some ⟨sb2, 0, none⟩) (n + (j + 1)) (n + (j + 1) + c2))).setIfInBounds 108 (.slice (some ⟨tb2, 0, none⟩) (n + (j + 1)) (n + (j + 1) + cu2))).setIfInBounds 200 (.slice (some ⟨qb2, 0, none⟩) (j + 1) (j + 1 + cq2))).setIfInBounds 288 (.int .i64 ((j : Int) + 1)), MC.setIfInBounds 5 (.slice (some ⟨gb2, 0, none⟩) (j + 1) (j + 1 + cg2)), sb2, c2, tb2, cu2, qb2, cq2, gb2, cg2, rfl, (get_other (get_other (get_other (get_other hk66 (by omega) _) (by omega) _) (by omega) _) (by omega) _), (get_other (get_other (get_other (get_other hk32 (by omega) _) (by omega) _) (by omega) _) (by omega) _), (get_other (get_other (get_other (get_set hk106 _) (by omega) _) (by omega) _) (by omega) _), (get_other (get_other (get_set (get_other hk108 (by omega) _) _) (by omega) _) (by omega) _), (get_other (get_other (get_other (get_other hk187 (by omega) _) (by omega) _) (by omega) _) (by omega) _), (get_other (get_set (get_other (get_other hk200 (by omega) _) (by omega) _) _) (by omega) _), (get_set (get_other (get_other (get_other hk288 (by omega) _) (by omega) _) (by omega) _) _), (get_other (get_other (get_other (get_other hk199 (by omega) _) (by omega) _) (by omega) _) (by omega) _), (get_other (get_other (get_other (get_other hk287 (by omega) _) (by omega) _) (by omega) _) (by omega) _), (get_other (get_other (get_other (get_other hk198 (by omega) _) (by omega) _) (by omega) _) (by omega) _), get_set hgen _, hQ⟩

end Go.Proofs.YtkmojepgbbdeiaaDoor.Use
