/- newSymbol, TypeScript or not, told alike. No condition. -/
import Derived.Test.YtkmojepgbbdeiaaDoorAsd
import Derived.Test.YtkmojepgbbdeiaaDoorMno
import Derived.Test.YtkmojepgbbdeiaaDoorMini
import Derived.Test.YtkmojepgbbdeiaaDoorAppL
import Derived.Test.YtkmojepgbbdeiaaDoorApp
import Derived.Test.YtkmojepgbbdeiaaDoorOwnK
import Derived.Test.YtkmojepgbbdeiaaDoorOwn
import Derived.Test.YtkmojepgbbdeiaaDoorDeepCells
import Derived.Test.YtkmojepgbbdeiaaDoorRows
import Derived.Test.YtkmojepgbbdeiaaDoorLive
namespace Go.Proofs.YtkmojepgbbdeiaaDoor.Use
open Go.ChangeShapes Go.WideShapes Go.ChangeAt Go.RowKit Go.Sort Own
set_option linter.unusedVariables false
/-- The TypeScript use counts: none when TypeScript is not parsed. -/
def tsS (ts : Bool) (b n c : Nat) : Value := match ts with
  | true => .slice (some ⟨b, 0, none⟩) n (n + c)
  | false => .slice none 0 0
def optT (ts : Bool) (r : Rw) : List Rw := match ts with
  | true => [r]
  | false => []
theorem perm1 (A R T : List Rw) : ((A ++ R) ++ T).Perm ((A ++ T) ++ R) := by
  rw [List.append_assoc, List.append_assoc]
  exact List.Perm.append_left A List.perm_append_comm
/-- A cell of a block that stands in the frame. -/
theorem _root_.Go.Proofs.YtkmojepgbbdeiaaDoor.Own.Own.fcell {w0 w : World} {L : List Rw} {X : Nat → Obj → Prop} (h : Own w0 w L X) {b : Nat} {t : TypeId} {c : Array Value} (hx : X b (.cells c t (0, 0))) (o : Nat) {v : Value} (hv : c[o]? = some v) : w.cell? ⟨b, o, none⟩ = some v :=
  Base.RowAt.cell (show Base.RowAt w b t c from (h.frame b _ hx).2.1) hv

def newSymUPost (pb : Nat) (PC : Array Value) (sb c : Nat) (st : List Sy) (n tb : Nat) (TU : List Value) (cu : Nat) (ts : Bool) (src kd : Int) (nm : ByteArray) (xv104 xv187 xv200 xv288 xv287 xv199 xv198 : Value) (w0 : World) (X : Nat → Obj → Prop) (e : Ending) (w' : World) : Prop :=
  ∃ PC2 : Array Value, ∃ sb2 : Nat, ∃ c2 : Nat, ∃ tb2 : Nat, ∃ cu2 : Nat, e = .returned (.agg #[.int .u32 src, .int .u32 (n : Int)]) ∧ PC2[66]? = some (.int .u32 src) ∧ PC2[32]? = some (.bool ts) ∧ PC2[108]? = some (tsS ts tb2 (n + 1) cu2) ∧ PC2[106]? = some (.slice (some ⟨sb2, 0, none⟩) (n + 1) (n + 1 + c2)) ∧ PC2[104]? = some (xv104) ∧ PC2[187]? = some (xv187) ∧ PC2[200]? = some (xv200) ∧ PC2[288]? = some (xv288) ∧ PC2[287]? = some (xv287) ∧ PC2[199]? = some (xv199) ∧ PC2[198]? = some (xv198) ∧ Own w0 w' ([row (pb) 176 PC2, row (sb2) 183 (full symZ (symL (st ++ [syk nm kd])) c2)] ++ (optT ts (row (tb2) 22 (full u32Z (TU ++ [.int .u32 0]) cu2)))) X
set_option maxRecDepth 100000 in
theorem newSymU (pb : Nat) (PC : Array Value) (sb c : Nat) (st : List Sy) (n tb : Nat) (TU : List Value) (cu : Nat) (ts : Bool) (src kd : Int) (nm : ByteArray) (xv104 xv187 xv200 xv288 xv287 xv199 xv198 : Value) (w0 w : World) (X : Nat → Obj → Prop) (hO : Own w0 w ([row (pb) 176 PC, row (sb) 183 (full symZ (symL st) c)] ++ (optT ts (row (tb) 22 (full u32Z TU cu)))) X) (hk66 : PC[66]? = some (.int .u32 src)) (hk32 : PC[32]? = some (.bool ts)) (hk108 : PC[108]? = some (tsS ts tb n cu)) (htl : TU.length = n) (hk106 : PC[106]? = some (.slice (some ⟨sb, 0, none⟩) n (n + c))) (hn : st.length = n) (hnb : n ≤ 2000000) (hk104 : PC[104]? = some (xv104)) (hk187 : PC[187]? = some (xv187)) (hk200 : PC[200]? = some (xv200)) (hk288 : PC[288]? = some (xv288)) (hk287 : PC[287]? = some (xv287)) (hk199 : PC[199]? = some (xv199)) (hk198 : PC[198]? = some (xv198)) (hg0 : w0.cell? ⟨0, 0, none⟩ = some (.int .u32 4294967295)) (hg1 : w0.cell? ⟨0, 1, none⟩ = some (.int .u32 4294967295)) :
    Calls Tryd.prog 25 #[.pointer (some ⟨pb, 0, none⟩), .int .u8 kd, .string nm] w (newSymUPost pb PC sb c st n tb TU cu ts src kd nm xv104 xv187 xv200 xv288 xv287 xv199 xv198 w0 X) := by
  cases ts
  · have hP : Own w0 w [row (pb) 176 PC, row (sb) 183 (full symZ (symL st) c)] X := hO.conv rfl
    refine Calls.mono (newSymG pb PC sb c st n src kd nm w0 w X hP hk66 hk32 hk106 hn hnb hg0 hg1) ?_
    rintro e w' ⟨sb2, c2, rfl, hQ⟩
    exact ⟨PC.setIfInBounds 106 (.slice (some ⟨sb2, 0, none⟩) (n + 1) (n + 1 + c2)), sb2, c2, 0, 0, rfl, (get_other hk66 (by omega) _), (get_other hk32 (by omega) _), (get_other hk108 (by omega) _), (get_set hk106 _), (get_other hk104 (by omega) _), (get_other hk187 (by omega) _), (get_other hk200 (by omega) _), (get_other hk288 (by omega) _), (get_other hk287 (by omega) _), (get_other hk199 (by omega) _), (get_other hk198 (by omega) _), hQ.conv rfl⟩
  · have hP : Own w0 w [row (pb) 176 PC, row (sb) 183 (full symZ (symL st) c), row (tb) 22 (full u32Z TU cu)] X := hO.conv rfl
    refine Calls.mono (newSymT pb PC sb c st n tb TU cu src kd nm w0 w X hP hk66 hk32 hk108 htl hk106 hn hnb hg0 hg1) ?_
    rintro e w' ⟨sb2, c2, tb2, cu2, rfl, hQ⟩
    exact ⟨(PC.setIfInBounds 106 (.slice (some ⟨sb2, 0, none⟩) (n + 1) (n + 1 + c2))).setIfInBounds 108 (.slice (some ⟨tb2, 0, none⟩) (n + 1) (n + 1 + cu2)), sb2, c2, tb2, cu2, rfl, (get_other (get_other hk66 (by omega) _) (by omega) _), (get_other (get_other hk32 (by omega) _) (by omega) _), (get_set (get_other hk108 (by omega) _) _), (get_other (get_set hk106 _) (by omega) _), (get_other (get_other hk104 (by omega) _) (by omega) _), (get_other (get_other hk187 (by omega) _) (by omega) _), (get_other (get_other hk200 (by omega) _) (by omega) _), (get_other (get_other hk288 (by omega) _) (by omega) _), (get_other (get_other hk287 (by omega) _) (by omega) _), (get_other (get_other hk199 (by omega) _) (by omega) _), (get_other (get_other hk198 (by omega) _) (by omega) _), hQ.conv rfl⟩

end Go.Proofs.YtkmojepgbbdeiaaDoor.Use
