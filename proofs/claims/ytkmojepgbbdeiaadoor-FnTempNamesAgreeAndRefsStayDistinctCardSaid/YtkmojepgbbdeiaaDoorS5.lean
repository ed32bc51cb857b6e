/- Row 41's steps, told alike. No condition. -/
import Derived.Test.YtkmojepgbbdeiaaDoorSnb
import Derived.Test.YtkmojepgbbdeiaaDoorSrf
import Derived.Test.YtkmojepgbbdeiaaDoorS41
import Derived.Test.YtkmojepgbbdeiaaDoorS41h
import Derived.Test.YtkmojepgbbdeiaaDoorSt
import Derived.Test.YtkmojepgbbdeiaaDoorLoop
import Derived.Test.YtkmojepgbbdeiaaDoorMno
import Derived.Test.YtkmojepgbbdeiaaDoorMini
import Derived.Test.YtkmojepgbbdeiaaDoorAppL
import Derived.Test.YtkmojepgbbdeiaaDoorApp
import Derived.Test.YtkmojepgbbdeiaaDoorOwnK
import Derived.Test.YtkmojepgbbdeiaaDoorOwn
import Derived.Test.YtkmojepgbbdeiaaDoorDeepCells
import Derived.Test.YtkmojepgbbdeiaaDoorRows
import Derived.Test.YtkmojepgbbdeiaaDoorLive
namespace Go.Proofs.YtkmojepgbbdeiaaDoor.Use
open Go.ChangeShapes Go.WideShapes Go.ChangeAt Go.RowKit Go.Sort Own
set_option linter.unusedVariables false
def s5RPost (pb : Nat) (PC : Array Value) (sb c s : Nat) (B : Nat → Bool) (j a : Nat) (src : Int) (ms : Nat) (MC : Array Value) (vo vc : Value) (gb cg : Nat) (w0 : World) (X : Nat → Obj → Prop) (e : Ending) (w' : World) : Prop :=
  ∃ PC2 : Array Value, ∃ MC2 : Array Value, ∃ sb2 : Nat, ∃ c2 : Nat, ∃ qb2 : Nat, ∃ cq2 : Nat, ∃ gb2 : Nat, ∃ cg2 : Nat, e = .returned (.agg #[.int .u32 src, .int .u32 (j : Int)]) ∧ PC2[66]? = some (.int .u32 src) ∧ PC2[32]? = some (.bool false) ∧ PC2[104]? = some (.pointer (some ⟨ms, 0, none⟩)) ∧ PC2[187]? = some (.pointer (some ⟨ms, 0, none⟩)) ∧ PC2[198]? = some (.slice none 0 0) ∧ PC2[200]? = some (vo) ∧ PC2[288]? = some (vc) ∧ PC2[106]? = some (.slice (some ⟨sb2, 0, none⟩) (j + 1) (j + 1 + c2)) ∧ PC2[199]? = some (.slice (some ⟨qb2, 0, none⟩) (a + 1) (a + 1 + cq2)) ∧ PC2[287]? = some (.int .i64 ((s : Int) + (a : Int) + 1)) ∧ MC2[15]? = some (.int .u8 6) ∧ MC2[5]? = some (.slice (some ⟨gb2, 0, none⟩) (j + 1) (j + 1 + cg2)) ∧ Own w0 w' [row (pb) 176 PC2, row (sb2) 183 (full symZ (symL (stB s B (j + 1))) c2), row (ms) 38 MC2, row (qb2) 185 (full trfZ (qS src B true (j + 1)) cq2), row (gb2) 33 (full refZ (gL src (j + 1)) cg2)] X
set_option maxRecDepth 100000 in
theorem s5R (pb : Nat) (PC : Array Value) (sb c s : Nat) (B : Nat → Bool) (j a : Nat) (src : Int) (ms : Nat) (MC : Array Value) (vo vc : Value) (gb cg : Nat) (w0 w : World) (X : Nat → Obj → Prop) (hO : Own w0 w [row (pb) 176 PC, row (sb) 183 (full symZ (symL (stB s B j)) c), row (ms) 38 MC, row (gb) 33 (full refZ (gL src j) cg)] X) (hk66 : PC[66]? = some (.int .u32 src)) (hk32 : PC[32]? = some (.bool false)) (hk104 : PC[104]? = some (.pointer (some ⟨ms, 0, none⟩))) (hk187 : PC[187]? = some (.pointer (some ⟨ms, 0, none⟩))) (hk198 : PC[198]? = some (.slice none 0 0)) (hk200 : PC[200]? = some (vo)) (hk288 : PC[288]? = some (vc)) (hk106 : PC[106]? = some (.slice (some ⟨sb, 0, none⟩) j (j + c))) (hk199 : PC[199]? = some (.slice none 0 0)) (hk287 : PC[287]? = some (.int .i64 ((s : Int) + (a : Int)))) (hkind : MC[15]? = some (.int .u8 6)) (hgen : MC[5]? = some (.slice (some ⟨gb, 0, none⟩) j (j + cg))) (hbj : B j = true) (hs5 : s ≤ 70000) (hj5 : j ≤ 10000) (ha : cn B true j = a) (hg0 : w0.cell? ⟨0, 0, none⟩ = some (.int .u32 4294967295)) (hg1 : w0.cell? ⟨0, 1, none⟩ = some (.int .u32 4294967295)) (ha0 : a = 0) :
    Calls Tryd.prog 19 #[.pointer (some ⟨pb, 0, none⟩), .int .i64 0, .string ⟨#[]⟩] w (s5RPost pb PC sb c s B j a src ms MC vo vc gb cg w0 X) := by
  subst ha0
  exact s4R01 pb PC sb c s B j src ms MC vo vc gb cg w0 w X hO hk66 hk32 hk104 hk187 hk198 hk200 hk288 hk106 hk199 hk287 hkind hgen hbj hs5 hj5 ha hg0 hg1

def s5LPost (pb : Nat) (PC : Array Value) (sb c s : Nat) (B : Nat → Bool) (j a : Nat) (src : Int) (ms : Nat) (MC : Array Value) (vo vc : Value) (gb cg : Nat) (w0 : World) (X : Nat → Obj → Prop) (e : Ending) (w' : World) : Prop :=
  ∃ PC2 : Array Value, ∃ MC2 : Array Value, ∃ sb2 : Nat, ∃ c2 : Nat, ∃ qb2 : Nat, ∃ cq2 : Nat, ∃ gb2 : Nat, ∃ cg2 : Nat, e = .returned (.agg #[.int .u32 src, .int .u32 (j : Int)]) ∧ PC2[66]? = some (.int .u32 src) ∧ PC2[32]? = some (.bool false) ∧ PC2[104]? = some (.pointer (some ⟨ms, 0, none⟩)) ∧ PC2[187]? = some (.pointer (some ⟨ms, 0, none⟩)) ∧ PC2[198]? = some (.slice none 0 0) ∧ PC2[199]? = some (vo) ∧ PC2[287]? = some (vc) ∧ PC2[106]? = some (.slice (some ⟨sb2, 0, none⟩) (j + 1) (j + 1 + c2)) ∧ PC2[200]? = some (.slice (some ⟨qb2, 0, none⟩) (a + 1) (a + 1 + cq2)) ∧ PC2[288]? = some (.int .i64 ((s : Int) + (a : Int) + 1)) ∧ MC2[15]? = some (.int .u8 6) ∧ MC2[5]? = some (.slice (some ⟨gb2, 0, none⟩) (j + 1) (j + 1 + cg2)) ∧ Own w0 w' [row (pb) 176 PC2, row (sb2) 183 (full symZ (symL (stB s B (j + 1))) c2), row (ms) 38 MC2, row (qb2) 185 (full trfZ (qS src B false (j + 1)) cq2), row (gb2) 33 (full refZ (gL src (j + 1)) cg2)] X
set_option maxRecDepth 100000 in
theorem s5L (pb : Nat) (PC : Array Value) (sb c s : Nat) (B : Nat → Bool) (j a : Nat) (src : Int) (ms : Nat) (MC : Array Value) (vo vc : Value) (gb cg : Nat) (w0 w : World) (X : Nat → Obj → Prop) (hO : Own w0 w [row (pb) 176 PC, row (sb) 183 (full symZ (symL (stB s B j)) c), row (ms) 38 MC, row (gb) 33 (full refZ (gL src j) cg)] X) (hk66 : PC[66]? = some (.int .u32 src)) (hk32 : PC[32]? = some (.bool false)) (hk104 : PC[104]? = some (.pointer (some ⟨ms, 0, none⟩))) (hk187 : PC[187]? = some (.pointer (some ⟨ms, 0, none⟩))) (hk198 : PC[198]? = some (.slice none 0 0)) (hk199 : PC[199]? = some (vo)) (hk287 : PC[287]? = some (vc)) (hk106 : PC[106]? = some (.slice (some ⟨sb, 0, none⟩) j (j + c))) (hk200 : PC[200]? = some (.slice none 0 0)) (hk288 : PC[288]? = some (.int .i64 ((s : Int) + (a : Int)))) (hkind : MC[15]? = some (.int .u8 6)) (hgen : MC[5]? = some (.slice (some ⟨gb, 0, none⟩) j (j + cg))) (hbj : B j = false) (hs5 : s ≤ 70000) (hj5 : j ≤ 10000) (ha : cn B false j = a) (hg0 : w0.cell? ⟨0, 0, none⟩ = some (.int .u32 4294967295)) (hg1 : w0.cell? ⟨0, 1, none⟩ = some (.int .u32 4294967295)) (ha0 : a = 0) :
    Calls Tryd.prog 7 #[.pointer (some ⟨pb, 0, none⟩)] w (s5LPost pb PC sb c s B j a src ms MC vo vc gb cg w0 X) := by
  subst ha0
  exact s4L01 pb PC sb c s B j src ms MC vo vc gb cg w0 w X hO hk66 hk32 hk104 hk187 hk198 hk199 hk287 hk106 hk200 hk288 hkind hgen hbj hs5 hj5 ha hg0 hg1

def sameRefs2Post (ba bb cb m : Nat) (w0 : World) (X : Nat → Obj → Prop) (e : Ending) (w' : World) : Prop :=
  e = .returned (.bool true) ∧ Own w0 w' [] X
theorem sameRefs2 (ba bb cb m : Nat) (w0 w : World) (X : Nat → Obj → Prop) (hO : Own w0 w [] X) (hm0 : m = 0) :
    Calls Tryd.prog 21 #[.slice (some ⟨ba, 0, none⟩) 0 0, .slice (some ⟨bb, 0, none⟩) m (m + cb)] w (sameRefs2Post ba bb cb m w0 X) := by
  subst hm0
  exact sameRefs0 (some ⟨ba, 0, none⟩) (some ⟨bb, 0, none⟩) 0 (0 + cb) w0 w X hO

end Go.Proofs.YtkmojepgbbdeiaaDoor.Use
