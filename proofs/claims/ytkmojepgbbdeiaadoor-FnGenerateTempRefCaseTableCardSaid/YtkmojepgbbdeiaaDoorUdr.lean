/- generateTempRef's door and newParser, told once for any name and either flag. No condition. -/
import Derived.Test.YtkmojepgbbdeiaaDoorDu
import Derived.Test.YtkmojepgbbdeiaaDoorMno
import Derived.Test.YtkmojepgbbdeiaaDoorNewP
import Derived.Test.YtkmojepgbbdeiaaDoorTs
import Derived.Test.YtkmojepgbbdeiaaDoorMini
import Derived.Test.YtkmojepgbbdeiaaDoorAppL
import Derived.Test.YtkmojepgbbdeiaaDoorApp
import Derived.Test.YtkmojepgbbdeiaaDoorOwnK
import Derived.Test.YtkmojepgbbdeiaaDoorOwn
import Derived.Test.YtkmojepgbbdeiaaDoorDeepCells
import Derived.Test.YtkmojepgbbdeiaaDoorRows
import Derived.Test.YtkmojepgbbdeiaaDoorLive
namespace Go.Proofs.YtkmojepgbbdeiaaDoor.Use
open Go.ChangeShapes Go.WideShapes Go.ChangeAt Go.RowKit Go.Sort Own
set_option linter.unusedVariables false
def nmO (i : Nat) (nmx : ByteArray) : ByteArray := if nmx.size = 0 then tn i else nmx
def trO (i : Nat) (nmx : ByteArray) : Int := if nmx.size = 0 then (i : Int) + 1 else (i : Int)
theorem nmO_e (i : Nat) : nmO i ⟨#[]⟩ = tn i := rfl
theorem trO_e (i : Nat) : trO i ⟨#[]⟩ = (i : Int) + 1 := rfl
theorem nmO_g {i : Nat} {nmx : ByteArray} (h : 0 < nmx.size) : nmO i nmx = nmx := if_neg (by omega)
theorem trO_g {i : Nat} {nmx : ByteArray} (h : 0 < nmx.size) : trO i nmx = (i : Int) := if_neg (by omega)
theorem nil_of_size {nmx : ByteArray} (h : ¬ 0 < nmx.size) : nmx = ⟨#[]⟩ := by
  obtain ⟨d⟩ := nmx
  have h2 : d.size = 0 := by
    have h3 : (⟨d⟩ : ByteArray).size = d.size := rfl
    omega
  rw [Array.size_eq_zero_iff.1 h2]

/-- What is left of a sequence behind its first n parts. -/
def cutC : Nat → Code → Code
  | 0, c => c
  | n + 1, .seq _ b => cutC n b
  | _ + 1, c => c
/-- The law's code from its look at the scopes on. -/
noncomputable def rest48 : Code := cutC 22 (Tryd.f5.body.getD .skip)
def l48Post (w0 : World) (X : Nat → Obj → Prop) (e : Ending) (w' : World) : Prop := e = .returned (.bool true) ∧ Own w0 w' [] X

def uvAPost (pb : Nat) (PC : Array Value) (sb c : Nat) (st : List Sy) (n tb : Nat) (TU : List Value) (cu : Nat) (ts : Bool) (src : Int) (i ms : Nat) (MC : Array Value) (vm vr vc vp : Value) (blk : Nat → Nat) (d : Nat) (SA : Nat → Array Value) (nmx : ByteArray) (w0 : World) (X : Nat → Obj → Prop) (e : Ending) (w' : World) : Prop :=
  ∃ PC2 : Array Value, ∃ MC2 : Array Value, ∃ sb2 : Nat, ∃ c2 : Nat, ∃ tb2 : Nat, ∃ cu2 : Nat, ∃ qb2 : Nat, ∃ cq2 : Nat, ∃ gb2 : Nat, ∃ cg2 : Nat, e = .returned (.agg #[.int .u32 src, .int .u32 (n : Int)]) ∧ PC2[66]? = some (.int .u32 src) ∧ PC2[32]? = some (.bool ts) ∧ PC2[108]? = some (tsS ts tb2 (n + 1) cu2) ∧ PC2[106]? = some (.slice (some ⟨sb2, 0, none⟩) (n + 1) (n + 1 + c2)) ∧ PC2[104]? = some (.pointer (some ⟨blk d, 0, none⟩)) ∧ PC2[187]? = some (vm) ∧ PC2[200]? = some (vr) ∧ PC2[288]? = some (vc) ∧ PC2[287]? = some (.int .i64 (trO i nmx)) ∧ PC2[199]? = some (.slice (some ⟨qb2, 0, none⟩) 1 (1 + cq2)) ∧ PC2[198]? = some (.slice none 0 0) ∧ MC2[15]? = some (.int .u8 8) ∧ MC2[5]? = some (.slice (some ⟨gb2, 0, none⟩) 1 (1 + cg2)) ∧ MC2[1]? = some (vp) ∧ Own w0 w' ([row (pb) 176 PC2, row (sb2) 183 (full symZ (symL (st ++ [syk (nmO i nmx) 27])) c2), row (ms) 38 MC2, row (qb2) 185 (full trfZ ([.nilIface, .int .i32 0, .int .u32 src, .int .u32 (n : Int)]) cq2), row (gb2) 33 (full refZ ([.int .u32 src, .int .u32 (n : Int)]) cg2)] ++ (optT ts (row (tb2) 22 (full u32Z (TU ++ [.int .u32 0]) cu2)))) X
set_option maxRecDepth 100000 in
theorem uvA (pb : Nat) (PC : Array Value) (sb c : Nat) (st : List Sy) (n tb : Nat) (TU : List Value) (cu : Nat) (ts : Bool) (src : Int) (i ms : Nat) (MC : Array Value) (vm vr vc vp : Value) (blk : Nat → Nat) (d : Nat) (SA : Nat → Array Value) (nmx : ByteArray) (w0 w : World) (X : Nat → Obj → Prop) (hO : Own w0 w ([row (pb) 176 PC, row (sb) 183 (full symZ (symL st) c), row (ms) 38 MC] ++ (optT ts (row (tb) 22 (full u32Z TU cu)))) X) (hk66 : PC[66]? = some (.int .u32 src)) (hk32 : PC[32]? = some (.bool ts)) (hk108 : PC[108]? = some (tsS ts tb n cu)) (htl : TU.length = n) (hk106 : PC[106]? = some (.slice (some ⟨sb, 0, none⟩) n (n + c))) (hn : st.length = n) (hnb : n ≤ 2000000) (hk104 : PC[104]? = some (.pointer (some ⟨blk d, 0, none⟩))) (hk187 : PC[187]? = some (vm)) (hk200 : PC[200]? = some (vr)) (hk288 : PC[288]? = some (vc)) (hk287 : PC[287]? = some (.int .i64 (i : Int))) (hk199 : PC[199]? = some (.slice none 0 0)) (hk198 : PC[198]? = some (.slice none 0 0)) (hkind : MC[15]? = some (.int .u8 8)) (hgen : MC[5]? = some (.slice none 0 0)) (hpar : MC[1]? = some (vp)) (hi : i ≤ 100000) (hb0 : blk 0 = ms) (hch : ∀ k, k < d → X (blk (k + 1)) (.cells (SA k) 38 (0, 0)) ∧ (SA k)[15]? = some (.int .u8 0) ∧ (SA k)[1]? = some (.pointer (some ⟨blk k, 0, none⟩))) (hg0 : w0.cell? ⟨0, 0, none⟩ = some (.int .u32 4294967295)) (hg1 : w0.cell? ⟨0, 1, none⟩ = some (.int .u32 4294967295)) :
    Calls Tryd.prog 19 #[.pointer (some ⟨pb, 0, none⟩), .int .i64 0, .string nmx] w (uvAPost pb PC sb c st n tb TU cu ts src i ms MC vm vr vc vp blk d SA nmx w0 X) := by
  by_cases hng : 0 < nmx.size
  · skip
    refine Calls.mono (duAg pb PC sb c st n tb TU cu ts src i ms MC vm vr vc vp blk d SA nmx w0 w X hO hk66 hk32 hk108 htl hk106 hn hnb hk104 hk187 hk200 hk288 hk287 hk199 hk198 hkind hgen hpar hi hb0 hch hng hg0 hg1) ?_
    rintro e w' ⟨PC2, MC2, sb2, c2, tb2, cu2, qb2, cq2, gb2, cg2, rfl, p0, p1, p2, p3, p4, p5, p6, p7, p8, p9, p10, p11, p12, p13, hQ⟩
    exact ⟨PC2, MC2, sb2, c2, tb2, cu2, qb2, cq2, gb2, cg2, rfl, p0, p1, p2, p3, p4, p5, p6, p7, (by rw [trO_g hng]; exact p8), p9, p10, p11, p12, p13, by rw [nmO_g hng]; exact hQ⟩
  · obtain rfl := nil_of_size hng
    refine Calls.mono (duAe pb PC sb c st n tb TU cu ts src i ms MC vm vr vc vp blk d SA w0 w X hO hk66 hk32 hk108 htl hk106 hn hnb hk104 hk187 hk200 hk288 hk287 hk199 hk198 hkind hgen hpar hi hb0 hch hg0 hg1) ?_
    rintro e w' ⟨PC2, MC2, sb2, c2, tb2, cu2, qb2, cq2, gb2, cg2, rfl, p0, p1, p2, p3, p4, p5, p6, p7, p8, p9, p10, p11, p12, p13, hQ⟩
    exact ⟨PC2, MC2, sb2, c2, tb2, cu2, qb2, cq2, gb2, cg2, rfl, p0, p1, p2, p3, p4, p5, p6, p7, (by rw [trO_e]; exact p8), p9, p10, p11, p12, p13, by rw [nmO_e]; exact hQ⟩

def uvBPost (pb : Nat) (PC : Array Value) (sb c : Nat) (st : List Sy) (n tb : Nat) (TU : List Value) (cu : Nat) (ts : Bool) (src : Int) (i ms : Nat) (MC : Array Value) (vm vr vc vp : Value) (blk : Nat → Nat) (d : Nat) (SA : Nat → Array Value) (nmx : ByteArray) (w0 : World) (X : Nat → Obj → Prop) (e : Ending) (w' : World) : Prop :=
  ∃ PC2 : Array Value, ∃ MC2 : Array Value, ∃ sb2 : Nat, ∃ c2 : Nat, ∃ tb2 : Nat, ∃ cu2 : Nat, ∃ gb2 : Nat, ∃ cg2 : Nat, e = .returned (.agg #[.int .u32 src, .int .u32 (n : Int)]) ∧ PC2[66]? = some (.int .u32 src) ∧ PC2[32]? = some (.bool ts) ∧ PC2[108]? = some (tsS ts tb2 (n + 1) cu2) ∧ PC2[106]? = some (.slice (some ⟨sb2, 0, none⟩) (n + 1) (n + 1 + c2)) ∧ PC2[104]? = some (.pointer (some ⟨blk d, 0, none⟩)) ∧ PC2[187]? = some (vm) ∧ PC2[200]? = some (vr) ∧ PC2[288]? = some (vc) ∧ PC2[287]? = some (.int .i64 (trO i nmx)) ∧ PC2[199]? = some (.slice none 0 0) ∧ PC2[198]? = some (.slice none 0 0) ∧ MC2[15]? = some (.int .u8 8) ∧ MC2[5]? = some (.slice (some ⟨gb2, 0, none⟩) 1 (1 + cg2)) ∧ MC2[1]? = some (vp) ∧ Own w0 w' ([row (pb) 176 PC2, row (sb2) 183 (full symZ (symL (st ++ [syk (nmO i nmx) 27])) c2), row (ms) 38 MC2, row (gb2) 33 (full refZ ([.int .u32 src, .int .u32 (n : Int)]) cg2)] ++ (optT ts (row (tb2) 22 (full u32Z (TU ++ [.int .u32 0]) cu2)))) X
set_option maxRecDepth 100000 in
theorem uvB (pb : Nat) (PC : Array Value) (sb c : Nat) (st : List Sy) (n tb : Nat) (TU : List Value) (cu : Nat) (ts : Bool) (src : Int) (i ms : Nat) (MC : Array Value) (vm vr vc vp : Value) (blk : Nat → Nat) (d : Nat) (SA : Nat → Array Value) (nmx : ByteArray) (w0 w : World) (X : Nat → Obj → Prop) (hO : Own w0 w ([row (pb) 176 PC, row (sb) 183 (full symZ (symL st) c), row (ms) 38 MC] ++ (optT ts (row (tb) 22 (full u32Z TU cu)))) X) (hk66 : PC[66]? = some (.int .u32 src)) (hk32 : PC[32]? = some (.bool ts)) (hk108 : PC[108]? = some (tsS ts tb n cu)) (htl : TU.length = n) (hk106 : PC[106]? = some (.slice (some ⟨sb, 0, none⟩) n (n + c))) (hn : st.length = n) (hnb : n ≤ 2000000) (hk104 : PC[104]? = some (.pointer (some ⟨blk d, 0, none⟩))) (hk187 : PC[187]? = some (vm)) (hk200 : PC[200]? = some (vr)) (hk288 : PC[288]? = some (vc)) (hk287 : PC[287]? = some (.int .i64 (i : Int))) (hk199 : PC[199]? = some (.slice none 0 0)) (hk198 : PC[198]? = some (.slice none 0 0)) (hkind : MC[15]? = some (.int .u8 8)) (hgen : MC[5]? = some (.slice none 0 0)) (hpar : MC[1]? = some (vp)) (hi : i ≤ 100000) (hb0 : blk 0 = ms) (hch : ∀ k, k < d → X (blk (k + 1)) (.cells (SA k) 38 (0, 0)) ∧ (SA k)[15]? = some (.int .u8 0) ∧ (SA k)[1]? = some (.pointer (some ⟨blk k, 0, none⟩))) (hg0 : w0.cell? ⟨0, 0, none⟩ = some (.int .u32 4294967295)) (hg1 : w0.cell? ⟨0, 1, none⟩ = some (.int .u32 4294967295)) :
    Calls Tryd.prog 19 #[.pointer (some ⟨pb, 0, none⟩), .int .i64 1, .string nmx] w (uvBPost pb PC sb c st n tb TU cu ts src i ms MC vm vr vc vp blk d SA nmx w0 X) := by
  by_cases hng : 0 < nmx.size
  · skip
    refine Calls.mono (duBg pb PC sb c st n tb TU cu ts src i ms MC vm vr vc vp blk d SA nmx w0 w X hO hk66 hk32 hk108 htl hk106 hn hnb hk104 hk187 hk200 hk288 hk287 hk199 hk198 hkind hgen hpar hi hb0 hch hng hg0 hg1) ?_
    rintro e w' ⟨PC2, MC2, sb2, c2, tb2, cu2, gb2, cg2, rfl, p0, p1, p2, p3, p4, p5, p6, p7, p8, p9, p10, p11, p12, p13, hQ⟩
    exact ⟨PC2, MC2, sb2, c2, tb2, cu2, gb2, cg2, rfl, p0, p1, p2, p3, p4, p5, p6, p7, (by rw [trO_g hng]; exact p8), p9, p10, p11, p12, p13, by rw [nmO_g hng]; exact hQ⟩
  · obtain rfl := nil_of_size hng
    refine Calls.mono (duBe pb PC sb c st n tb TU cu ts src i ms MC vm vr vc vp blk d SA w0 w X hO hk66 hk32 hk108 htl hk106 hn hnb hk104 hk187 hk200 hk288 hk287 hk199 hk198 hkind hgen hpar hi hb0 hch hg0 hg1) ?_
    rintro e w' ⟨PC2, MC2, sb2, c2, tb2, cu2, gb2, cg2, rfl, p0, p1, p2, p3, p4, p5, p6, p7, p8, p9, p10, p11, p12, p13, hQ⟩
    exact ⟨PC2, MC2, sb2, c2, tb2, cu2, gb2, cg2, rfl, p0, p1, p2, p3, p4, p5, p6, p7, (by rw [trO_e]; exact p8), p9, p10, p11, p12, p13, by rw [nmO_e]; exact hQ⟩

def uvCPost (pb : Nat) (PC : Array Value) (sb c : Nat) (st : List Sy) (n tb : Nat) (TU : List Value) (cu : Nat) (ts : Bool) (src : Int) (i ms : Nat) (MC : Array Value) (vm vr vc vp : Value) (nmx : ByteArray) (w0 : World) (X : Nat → Obj → Prop) (e : Ending) (w' : World) : Prop :=
  ∃ PC2 : Array Value, ∃ MC2 : Array Value, ∃ sb2 : Nat, ∃ c2 : Nat, ∃ tb2 : Nat, ∃ cu2 : Nat, ∃ qb2 : Nat, ∃ cq2 : Nat, ∃ gb2 : Nat, ∃ cg2 : Nat, e = .returned (.agg #[.int .u32 src, .int .u32 (n : Int)]) ∧ PC2[66]? = some (.int .u32 src) ∧ PC2[32]? = some (.bool ts) ∧ PC2[108]? = some (tsS ts tb2 (n + 1) cu2) ∧ PC2[106]? = some (.slice (some ⟨sb2, 0, none⟩) (n + 1) (n + 1 + c2)) ∧ PC2[104]? = some (.pointer (some ⟨ms, 0, none⟩)) ∧ PC2[187]? = some (vm) ∧ PC2[200]? = some (vr) ∧ PC2[288]? = some (vc) ∧ PC2[287]? = some (.int .i64 (trO i nmx)) ∧ PC2[199]? = some (.slice (some ⟨qb2, 0, none⟩) 1 (1 + cq2)) ∧ PC2[198]? = some (.slice none 0 0) ∧ MC2[15]? = some (.int .u8 8) ∧ MC2[5]? = some (.slice (some ⟨gb2, 0, none⟩) 1 (1 + cg2)) ∧ MC2[1]? = some (vp) ∧ Own w0 w' ([row (pb) 176 PC2, row (sb2) 183 (full symZ (symL (st ++ [syk (nmO i nmx) 27])) c2), row (ms) 38 MC2, row (qb2) 185 (full trfZ ([.nilIface, .int .i32 0, .int .u32 src, .int .u32 (n : Int)]) cq2), row (gb2) 33 (full refZ ([.int .u32 src, .int .u32 (n : Int)]) cg2)] ++ (optT ts (row (tb2) 22 (full u32Z (TU ++ [.int .u32 0]) cu2)))) X
set_option maxRecDepth 100000 in
theorem uvC (pb : Nat) (PC : Array Value) (sb c : Nat) (st : List Sy) (n tb : Nat) (TU : List Value) (cu : Nat) (ts : Bool) (src : Int) (i ms : Nat) (MC : Array Value) (vm vr vc vp : Value) (nmx : ByteArray) (w0 w : World) (X : Nat → Obj → Prop) (hO : Own w0 w ([row (pb) 176 PC, row (sb) 183 (full symZ (symL st) c), row (ms) 38 MC] ++ (optT ts (row (tb) 22 (full u32Z TU cu)))) X) (hk66 : PC[66]? = some (.int .u32 src)) (hk32 : PC[32]? = some (.bool ts)) (hk108 : PC[108]? = some (tsS ts tb n cu)) (htl : TU.length = n) (hk106 : PC[106]? = some (.slice (some ⟨sb, 0, none⟩) n (n + c))) (hn : st.length = n) (hnb : n ≤ 2000000) (hk104 : PC[104]? = some (.pointer (some ⟨ms, 0, none⟩))) (hk187 : PC[187]? = some (vm)) (hk200 : PC[200]? = some (vr)) (hk288 : PC[288]? = some (vc)) (hk287 : PC[287]? = some (.int .i64 (i : Int))) (hk199 : PC[199]? = some (.slice none 0 0)) (hk198 : PC[198]? = some (.slice none 0 0)) (hkind : MC[15]? = some (.int .u8 8)) (hgen : MC[5]? = some (.slice none 0 0)) (hpar : MC[1]? = some (vp)) (hi : i ≤ 100000) (hg0 : w0.cell? ⟨0, 0, none⟩ = some (.int .u32 4294967295)) (hg1 : w0.cell? ⟨0, 1, none⟩ = some (.int .u32 4294967295)) :
    Calls Tryd.prog 19 #[.pointer (some ⟨pb, 0, none⟩), .int .i64 2, .string nmx] w (uvCPost pb PC sb c st n tb TU cu ts src i ms MC vm vr vc vp nmx w0 X) := by
  by_cases hng : 0 < nmx.size
  · skip
    refine Calls.mono (duCg pb PC sb c st n tb TU cu ts src i ms MC vm vr vc vp nmx w0 w X hO hk66 hk32 hk108 htl hk106 hn hnb hk104 hk187 hk200 hk288 hk287 hk199 hk198 hkind hgen hpar hi hng hg0 hg1) ?_
    rintro e w' ⟨PC2, MC2, sb2, c2, tb2, cu2, qb2, cq2, gb2, cg2, rfl, p0, p1, p2, p3, p4, p5, p6, p7, p8, p9, p10, p11, p12, p13, hQ⟩
    exact ⟨PC2, MC2, sb2, c2, tb2, cu2, qb2, cq2, gb2, cg2, rfl, p0, p1, p2, p3, p4, p5, p6, p7, (by rw [trO_g hng]; exact p8), p9, p10, p11, p12, p13, by rw [nmO_g hng]; exact hQ⟩
  · obtain rfl := nil_of_size hng
    refine Calls.mono (duCe pb PC sb c st n tb TU cu ts src i ms MC vm vr vc vp w0 w X hO hk66 hk32 hk108 htl hk106 hn hnb hk104 hk187 hk200 hk288 hk287 hk199 hk198 hkind hgen hpar hi hg0 hg1) ?_
    rintro e w' ⟨PC2, MC2, sb2, c2, tb2, cu2, qb2, cq2, gb2, cg2, rfl, p0, p1, p2, p3, p4, p5, p6, p7, p8, p9, p10, p11, p12, p13, hQ⟩
    exact ⟨PC2, MC2, sb2, c2, tb2, cu2, qb2, cq2, gb2, cg2, rfl, p0, p1, p2, p3, p4, p5, p6, p7, (by rw [trO_e]; exact p8), p9, p10, p11, p12, p13, by rw [nmO_e]; exact hQ⟩

def uvDPost (pb : Nat) (PC : Array Value) (sb c : Nat) (st : List Sy) (n tb : Nat) (TU : List Value) (cu : Nat) (ts : Bool) (src : Int) (i ms : Nat) (MC : Array Value) (vm vr vc vp : Value) (nmx : ByteArray) (w0 : World) (X : Nat → Obj → Prop) (e : Ending) (w' : World) : Prop :=
  ∃ PC2 : Array Value, ∃ MC2 : Array Value, ∃ sb2 : Nat, ∃ c2 : Nat, ∃ tb2 : Nat, ∃ cu2 : Nat, ∃ lb2 : Nat, ∃ cl2 : Nat, ∃ gb2 : Nat, ∃ cg2 : Nat, e = .returned (.agg #[.int .u32 src, .int .u32 (n : Int)]) ∧ PC2[66]? = some (.int .u32 src) ∧ PC2[32]? = some (.bool ts) ∧ PC2[108]? = some (tsS ts tb2 (n + 1) cu2) ∧ PC2[106]? = some (.slice (some ⟨sb2, 0, none⟩) (n + 1) (n + 1 + c2)) ∧ PC2[104]? = some (.pointer (some ⟨ms, 0, none⟩)) ∧ PC2[187]? = some (vm) ∧ PC2[200]? = some (vr) ∧ PC2[288]? = some (vc) ∧ PC2[287]? = some (.int .i64 (trO i nmx)) ∧ PC2[199]? = some (.slice none 0 0) ∧ PC2[198]? = some (.slice (some ⟨lb2, 0, none⟩) 1 (1 + cl2)) ∧ MC2[15]? = some (.int .u8 0) ∧ MC2[5]? = some (.slice (some ⟨gb2, 0, none⟩) 1 (1 + cg2)) ∧ MC2[1]? = some (vp) ∧ Own w0 w' ([row (pb) 176 PC2, row (sb2) 183 (full symZ (symL (st ++ [syk (nmO i nmx) 27])) c2), row (ms) 38 MC2, row (lb2) 33 (full refZ ([.int .u32 src, .int .u32 (n : Int)]) cl2), row (gb2) 33 (full refZ ([.int .u32 src, .int .u32 (n : Int)]) cg2)] ++ (optT ts (row (tb2) 22 (full u32Z (TU ++ [.int .u32 0]) cu2)))) X
set_option maxRecDepth 100000 in
theorem uvD (pb : Nat) (PC : Array Value) (sb c : Nat) (st : List Sy) (n tb : Nat) (TU : List Value) (cu : Nat) (ts : Bool) (src : Int) (i ms : Nat) (MC : Array Value) (vm vr vc vp : Value) (nmx : ByteArray) (w0 w : World) (X : Nat → Obj → Prop) (hO : Own w0 w ([row (pb) 176 PC, row (sb) 183 (full symZ (symL st) c), row (ms) 38 MC] ++ (optT ts (row (tb) 22 (full u32Z TU cu)))) X) (hk66 : PC[66]? = some (.int .u32 src)) (hk32 : PC[32]? = some (.bool ts)) (hk108 : PC[108]? = some (tsS ts tb n cu)) (htl : TU.length = n) (hk106 : PC[106]? = some (.slice (some ⟨sb, 0, none⟩) n (n + c))) (hn : st.length = n) (hnb : n ≤ 2000000) (hk104 : PC[104]? = some (.pointer (some ⟨ms, 0, none⟩))) (hk187 : PC[187]? = some (vm)) (hk200 : PC[200]? = some (vr)) (hk288 : PC[288]? = some (vc)) (hk287 : PC[287]? = some (.int .i64 (i : Int))) (hk199 : PC[199]? = some (.slice none 0 0)) (hk198 : PC[198]? = some (.slice none 0 0)) (hkind : MC[15]? = some (.int .u8 0)) (hgen : MC[5]? = some (.slice none 0 0)) (hpar : MC[1]? = some (vp)) (hi : i ≤ 100000) (hg0 : w0.cell? ⟨0, 0, none⟩ = some (.int .u32 4294967295)) (hg1 : w0.cell? ⟨0, 1, none⟩ = some (.int .u32 4294967295)) :
    Calls Tryd.prog 19 #[.pointer (some ⟨pb, 0, none⟩), .int .i64 2, .string nmx] w (uvDPost pb PC sb c st n tb TU cu ts src i ms MC vm vr vc vp nmx w0 X) := by
  by_cases hng : 0 < nmx.size
  · skip
    refine Calls.mono (duDg pb PC sb c st n tb TU cu ts src i ms MC vm vr vc vp nmx w0 w X hO hk66 hk32 hk108 htl hk106 hn hnb hk104 hk187 hk200 hk288 hk287 hk199 hk198 hkind hgen hpar hi hng hg0 hg1) ?_
    rintro e w' ⟨PC2, MC2, sb2, c2, tb2, cu2, lb2, cl2, gb2, cg2, rfl, p0, p1, p2, p3, p4, p5, p6, p7, p8, p9, p10, p11, p12, p13, hQ⟩
    exact ⟨PC2, MC2, sb2, c2, tb2, cu2, lb2, cl2, gb2, cg2, rfl, p0, p1, p2, p3, p4, p5, p6, p7, (by rw [trO_g hng]; exact p8), p9, p10, p11, p12, p13, by rw [nmO_g hng]; exact hQ⟩
  · obtain rfl := nil_of_size hng
    refine Calls.mono (duDe pb PC sb c st n tb TU cu ts src i ms MC vm vr vc vp w0 w X hO hk66 hk32 hk108 htl hk106 hn hnb hk104 hk187 hk200 hk288 hk287 hk199 hk198 hkind hgen hpar hi hg0 hg1) ?_
    rintro e w' ⟨PC2, MC2, sb2, c2, tb2, cu2, lb2, cl2, gb2, cg2, rfl, p0, p1, p2, p3, p4, p5, p6, p7, p8, p9, p10, p11, p12, p13, hQ⟩
    exact ⟨PC2, MC2, sb2, c2, tb2, cu2, lb2, cl2, gb2, cg2, rfl, p0, p1, p2, p3, p4, p5, p6, p7, (by rw [trO_e]; exact p8), p9, p10, p11, p12, p13, by rw [nmO_e]; exact hQ⟩

def newPUPost (src : Int) (n cb ms : Nat) (ts : Bool) (w0 : World) (X : Nat → Obj → Prop) (e : Ending) (w' : World) : Prop :=
  ∃ PC2 : Array Value, ∃ pb : Nat, ∃ sb : Nat, ∃ tb : Nat, e = .returned (.pointer (some ⟨pb, 0, none⟩)) ∧ PC2[66]? = some (.int .u32 src) ∧ PC2[32]? = some (.bool ts) ∧ PC2[106]? = some (.slice (some ⟨sb, 0, none⟩) n (n + 0)) ∧ PC2[108]? = some (tsS ts tb n 0) ∧ PC2[104]? = some (.pointer (some ⟨cb, 0, none⟩)) ∧ PC2[187]? = some (.pointer (some ⟨ms, 0, none⟩)) ∧ PC2[200]? = some (.slice none 0 0) ∧ PC2[288]? = some (.int .i64 0) ∧ PC2[199]? = some (.slice none 0 0) ∧ PC2[287]? = some (.int .i64 0) ∧ PC2[198]? = some (.slice none 0 0) ∧ Own w0 w' ([row (pb) 176 PC2, row (sb) 183 (full symZ (symL (zSys n)) 0)] ++ (optT ts (row (tb) 22 (full u32Z (zU n) 0)))) X
set_option maxRecDepth 100000 in
theorem newPU (src : Int) (n cb ms : Nat) (ts : Bool) (w0 w : World) (X : Nat → Obj → Prop) (hO : Own w0 w ([] ++ ([])) X) (hn5 : n ≤ 100000) :
    Calls Tryd.prog 6 #[.int .u32 src, .bool ts, .int .i64 (n : Int), .pointer (some ⟨cb, 0, none⟩), .pointer (some ⟨ms, 0, none⟩)] w (newPUPost src n cb ms ts w0 X) := by
  cases ts
  · refine Calls.mono (newPFO src n cb ms w0 w X (hO.conv rfl) hn5) ?_
    rintro e w' ⟨pb, sb, rfl, hQ⟩
    exact ⟨newPF src n sb 0 cb ms, pb, sb, 0, rfl, newPF_66 _ _ _ _ _ _, newPF_32 _ _ _ _ _ _, newPF_106 _ _ _ _ _ _, newPF_108 _ _ _ _ _ _, newPF_104 _ _ _ _ _ _, newPF_187 _ _ _ _ _ _, newPF_200 _ _ _ _ _ _, newPF_288 _ _ _ _ _ _, newPF_199 _ _ _ _ _ _, newPF_287 _ _ _ _ _ _, newPF_198 _ _ _ _ _ _, hQ.conv rfl⟩
  · refine Calls.mono (newPTO src n cb ms w0 w X (hO.conv rfl) hn5) ?_
    rintro e w' ⟨pb, sb, tb, rfl, hQ⟩
    exact ⟨newPT src n sb tb cb ms, pb, sb, tb, rfl, newPT_66 _ _ _ _ _ _, newPT_32 _ _ _ _ _ _, newPT_106 _ _ _ _ _ _, newPT_108 _ _ _ _ _ _, newPT_104 _ _ _ _ _ _, newPT_187 _ _ _ _ _ _, newPT_200 _ _ _ _ _ _, newPT_288 _ _ _ _ _ _, newPT_199 _ _ _ _ _ _, newPT_287 _ _ _ _ _ _, newPT_198 _ _ _ _ _ _, hQ.conv rfl⟩

end Go.Proofs.YtkmojepgbbdeiaaDoor.Use
