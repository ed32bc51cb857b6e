/- The door of generateTempRef, walked. No condition. -/
import Derived.Test.YtkmojepgbbdeiaaDoorGuAe
import Derived.Test.YtkmojepgbbdeiaaDoorGuBe
import Derived.Test.YtkmojepgbbdeiaaDoorGuCe
import Derived.Test.YtkmojepgbbdeiaaDoorGuDe
import Derived.Test.YtkmojepgbbdeiaaDoorGuAg
import Derived.Test.YtkmojepgbbdeiaaDoorGuBg
import Derived.Test.YtkmojepgbbdeiaaDoorGuCg
import Derived.Test.YtkmojepgbbdeiaaDoorGuDg
import Derived.Test.YtkmojepgbbdeiaaDoorTs
import Derived.Test.YtkmojepgbbdeiaaDoorMno
import Derived.Test.YtkmojepgbbdeiaaDoorMini
import Derived.Test.YtkmojepgbbdeiaaDoorAppL
import Derived.Test.YtkmojepgbbdeiaaDoorApp
import Derived.Test.YtkmojepgbbdeiaaDoorOwnK
import Derived.Test.YtkmojepgbbdeiaaDoorOwn
import Derived.Test.YtkmojepgbbdeiaaDoorDeepCells
import Derived.Test.YtkmojepgbbdeiaaDoorRows
import Derived.Test.YtkmojepgbbdeiaaDoorLive
namespace Go.Proofs.YtkmojepgbbdeiaaDoor.Use
open Go.ChangeShapes Go.WideShapes Go.ChangeAt Go.RowKit Go.Sort Own
set_option linter.unusedVariables false
def duAePost (pb : Nat) (PC : Array Value) (sb c : Nat) (st : List Sy) (n tb : Nat) (TU : List Value) (cu : Nat) (ts : Bool) (src : Int) (i ms : Nat) (MC : Array Value) (vm vr vc vp : Value) (blk : Nat → Nat) (d : Nat) (SA : Nat → Array Value) (w0 : World) (X : Nat → Obj → Prop) (e : Ending) (w' : World) : Prop :=
  ∃ PC2 : Array Value, ∃ MC2 : Array Value, ∃ sb2 : Nat, ∃ c2 : Nat, ∃ tb2 : Nat, ∃ cu2 : Nat, ∃ qb2 : Nat, ∃ cq2 : Nat, ∃ gb2 : Nat, ∃ cg2 : Nat, e = .returned (.agg #[.int .u32 src, .int .u32 (n : Int)]) ∧ PC2[66]? = some (.int .u32 src) ∧ PC2[32]? = some (.bool ts) ∧ PC2[108]? = some (tsS ts tb2 (n + 1) cu2) ∧ PC2[106]? = some (.slice (some ⟨sb2, 0, none⟩) (n + 1) (n + 1 + c2)) ∧ PC2[104]? = some (.pointer (some ⟨blk d, 0, none⟩)) ∧ PC2[187]? = some (vm) ∧ PC2[200]? = some (vr) ∧ PC2[288]? = some (vc) ∧ PC2[287]? = some (.int .i64 ((i : Int) + 1)) ∧ PC2[199]? = some (.slice (some ⟨qb2, 0, none⟩) 1 (1 + cq2)) ∧ PC2[198]? = some (.slice none 0 0) ∧ MC2[15]? = some (.int .u8 8) ∧ MC2[5]? = some (.slice (some ⟨gb2, 0, none⟩) 1 (1 + cg2)) ∧ MC2[1]? = some (vp) ∧ Own w0 w' ([row (pb) 176 PC2, row (sb2) 183 (full symZ (symL (st ++ [syk (tn i) 27])) c2), row (ms) 38 MC2, row (qb2) 185 (full trfZ ([.nilIface, .int .i32 0, .int .u32 src, .int .u32 (n : Int)]) cq2), row (gb2) 33 (full refZ ([.int .u32 src, .int .u32 (n : Int)]) cg2)] ++ (optT ts (row (tb2) 22 (full u32Z (TU ++ [.int .u32 0]) cu2)))) X
set_option maxRecDepth 100000 in
set_option maxHeartbeats 8000000 in
theorem duAe (pb : Nat) (PC : Array Value) (sb c : Nat) (st : List Sy) (n tb : Nat) (TU : List Value) (cu : Nat) (ts : Bool) (src : Int) (i ms : Nat) (MC : Array Value) (vm vr vc vp : Value) (blk : Nat → Nat) (d : Nat) (SA : Nat → Array Value) (w0 w : World) (X : Nat → Obj → Prop) (hO : Own w0 w ([row (pb) 176 PC, row (sb) 183 (full symZ (symL st) c), row (ms) 38 MC] ++ (optT ts (row (tb) 22 (full u32Z TU cu)))) X) (hk66 : PC[66]? = some (.int .u32 src)) (hk32 : PC[32]? = some (.bool ts)) (hk108 : PC[108]? = some (tsS ts tb n cu)) (htl : TU.length = n) (hk106 : PC[106]? = some (.slice (some ⟨sb, 0, none⟩) n (n + c))) (hn : st.length = n) (hnb : n ≤ 2000000) (hk104 : PC[104]? = some (.pointer (some ⟨blk d, 0, none⟩))) (hk187 : PC[187]? = some (vm)) (hk200 : PC[200]? = some (vr)) (hk288 : PC[288]? = some (vc)) (hk287 : PC[287]? = some (.int .i64 (i : Int))) (hk199 : PC[199]? = some (.slice none 0 0)) (hk198 : PC[198]? = some (.slice none 0 0)) (hkind : MC[15]? = some (.int .u8 8)) (hgen : MC[5]? = some (.slice none 0 0)) (hpar : MC[1]? = some (vp)) (hi : i ≤ 100000) (hb0 : blk 0 = ms) (hch : ∀ k, k < d → X (blk (k + 1)) (.cells (SA k) 38 (0, 0)) ∧ (SA k)[15]? = some (.int .u8 0) ∧ (SA k)[1]? = some (.pointer (some ⟨blk k, 0, none⟩))) (hg0 : w0.cell? ⟨0, 0, none⟩ = some (.int .u32 4294967295)) (hg1 : w0.cell? ⟨0, 1, none⟩ = some (.int .u32 4294967295)) :
    Calls Tryd.prog 19 #[.pointer (some ⟨pb, 0, none⟩), .int .i64 0, .string ⟨#[]⟩] w (duAePost pb PC sb c st n tb TU cu ts src i ms MC vm vr vc vp blk d SA w0 X) := by
  go_enter Tryd.func19, Tryd.ntmps19
  have HBX1_1 := Lib.hid hO.tail
  have hN := hO.aside
  obtain ⟨X1_1, hX1_1⟩ : ∃ Y, Y = FR (optT ts (row (tb) 22 (full u32Z TU cu))) X := ⟨_, rfl⟩
  rw [← hX1_1] at hN
  have HX1_1 := Lib.hid hX1_1
  clear hO hX1_1
  have hO := hN
  clear hN
  go_wp2_with (first | (with_reducible refine Own.stay (fn := Tryd.f19) ?_) | fail)
  try with_reducible refine Own.Stay.mk ?_
  generalize hW : World.alloc _ _ = W3
  have hN : Own w0 W3 [row (w.heap.size) 33 #[.int .u32 0, .int .u32 0], row (pb) 176 PC, row (sb) 183 (full symZ (symL st) c), row (ms) 38 MC] X1_1 := by
    rw [← hW]
    exact (hO).alloc' _ (w.heap.size) (by simp)
  clear hW hO
  generalize w.heap.size = B2 at hN ⊢
  have hO := hN
  clear hN
  have hN : Own w0 W3 [row (pb) 176 PC, row (sb) 183 (full symZ (symL st) c), row (ms) 38 MC, row (B2) 33 #[.int .u32 0, .int .u32 0]] X1_1 := hO.sub [1, 2, 3, 0] (by decide)
  clear hO
  have hO := hN
  clear hN
  rw [HX1_1.out] at hO
  have hN := hO.bring HBX1_1.out
  clear hO
  have hO := hN
  clear hN
  have hP9 : Own w0 W3 (([row (pb) 176 PC, row (sb) 183 (full symZ (symL st) c), row (ms) 38 MC] ++ optT ts (row (tb) 22 (full u32Z TU cu))) ++ [row (B2) 33 #[.int .u32 0, .int .u32 0]]) X := hO.perm (perm1 [row (pb) 176 PC, row (sb) 183 (full symZ (symL st) c), row (ms) 38 MC] [row (B2) 33 #[.int .u32 0, .int .u32 0]] (optT ts (row (tb) 22 (full u32Z TU cu))))
  clear hO
  have HT := Lib.hid hP9.tail
  replace hP9 := hP9.aside
  have T9 := guAe pb PC sb c st n tb _ cu ts src i ms MC vm vr vc vp blk d SA _ _ _ hP9 hk66 hk32 hk108 htl hk106 hn hnb hk104 hk187 hk200 hk288 hk287 hk199 hk198 hkind hgen hpar hi hb0 (fun k hk => ⟨Or.inl (hch k hk).1, (hch k hk).2⟩) hg0 hg1
  refine Calls.mono T9 ?_
  clear hP9 T9
  rintro e u4 ⟨nd5, nd6, nd7, nd8, nd9, nd10, nd11, nd12, nd13, nd14, rfl, pr15, pr16, pr17, pr18, pr19, pr20, pr21, pr22, pr23, pr24, pr25, pr26, pr27, pr28, hQ⟩
  replace hQ := hQ.bring HT.out
  clear HT
  have hO : Own w0 u4 ([row (pb) 176 nd5, row (nd7) 183 (full symZ (symL (st ++ [syk (tn i) 27])) nd8), row (ms) 38 nd6, row (nd11) 185 (full trfZ ([.nilIface, .int .i32 0, .int .u32 src, .int .u32 (n : Int)]) nd12), row (nd13) 33 (full refZ ([.int .u32 src, .int .u32 (n : Int)]) nd14), row (B2) 33 #[.int .u32 0, .int .u32 0]] ++ optT ts (row (nd9) 22 (full u32Z (TU ++ [.int .u32 0]) nd10))) X := hQ.perm (perm1 [row (pb) 176 nd5, row (nd7) 183 (full symZ (symL (st ++ [syk (tn i) 27])) nd8), row (ms) 38 nd6, row (nd11) 185 (full trfZ ([.nilIface, .int .i32 0, .int .u32 src, .int .u32 (n : Int)]) nd12), row (nd13) 33 (full refZ ([.int .u32 src, .int .u32 (n : Int)]) nd14)] [row (B2) 33 #[.int .u32 0, .int .u32 0]] (optT ts (row (nd9) 22 (full u32Z (TU ++ [.int .u32 0]) nd10)))).symm
  clear hQ
  try simp only []
  have HBX1_29 := Lib.hid hO.tail
  have hN := hO.aside
  obtain ⟨X1_29, hX1_29⟩ : ∃ Y, Y = FR (optT ts (row (nd9) 22 (full u32Z (TU ++ [.int .u32 0]) nd10))) X := ⟨_, rfl⟩
  rw [← hX1_29] at hN
  have HX1_29 := Lib.hid hX1_29
  clear hO hX1_29
  have hO := hN
  clear hN
  have hN : Own w0 u4 [row (pb) 176 nd5, row (nd7) 183 (full symZ (symL (st ++ [syk (tn i) 27])) nd8), row (ms) 38 nd6, row (nd11) 185 (full trfZ [.nilIface, .int .i32 0, .int .u32 src, .int .u32 (n : Int)] nd12), row (nd13) 33 (full refZ [.int .u32 src, .int .u32 (n : Int)] nd14), row (B2) 33 #[.int .u32 0, .int .u32 0]] X1_29 := hO
  clear hO
  have hO := hN
  clear hN
  obtain ⟨c9_5_0, c9_5_1, lt9_5, y9_5, -⟩ := hO.k2 5 rfl
  have HO := Lib.hid hO
  clear hO
  go_wp2_with (first | (with_reducible refine Own.stay (fn := Tryd.f19) ?_) | fail)
  try with_reducible refine Own.Stay.mk ?_
  have hO := HO.out
  clear HO c9_5_0 c9_5_1 lt9_5 y9_5
  generalize hW : World.setCell _ _ _ = W31
  have hN : Own w0 W31 [row (pb) 176 nd5, row (nd7) 183 (full symZ (symL (st ++ [syk (tn i) 27])) nd8), row (ms) 38 nd6, row (nd11) 185 (full trfZ [.nilIface, .int .i32 0, .int .u32 src, .int .u32 (n : Int)] nd12), row (nd13) 33 (full refZ [.int .u32 src, .int .u32 (n : Int)] nd14), row (B2) 33 #[.int .u32 src, .int .u32 (n : Int)]] X1_29 := by
    rw [← hW]
    exact ((hO).set 5 rfl 0 _).set 5 rfl 1 _
  clear hW hO
  have hO := hN
  clear hN
  have z9_0 : W31.cell? ⟨B2, 0, none⟩ = some (.int .u32 src) := hO.cell 5 rfl 0 rfl
  have z9_1 : W31.cell? ⟨B2, 1, none⟩ = some (.int .u32 (n : Int)) := hO.cell 5 rfl 1 rfl
  have hN : Own w0 W31 [row (pb) 176 nd5, row (nd7) 183 (full symZ (symL (st ++ [syk (tn i) 27])) nd8), row (ms) 38 nd6, row (nd11) 185 (full trfZ [.nilIface, .int .i32 0, .int .u32 src, .int .u32 (n : Int)] nd12), row (nd13) 33 (full refZ [.int .u32 src, .int .u32 (n : Int)] nd14)] X1_29 := hO.sub [0, 1, 2, 3, 4] (by decide)
  clear hO
  have hO := hN
  clear hN
  rw [HX1_29.out] at hO
  have hN := hO.bring HBX1_29.out
  clear hO
  have hO := hN
  clear hN
  refine bodyPost_ret (v := .agg #[.int .u32 src, .int .u32 (n : Int)]) ?_ rfl ⟨nd5, nd6, nd7, nd8, nd9, nd10, nd11, nd12, nd13, nd14, rfl, pr15, pr16, pr17, pr18, pr19, pr20, pr21, pr22, pr23, pr24, pr25, pr26, pr27, pr28, hO⟩
  simp [results, Tryd.results19, go_sem, z9_0, z9_1]
def duBePost (pb : Nat) (PC : Array Value) (sb c : Nat) (st : List Sy) (n tb : Nat) (TU : List Value) (cu : Nat) (ts : Bool) (src : Int) (i ms : Nat) (MC : Array Value) (vm vr vc vp : Value) (blk : Nat → Nat) (d : Nat) (SA : Nat → Array Value) (w0 : World) (X : Nat → Obj → Prop) (e : Ending) (w' : World) : Prop :=
  ∃ PC2 : Array Value, ∃ MC2 : Array Value, ∃ sb2 : Nat, ∃ c2 : Nat, ∃ tb2 : Nat, ∃ cu2 : Nat, ∃ gb2 : Nat, ∃ cg2 : Nat, e = .returned (.agg #[.int .u32 src, .int .u32 (n : Int)]) ∧ PC2[66]? = some (.int .u32 src) ∧ PC2[32]? = some (.bool ts) ∧ PC2[108]? = some (tsS ts tb2 (n + 1) cu2) ∧ PC2[106]? = some (.slice (some ⟨sb2, 0, none⟩) (n + 1) (n + 1 + c2)) ∧ PC2[104]? = some (.pointer (some ⟨blk d, 0, none⟩)) ∧ PC2[187]? = some (vm) ∧ PC2[200]? = some (vr) ∧ PC2[288]? = some (vc) ∧ PC2[287]? = some (.int .i64 ((i : Int) + 1)) ∧ PC2[199]? = some (.slice none 0 0) ∧ PC2[198]? = some (.slice none 0 0) ∧ MC2[15]? = some (.int .u8 8) ∧ MC2[5]? = some (.slice (some ⟨gb2, 0, none⟩) 1 (1 + cg2)) ∧ MC2[1]? = some (vp) ∧ Own w0 w' ([row (pb) 176 PC2, row (sb2) 183 (full symZ (symL (st ++ [syk (tn i) 27])) c2), row (ms) 38 MC2, row (gb2) 33 (full refZ ([.int .u32 src, .int .u32 (n : Int)]) cg2)] ++ (optT ts (row (tb2) 22 (full u32Z (TU ++ [.int .u32 0]) cu2)))) X
set_option maxRecDepth 100000 in
set_option maxHeartbeats 8000000 in
theorem duBe (pb : Nat) (PC : Array Value) (sb c : Nat) (st : List Sy) (n tb : Nat) (TU : List Value) (cu : Nat) (ts : Bool) (src : Int) (i ms : Nat) (MC : Array Value) (vm vr vc vp : Value) (blk : Nat → Nat) (d : Nat) (SA : Nat → Array Value) (w0 w : World) (X : Nat → Obj → Prop) (hO : Own w0 w ([row (pb) 176 PC, row (sb) 183 (full symZ (symL st) c), row (ms) 38 MC] ++ (optT ts (row (tb) 22 (full u32Z TU cu)))) X) (hk66 : PC[66]? = some (.int .u32 src)) (hk32 : PC[32]? = some (.bool ts)) (hk108 : PC[108]? = some (tsS ts tb n cu)) (htl : TU.length = n) (hk106 : PC[106]? = some (.slice (some ⟨sb, 0, none⟩) n (n + c))) (hn : st.length = n) (hnb : n ≤ 2000000) (hk104 : PC[104]? = some (.pointer (some ⟨blk d, 0, none⟩))) (hk187 : PC[187]? = some (vm)) (hk200 : PC[200]? = some (vr)) (hk288 : PC[288]? = some (vc)) (hk287 : PC[287]? = some (.int .i64 (i : Int))) (hk199 : PC[199]? = some (.slice none 0 0)) (hk198 : PC[198]? = some (.slice none 0 0)) (hkind : MC[15]? = some (.int .u8 8)) (hgen : MC[5]? = some (.slice none 0 0)) (hpar : MC[1]? = some (vp)) (hi : i ≤ 100000) (hb0 : blk 0 = ms) (hch : ∀ k, k < d → X (blk (k + 1)) (.cells (SA k) 38 (0, 0)) ∧ (SA k)[15]? = some (.int .u8 0) ∧ (SA k)[1]? = some (.pointer (some ⟨blk k, 0, none⟩))) (hg0 : w0.cell? ⟨0, 0, none⟩ = some (.int .u32 4294967295)) (hg1 : w0.cell? ⟨0, 1, none⟩ = some (.int .u32 4294967295)) :
    Calls Tryd.prog 19 #[.pointer (some ⟨pb, 0, none⟩), .int .i64 1, .string ⟨#[]⟩] w (duBePost pb PC sb c st n tb TU cu ts src i ms MC vm vr vc vp blk d SA w0 X) := by
  go_enter Tryd.func19, Tryd.ntmps19
  have HBX1_1 := Lib.hid hO.tail
  have hN := hO.aside
  obtain ⟨X1_1, hX1_1⟩ : ∃ Y, Y = FR (optT ts (row (tb) 22 (full u32Z TU cu))) X := ⟨_, rfl⟩
  rw [← hX1_1] at hN
  have HX1_1 := Lib.hid hX1_1
  clear hO hX1_1
  have hO := hN
  clear hN
  go_wp2_with (first | (with_reducible refine Own.stay (fn := Tryd.f19) ?_) | fail)
  try with_reducible refine Own.Stay.mk ?_
  generalize hW : World.alloc _ _ = W3
  have hN : Own w0 W3 [row (w.heap.size) 33 #[.int .u32 0, .int .u32 0], row (pb) 176 PC, row (sb) 183 (full symZ (symL st) c), row (ms) 38 MC] X1_1 := by
    rw [← hW]
    exact (hO).alloc' _ (w.heap.size) (by simp)
  clear hW hO
  generalize w.heap.size = B2 at hN ⊢
  have hO := hN
  clear hN
  have hN : Own w0 W3 [row (pb) 176 PC, row (sb) 183 (full symZ (symL st) c), row (ms) 38 MC, row (B2) 33 #[.int .u32 0, .int .u32 0]] X1_1 := hO.sub [1, 2, 3, 0] (by decide)
  clear hO
  have hO := hN
  clear hN
  rw [HX1_1.out] at hO
  have hN := hO.bring HBX1_1.out
  clear hO
  have hO := hN
  clear hN
  have hP9 : Own w0 W3 (([row (pb) 176 PC, row (sb) 183 (full symZ (symL st) c), row (ms) 38 MC] ++ optT ts (row (tb) 22 (full u32Z TU cu))) ++ [row (B2) 33 #[.int .u32 0, .int .u32 0]]) X := hO.perm (perm1 [row (pb) 176 PC, row (sb) 183 (full symZ (symL st) c), row (ms) 38 MC] [row (B2) 33 #[.int .u32 0, .int .u32 0]] (optT ts (row (tb) 22 (full u32Z TU cu))))
  clear hO
  have HT := Lib.hid hP9.tail
  replace hP9 := hP9.aside
  have T9 := guBe pb PC sb c st n tb _ cu ts src i ms MC vm vr vc vp blk d SA _ _ _ hP9 hk66 hk32 hk108 htl hk106 hn hnb hk104 hk187 hk200 hk288 hk287 hk199 hk198 hkind hgen hpar hi hb0 (fun k hk => ⟨Or.inl (hch k hk).1, (hch k hk).2⟩) hg0 hg1
  refine Calls.mono T9 ?_
  clear hP9 T9
  rintro e u4 ⟨nd5, nd6, nd7, nd8, nd9, nd10, nd11, nd12, rfl, pr13, pr14, pr15, pr16, pr17, pr18, pr19, pr20, pr21, pr22, pr23, pr24, pr25, pr26, hQ⟩
  replace hQ := hQ.bring HT.out
  clear HT
  have hO : Own w0 u4 ([row (pb) 176 nd5, row (nd7) 183 (full symZ (symL (st ++ [syk (tn i) 27])) nd8), row (ms) 38 nd6, row (nd11) 33 (full refZ ([.int .u32 src, .int .u32 (n : Int)]) nd12), row (B2) 33 #[.int .u32 0, .int .u32 0]] ++ optT ts (row (nd9) 22 (full u32Z (TU ++ [.int .u32 0]) nd10))) X := hQ.perm (perm1 [row (pb) 176 nd5, row (nd7) 183 (full symZ (symL (st ++ [syk (tn i) 27])) nd8), row (ms) 38 nd6, row (nd11) 33 (full refZ ([.int .u32 src, .int .u32 (n : Int)]) nd12)] [row (B2) 33 #[.int .u32 0, .int .u32 0]] (optT ts (row (nd9) 22 (full u32Z (TU ++ [.int .u32 0]) nd10)))).symm
  clear hQ
  try simp only []
  have HBX1_27 := Lib.hid hO.tail
  have hN := hO.aside
  obtain ⟨X1_27, hX1_27⟩ : ∃ Y, Y = FR (optT ts (row (nd9) 22 (full u32Z (TU ++ [.int .u32 0]) nd10))) X := ⟨_, rfl⟩
  rw [← hX1_27] at hN
  have HX1_27 := Lib.hid hX1_27
  clear hO hX1_27
  have hO := hN
  clear hN
  have hN : Own w0 u4 [row (pb) 176 nd5, row (nd7) 183 (full symZ (symL (st ++ [syk (tn i) 27])) nd8), row (ms) 38 nd6, row (nd11) 33 (full refZ [.int .u32 src, .int .u32 (n : Int)] nd12), row (B2) 33 #[.int .u32 0, .int .u32 0]] X1_27 := hO
  clear hO
  have hO := hN
  clear hN
  obtain ⟨c9_4_0, c9_4_1, lt9_4, y9_4, -⟩ := hO.k2 4 rfl
  have HO := Lib.hid hO
  clear hO
  go_wp2_with (first | (with_reducible refine Own.stay (fn := Tryd.f19) ?_) | fail)
  try with_reducible refine Own.Stay.mk ?_
  have hO := HO.out
  clear HO c9_4_0 c9_4_1 lt9_4 y9_4
  generalize hW : World.setCell _ _ _ = W29
  have hN : Own w0 W29 [row (pb) 176 nd5, row (nd7) 183 (full symZ (symL (st ++ [syk (tn i) 27])) nd8), row (ms) 38 nd6, row (nd11) 33 (full refZ [.int .u32 src, .int .u32 (n : Int)] nd12), row (B2) 33 #[.int .u32 src, .int .u32 (n : Int)]] X1_27 := by
    rw [← hW]
    exact ((hO).set 4 rfl 0 _).set 4 rfl 1 _
  clear hW hO
  have hO := hN
  clear hN
  have z9_0 : W29.cell? ⟨B2, 0, none⟩ = some (.int .u32 src) := hO.cell 4 rfl 0 rfl
  have z9_1 : W29.cell? ⟨B2, 1, none⟩ = some (.int .u32 (n : Int)) := hO.cell 4 rfl 1 rfl
  have hN : Own w0 W29 [row (pb) 176 nd5, row (nd7) 183 (full symZ (symL (st ++ [syk (tn i) 27])) nd8), row (ms) 38 nd6, row (nd11) 33 (full refZ [.int .u32 src, .int .u32 (n : Int)] nd12)] X1_27 := hO.sub [0, 1, 2, 3] (by decide)
  clear hO
  have hO := hN
  clear hN
  rw [HX1_27.out] at hO
  have hN := hO.bring HBX1_27.out
  clear hO
  have hO := hN
  clear hN
  refine bodyPost_ret (v := .agg #[.int .u32 src, .int .u32 (n : Int)]) ?_ rfl ⟨nd5, nd6, nd7, nd8, nd9, nd10, nd11, nd12, rfl, pr13, pr14, pr15, pr16, pr17, pr18, pr19, pr20, pr21, pr22, pr23, pr24, pr25, pr26, hO⟩
  simp [results, Tryd.results19, go_sem, z9_0, z9_1]
def duCePost (pb : Nat) (PC : Array Value) (sb c : Nat) (st : List Sy) (n tb : Nat) (TU : List Value) (cu : Nat) (ts : Bool) (src : Int) (i ms : Nat) (MC : Array Value) (vm vr vc vp : Value) (w0 : World) (X : Nat → Obj → Prop) (e : Ending) (w' : World) : Prop :=
  ∃ PC2 : Array Value, ∃ MC2 : Array Value, ∃ sb2 : Nat, ∃ c2 : Nat, ∃ tb2 : Nat, ∃ cu2 : Nat, ∃ qb2 : Nat, ∃ cq2 : Nat, ∃ gb2 : Nat, ∃ cg2 : Nat, e = .returned (.agg #[.int .u32 src, .int .u32 (n : Int)]) ∧ PC2[66]? = some (.int .u32 src) ∧ PC2[32]? = some (.bool ts) ∧ PC2[108]? = some (tsS ts tb2 (n + 1) cu2) ∧ PC2[106]? = some (.slice (some ⟨sb2, 0, none⟩) (n + 1) (n + 1 + c2)) ∧ PC2[104]? = some (.pointer (some ⟨ms, 0, none⟩)) ∧ PC2[187]? = some (vm) ∧ PC2[200]? = some (vr) ∧ PC2[288]? = some (vc) ∧ PC2[287]? = some (.int .i64 ((i : Int) + 1)) ∧ PC2[199]? = some (.slice (some ⟨qb2, 0, none⟩) 1 (1 + cq2)) ∧ PC2[198]? = some (.slice none 0 0) ∧ MC2[15]? = some (.int .u8 8) ∧ MC2[5]? = some (.slice (some ⟨gb2, 0, none⟩) 1 (1 + cg2)) ∧ MC2[1]? = some (vp) ∧ Own w0 w' ([row (pb) 176 PC2, row (sb2) 183 (full symZ (symL (st ++ [syk (tn i) 27])) c2), row (ms) 38 MC2, row (qb2) 185 (full trfZ ([.nilIface, .int .i32 0, .int .u32 src, .int .u32 (n : Int)]) cq2), row (gb2) 33 (full refZ ([.int .u32 src, .int .u32 (n : Int)]) cg2)] ++ (optT ts (row (tb2) 22 (full u32Z (TU ++ [.int .u32 0]) cu2)))) X
set_option maxRecDepth 100000 in
set_option maxHeartbeats 8000000 in
theorem duCe (pb : Nat) (PC : Array Value) (sb c : Nat) (st : List Sy) (n tb : Nat) (TU : List Value) (cu : Nat) (ts : Bool) (src : Int) (i ms : Nat) (MC : Array Value) (vm vr vc vp : Value) (w0 w : World) (X : Nat → Obj → Prop) (hO : Own w0 w ([row (pb) 176 PC, row (sb) 183 (full symZ (symL st) c), row (ms) 38 MC] ++ (optT ts (row (tb) 22 (full u32Z TU cu)))) X) (hk66 : PC[66]? = some (.int .u32 src)) (hk32 : PC[32]? = some (.bool ts)) (hk108 : PC[108]? = some (tsS ts tb n cu)) (htl : TU.length = n) (hk106 : PC[106]? = some (.slice (some ⟨sb, 0, none⟩) n (n + c))) (hn : st.length = n) (hnb : n ≤ 2000000) (hk104 : PC[104]? = some (.pointer (some ⟨ms, 0, none⟩))) (hk187 : PC[187]? = some (vm)) (hk200 : PC[200]? = some (vr)) (hk288 : PC[288]? = some (vc)) (hk287 : PC[287]? = some (.int .i64 (i : Int))) (hk199 : PC[199]? = some (.slice none 0 0)) (hk198 : PC[198]? = some (.slice none 0 0)) (hkind : MC[15]? = some (.int .u8 8)) (hgen : MC[5]? = some (.slice none 0 0)) (hpar : MC[1]? = some (vp)) (hi : i ≤ 100000) (hg0 : w0.cell? ⟨0, 0, none⟩ = some (.int .u32 4294967295)) (hg1 : w0.cell? ⟨0, 1, none⟩ = some (.int .u32 4294967295)) :
    Calls Tryd.prog 19 #[.pointer (some ⟨pb, 0, none⟩), .int .i64 2, .string ⟨#[]⟩] w (duCePost pb PC sb c st n tb TU cu ts src i ms MC vm vr vc vp w0 X) := by
  go_enter Tryd.func19, Tryd.ntmps19
  have HBX1_1 := Lib.hid hO.tail
  have hN := hO.aside
  obtain ⟨X1_1, hX1_1⟩ : ∃ Y, Y = FR (optT ts (row (tb) 22 (full u32Z TU cu))) X := ⟨_, rfl⟩
  rw [← hX1_1] at hN
  have HX1_1 := Lib.hid hX1_1
  clear hO hX1_1
  have hO := hN
  clear hN
  go_wp2_with (first | (with_reducible refine Own.stay (fn := Tryd.f19) ?_) | fail)
  try with_reducible refine Own.Stay.mk ?_
  generalize hW : World.alloc _ _ = W3
  have hN : Own w0 W3 [row (w.heap.size) 33 #[.int .u32 0, .int .u32 0], row (pb) 176 PC, row (sb) 183 (full symZ (symL st) c), row (ms) 38 MC] X1_1 := by
    rw [← hW]
    exact (hO).alloc' _ (w.heap.size) (by simp)
  clear hW hO
  generalize w.heap.size = B2 at hN ⊢
  have hO := hN
  clear hN
  have hN : Own w0 W3 [row (pb) 176 PC, row (sb) 183 (full symZ (symL st) c), row (ms) 38 MC, row (B2) 33 #[.int .u32 0, .int .u32 0]] X1_1 := hO.sub [1, 2, 3, 0] (by decide)
  clear hO
  have hO := hN
  clear hN
  rw [HX1_1.out] at hO
  have hN := hO.bring HBX1_1.out
  clear hO
  have hO := hN
  clear hN
  have hP9 : Own w0 W3 (([row (pb) 176 PC, row (sb) 183 (full symZ (symL st) c), row (ms) 38 MC] ++ optT ts (row (tb) 22 (full u32Z TU cu))) ++ [row (B2) 33 #[.int .u32 0, .int .u32 0]]) X := hO.perm (perm1 [row (pb) 176 PC, row (sb) 183 (full symZ (symL st) c), row (ms) 38 MC] [row (B2) 33 #[.int .u32 0, .int .u32 0]] (optT ts (row (tb) 22 (full u32Z TU cu))))
  clear hO
  have HT := Lib.hid hP9.tail
  replace hP9 := hP9.aside
  have T9 := guCe pb PC sb c st n tb _ cu ts src i ms MC vm vr vc vp _ _ _ hP9 hk66 hk32 hk108 htl hk106 hn hnb hk104 hk187 hk200 hk288 hk287 hk199 hk198 hkind hgen hpar hi hg0 hg1
  refine Calls.mono T9 ?_
  clear hP9 T9
  rintro e u4 ⟨nd5, nd6, nd7, nd8, nd9, nd10, nd11, nd12, nd13, nd14, rfl, pr15, pr16, pr17, pr18, pr19, pr20, pr21, pr22, pr23, pr24, pr25, pr26, pr27, pr28, hQ⟩
  replace hQ := hQ.bring HT.out
  clear HT
  have hO : Own w0 u4 ([row (pb) 176 nd5, row (nd7) 183 (full symZ (symL (st ++ [syk (tn i) 27])) nd8), row (ms) 38 nd6, row (nd11) 185 (full trfZ ([.nilIface, .int .i32 0, .int .u32 src, .int .u32 (n : Int)]) nd12), row (nd13) 33 (full refZ ([.int .u32 src, .int .u32 (n : Int)]) nd14), row (B2) 33 #[.int .u32 0, .int .u32 0]] ++ optT ts (row (nd9) 22 (full u32Z (TU ++ [.int .u32 0]) nd10))) X := hQ.perm (perm1 [row (pb) 176 nd5, row (nd7) 183 (full symZ (symL (st ++ [syk (tn i) 27])) nd8), row (ms) 38 nd6, row (nd11) 185 (full trfZ ([.nilIface, .int .i32 0, .int .u32 src, .int .u32 (n : Int)]) nd12), row (nd13) 33 (full refZ ([.int .u32 src, .int .u32 (n : Int)]) nd14)] [row (B2) 33 #[.int .u32 0, .int .u32 0]] (optT ts (row (nd9) 22 (full u32Z (TU ++ [.int .u32 0]) nd10)))).symm
  clear hQ
  try simp only []
  have HBX1_29 := Lib.hid hO.tail
  have hN := hO.aside
  obtain ⟨X1_29, hX1_29⟩ : ∃ Y, Y = FR (optT ts (row (nd9) 22 (full u32Z (TU ++ [.int .u32 0]) nd10))) X := ⟨_, rfl⟩
  rw [← hX1_29] at hN
  have HX1_29 := Lib.hid hX1_29
  clear hO hX1_29
  have hO := hN
  clear hN
  have hN : Own w0 u4 [row (pb) 176 nd5, row (nd7) 183 (full symZ (symL (st ++ [syk (tn i) 27])) nd8), row (ms) 38 nd6, row (nd11) 185 (full trfZ [.nilIface, .int .i32 0, .int .u32 src, .int .u32 (n : Int)] nd12), row (nd13) 33 (full refZ [.int .u32 src, .int .u32 (n : Int)] nd14), row (B2) 33 #[.int .u32 0, .int .u32 0]] X1_29 := hO
  clear hO
  have hO := hN
  clear hN
  obtain ⟨c9_5_0, c9_5_1, lt9_5, y9_5, -⟩ := hO.k2 5 rfl
  have HO := Lib.hid hO
  clear hO
  go_wp2_with (first | (with_reducible refine Own.stay (fn := Tryd.f19) ?_) | fail)
  try with_reducible refine Own.Stay.mk ?_
  have hO := HO.out
  clear HO c9_5_0 c9_5_1 lt9_5 y9_5
  generalize hW : World.setCell _ _ _ = W31
  have hN : Own w0 W31 [row (pb) 176 nd5, row (nd7) 183 (full symZ (symL (st ++ [syk (tn i) 27])) nd8), row (ms) 38 nd6, row (nd11) 185 (full trfZ [.nilIface, .int .i32 0, .int .u32 src, .int .u32 (n : Int)] nd12), row (nd13) 33 (full refZ [.int .u32 src, .int .u32 (n : Int)] nd14), row (B2) 33 #[.int .u32 src, .int .u32 (n : Int)]] X1_29 := by
    rw [← hW]
    exact ((hO).set 5 rfl 0 _).set 5 rfl 1 _
  clear hW hO
  have hO := hN
  clear hN
  have z9_0 : W31.cell? ⟨B2, 0, none⟩ = some (.int .u32 src) := hO.cell 5 rfl 0 rfl
  have z9_1 : W31.cell? ⟨B2, 1, none⟩ = some (.int .u32 (n : Int)) := hO.cell 5 rfl 1 rfl
  have hN : Own w0 W31 [row (pb) 176 nd5, row (nd7) 183 (full symZ (symL (st ++ [syk (tn i) 27])) nd8), row (ms) 38 nd6, row (nd11) 185 (full trfZ [.nilIface, .int .i32 0, .int .u32 src, .int .u32 (n : Int)] nd12), row (nd13) 33 (full refZ [.int .u32 src, .int .u32 (n : Int)] nd14)] X1_29 := hO.sub [0, 1, 2, 3, 4] (by decide)
  clear hO
  have hO := hN
  clear hN
  rw [HX1_29.out] at hO
  have hN := hO.bring HBX1_29.out
  clear hO
  have hO := hN
  clear hN
  refine bodyPost_ret (v := .agg #[.int .u32 src, .int .u32 (n : Int)]) ?_ rfl ⟨nd5, nd6, nd7, nd8, nd9, nd10, nd11, nd12, nd13, nd14, rfl, pr15, pr16, pr17, pr18, pr19, pr20, pr21, pr22, pr23, pr24, pr25, pr26, pr27, pr28, hO⟩
  simp [results, Tryd.results19, go_sem, z9_0, z9_1]
def duDePost (pb : Nat) (PC : Array Value) (sb c : Nat) (st : List Sy) (n tb : Nat) (TU : List Value) (cu : Nat) (ts : Bool) (src : Int) (i ms : Nat) (MC : Array Value) (vm vr vc vp : Value) (w0 : World) (X : Nat → Obj → Prop) (e : Ending) (w' : World) : Prop :=
  ∃ PC2 : Array Value, ∃ MC2 : Array Value, ∃ sb2 : Nat, ∃ c2 : Nat, ∃ tb2 : Nat, ∃ cu2 : Nat, ∃ lb2 : Nat, ∃ cl2 : Nat, ∃ gb2 : Nat, ∃ cg2 : Nat, e = .returned (.agg #[.int .u32 src, .int .u32 (n : Int)]) ∧ PC2[66]? = some (.int .u32 src) ∧ PC2[32]? = some (.bool ts) ∧ PC2[108]? = some (tsS ts tb2 (n + 1) cu2) ∧ PC2[106]? = some (.slice (some ⟨sb2, 0, none⟩) (n + 1) (n + 1 + c2)) ∧ PC2[104]? = some (.pointer (some ⟨ms, 0, none⟩)) ∧ PC2[187]? = some (vm) ∧ PC2[200]? = some (vr) ∧ PC2[288]? = some (vc) ∧ PC2[287]? = some (.int .i64 ((i : Int) + 1)) ∧ PC2[199]? = some (.slice none 0 0) ∧ PC2[198]? = some (.slice (some ⟨lb2, 0, none⟩) 1 (1 + cl2)) ∧ MC2[15]? = some (.int .u8 0) ∧ MC2[5]? = some (.slice (some ⟨gb2, 0, none⟩) 1 (1 + cg2)) ∧ MC2[1]? = some (vp) ∧ Own w0 w' ([row (pb) 176 PC2, row (sb2) 183 (full symZ (symL (st ++ [syk (tn i) 27])) c2), row (ms) 38 MC2, row (lb2) 33 (full refZ ([.int .u32 src, .int .u32 (n : Int)]) cl2), row (gb2) 33 (full refZ ([.int .u32 src, .int .u32 (n : Int)]) cg2)] ++ (optT ts (row (tb2) 22 (full u32Z (TU ++ [.int .u32 0]) cu2)))) X
set_option maxRecDepth 100000 in
set_option maxHeartbeats 8000000 in
theorem duDe (pb : Nat) (PC : Array Value) (sb c : Nat) (st : List Sy) (n tb : Nat) (TU : List Value) (cu : Nat) (ts : Bool) (src : Int) (i ms : Nat) (MC : Array Value) (vm vr vc vp : Value) (w0 w : World) (X : Nat → Obj → Prop) (hO : Own w0 w ([row (pb) 176 PC, row (sb) 183 (full symZ (symL st) c), row (ms) 38 MC] ++ (optT ts (row (tb) 22 (full u32Z TU cu)))) X) (hk66 : PC[66]? = some (.int .u32 src)) (hk32 : PC[32]? = some (.bool ts)) (hk108 : PC[108]? = some (tsS ts tb n cu)) (htl : TU.length = n) (hk106 : PC[106]? = some (.slice (some ⟨sb, 0, none⟩) n (n + c))) (hn : st.length = n) (hnb : n ≤ 2000000) (hk104 : PC[104]? = some (.pointer (some ⟨ms, 0, none⟩))) (hk187 : PC[187]? = some (vm)) (hk200 : PC[200]? = some (vr)) (hk288 : PC[288]? = some (vc)) (hk287 : PC[287]? = some (.int .i64 (i : Int))) (hk199 : PC[199]? = some (.slice none 0 0)) (hk198 : PC[198]? = some (.slice none 0 0)) (hkind : MC[15]? = some (.int .u8 0)) (hgen : MC[5]? = some (.slice none 0 0)) (hpar : MC[1]? = some (vp)) (hi : i ≤ 100000) (hg0 : w0.cell? ⟨0, 0, none⟩ = some (.int .u32 4294967295)) (hg1 : w0.cell? ⟨0, 1, none⟩ = some (.int .u32 4294967295)) :
    Calls Tryd.prog 19 #[.pointer (some ⟨pb, 0, none⟩), .int .i64 2, .string ⟨#[]⟩] w (duDePost pb PC sb c st n tb TU cu ts src i ms MC vm vr vc vp w0 X) := by
  go_enter Tryd.func19, Tryd.ntmps19
  have HBX1_1 := Lib.hid hO.tail
  have hN := hO.aside
  obtain ⟨X1_1, hX1_1⟩ : ∃ Y, Y = FR (optT ts (row (tb) 22 (full u32Z TU cu))) X := ⟨_, rfl⟩
  rw [← hX1_1] at hN
  have HX1_1 := Lib.hid hX1_1
  clear hO hX1_1
  have hO := hN
  clear hN
  go_wp2_with (first | (with_reducible refine Own.stay (fn := Tryd.f19) ?_) | fail)
  try with_reducible refine Own.Stay.mk ?_
  generalize hW : World.alloc _ _ = W3
  have hN : Own w0 W3 [row (w.heap.size) 33 #[.int .u32 0, .int .u32 0], row (pb) 176 PC, row (sb) 183 (full symZ (symL st) c), row (ms) 38 MC] X1_1 := by
    rw [← hW]
    exact (hO).alloc' _ (w.heap.size) (by simp)
  clear hW hO
  generalize w.heap.size = B2 at hN ⊢
  have hO := hN
  clear hN
  have hN : Own w0 W3 [row (pb) 176 PC, row (sb) 183 (full symZ (symL st) c), row (ms) 38 MC, row (B2) 33 #[.int .u32 0, .int .u32 0]] X1_1 := hO.sub [1, 2, 3, 0] (by decide)
  clear hO
  have hO := hN
  clear hN
  rw [HX1_1.out] at hO
  have hN := hO.bring HBX1_1.out
  clear hO
  have hO := hN
  clear hN
  have hP9 : Own w0 W3 (([row (pb) 176 PC, row (sb) 183 (full symZ (symL st) c), row (ms) 38 MC] ++ optT ts (row (tb) 22 (full u32Z TU cu))) ++ [row (B2) 33 #[.int .u32 0, .int .u32 0]]) X := hO.perm (perm1 [row (pb) 176 PC, row (sb) 183 (full symZ (symL st) c), row (ms) 38 MC] [row (B2) 33 #[.int .u32 0, .int .u32 0]] (optT ts (row (tb) 22 (full u32Z TU cu))))
  clear hO
  have HT := Lib.hid hP9.tail
  replace hP9 := hP9.aside
  have T9 := guDe pb PC sb c st n tb _ cu ts src i ms MC vm vr vc vp _ _ _ hP9 hk66 hk32 hk108 htl hk106 hn hnb hk104 hk187 hk200 hk288 hk287 hk199 hk198 hkind hgen hpar hi hg0 hg1
  refine Calls.mono T9 ?_
  clear hP9 T9
  rintro e u4 ⟨nd5, nd6, nd7, nd8, nd9, nd10, nd11, nd12, nd13, nd14, rfl, pr15, pr16, pr17, pr18, pr19, pr20, pr21, pr22, pr23, pr24, pr25, pr26, pr27, pr28, hQ⟩
  replace hQ := hQ.bring HT.out
  clear HT
  have hO : Own w0 u4 ([row (pb) 176 nd5, row (nd7) 183 (full symZ (symL (st ++ [syk (tn i) 27])) nd8), row (ms) 38 nd6, row (nd11) 33 (full refZ ([.int .u32 src, .int .u32 (n : Int)]) nd12), row (nd13) 33 (full refZ ([.int .u32 src, .int .u32 (n : Int)]) nd14), row (B2) 33 #[.int .u32 0, .int .u32 0]] ++ optT ts (row (nd9) 22 (full u32Z (TU ++ [.int .u32 0]) nd10))) X := hQ.perm (perm1 [row (pb) 176 nd5, row (nd7) 183 (full symZ (symL (st ++ [syk (tn i) 27])) nd8), row (ms) 38 nd6, row (nd11) 33 (full refZ ([.int .u32 src, .int .u32 (n : Int)]) nd12), row (nd13) 33 (full refZ ([.int .u32 src, .int .u32 (n : Int)]) nd14)] [row (B2) 33 #[.int .u32 0, .int .u32 0]] (optT ts (row (nd9) 22 (full u32Z (TU ++ [.int .u32 0]) nd10)))).symm
  clear hQ
  try simp only []
  have HBX1_29 := Lib.hid hO.tail
  have hN := hO.aside
  obtain ⟨X1_29, hX1_29⟩ : ∃ Y, Y = FR (optT ts (row (nd9) 22 (full u32Z (TU ++ [.int .u32 0]) nd10))) X := ⟨_, rfl⟩
  rw [← hX1_29] at hN
  have HX1_29 := Lib.hid hX1_29
  clear hO hX1_29
  have hO := hN
  clear hN
  have hN : Own w0 u4 [row (pb) 176 nd5, row (nd7) 183 (full symZ (symL (st ++ [syk (tn i) 27])) nd8), row (ms) 38 nd6, row (nd11) 33 (full refZ [.int .u32 src, .int .u32 (n : Int)] nd12), row (nd13) 33 (full refZ [.int .u32 src, .int .u32 (n : Int)] nd14), row (B2) 33 #[.int .u32 0, .int .u32 0]] X1_29 := hO
  clear hO
  have hO := hN
  clear hN
  obtain ⟨c9_5_0, c9_5_1, lt9_5, y9_5, -⟩ := hO.k2 5 rfl
  have HO := Lib.hid hO
  clear hO
  go_wp2_with (first | (with_reducible refine Own.stay (fn := Tryd.f19) ?_) | fail)
  try with_reducible refine Own.Stay.mk ?_
  have hO := HO.out
  clear HO c9_5_0 c9_5_1 lt9_5 y9_5
  generalize hW : World.setCell _ _ _ = W31
  have hN : Own w0 W31 [row (pb) 176 nd5, row (nd7) 183 (full symZ (symL (st ++ [syk (tn i) 27])) nd8), row (ms) 38 nd6, row (nd11) 33 (full refZ [.int .u32 src, .int .u32 (n : Int)] nd12), row (nd13) 33 (full refZ [.int .u32 src, .int .u32 (n : Int)] nd14), row (B2) 33 #[.int .u32 src, .int .u32 (n : Int)]] X1_29 := by
    rw [← hW]
    exact ((hO).set 5 rfl 0 _).set 5 rfl 1 _
  clear hW hO
  have hO := hN
  clear hN
  have z9_0 : W31.cell? ⟨B2, 0, none⟩ = some (.int .u32 src) := hO.cell 5 rfl 0 rfl
  have z9_1 : W31.cell? ⟨B2, 1, none⟩ = some (.int .u32 (n : Int)) := hO.cell 5 rfl 1 rfl
  have hN : Own w0 W31 [row (pb) 176 nd5, row (nd7) 183 (full symZ (symL (st ++ [syk (tn i) 27])) nd8), row (ms) 38 nd6, row (nd11) 33 (full refZ [.int .u32 src, .int .u32 (n : Int)] nd12), row (nd13) 33 (full refZ [.int .u32 src, .int .u32 (n : Int)] nd14)] X1_29 := hO.sub [0, 1, 2, 3, 4] (by decide)
  clear hO
  have hO := hN
  clear hN
  rw [HX1_29.out] at hO
  have hN := hO.bring HBX1_29.out
  clear hO
  have hO := hN
  clear hN
  refine bodyPost_ret (v := .agg #[.int .u32 src, .int .u32 (n : Int)]) ?_ rfl ⟨nd5, nd6, nd7, nd8, nd9, nd10, nd11, nd12, nd13, nd14, rfl, pr15, pr16, pr17, pr18, pr19, pr20, pr21, pr22, pr23, pr24, pr25, pr26, pr27, pr28, hO⟩
  simp [results, Tryd.results19, go_sem, z9_0, z9_1]
def duAgPost (pb : Nat) (PC : Array Value) (sb c : Nat) (st : List Sy) (n tb : Nat) (TU : List Value) (cu : Nat) (ts : Bool) (src : Int) (i ms : Nat) (MC : Array Value) (vm vr vc vp : Value) (blk : Nat → Nat) (d : Nat) (SA : Nat → Array Value) (nmx : ByteArray) (w0 : World) (X : Nat → Obj → Prop) (e : Ending) (w' : World) : Prop :=
  ∃ PC2 : Array Value, ∃ MC2 : Array Value, ∃ sb2 : Nat, ∃ c2 : Nat, ∃ tb2 : Nat, ∃ cu2 : Nat, ∃ qb2 : Nat, ∃ cq2 : Nat, ∃ gb2 : Nat, ∃ cg2 : Nat, e = .returned (.agg #[.int .u32 src, .int .u32 (n : Int)]) ∧ PC2[66]? = some (.int .u32 src) ∧ PC2[32]? = some (.bool ts) ∧ PC2[108]? = some (tsS ts tb2 (n + 1) cu2) ∧ PC2[106]? = some (.slice (some ⟨sb2, 0, none⟩) (n + 1) (n + 1 + c2)) ∧ PC2[104]? = some (.pointer (some ⟨blk d, 0, none⟩)) ∧ PC2[187]? = some (vm) ∧ PC2[200]? = some (vr) ∧ PC2[288]? = some (vc) ∧ PC2[287]? = some (.int .i64 (i : Int)) ∧ PC2[199]? = some (.slice (some ⟨qb2, 0, none⟩) 1 (1 + cq2)) ∧ PC2[198]? = some (.slice none 0 0) ∧ MC2[15]? = some (.int .u8 8) ∧ MC2[5]? = some (.slice (some ⟨gb2, 0, none⟩) 1 (1 + cg2)) ∧ MC2[1]? = some (vp) ∧ Own w0 w' ([row (pb) 176 PC2, row (sb2) 183 (full symZ (symL (st ++ [syk nmx 27])) c2), row (ms) 38 MC2, row (qb2) 185 (full trfZ ([.nilIface, .int .i32 0, .int .u32 src, .int .u32 (n : Int)]) cq2), row (gb2) 33 (full refZ ([.int .u32 src, .int .u32 (n : Int)]) cg2)] ++ (optT ts (row (tb2) 22 (full u32Z (TU ++ [.int .u32 0]) cu2)))) X
set_option maxRecDepth 100000 in
set_option maxHeartbeats 8000000 in
theorem duAg (pb : Nat) (PC : Array Value) (sb c : Nat) (st : List Sy) (n tb : Nat) (TU : List Value) (cu : Nat) (ts : Bool) (src : Int) (i ms : Nat) (MC : Array Value) (vm vr vc vp : Value) (blk : Nat → Nat) (d : Nat) (SA : Nat → Array Value) (nmx : ByteArray) (w0 w : World) (X : Nat → Obj → Prop) (hO : Own w0 w ([row (pb) 176 PC, row (sb) 183 (full symZ (symL st) c), row (ms) 38 MC] ++ (optT ts (row (tb) 22 (full u32Z TU cu)))) X) (hk66 : PC[66]? = some (.int .u32 src)) (hk32 : PC[32]? = some (.bool ts)) (hk108 : PC[108]? = some (tsS ts tb n cu)) (htl : TU.length = n) (hk106 : PC[106]? = some (.slice (some ⟨sb, 0, none⟩) n (n + c))) (hn : st.length = n) (hnb : n ≤ 2000000) (hk104 : PC[104]? = some (.pointer (some ⟨blk d, 0, none⟩))) (hk187 : PC[187]? = some (vm)) (hk200 : PC[200]? = some (vr)) (hk288 : PC[288]? = some (vc)) (hk287 : PC[287]? = some (.int .i64 (i : Int))) (hk199 : PC[199]? = some (.slice none 0 0)) (hk198 : PC[198]? = some (.slice none 0 0)) (hkind : MC[15]? = some (.int .u8 8)) (hgen : MC[5]? = some (.slice none 0 0)) (hpar : MC[1]? = some (vp)) (hi : i ≤ 100000) (hb0 : blk 0 = ms) (hch : ∀ k, k < d → X (blk (k + 1)) (.cells (SA k) 38 (0, 0)) ∧ (SA k)[15]? = some (.int .u8 0) ∧ (SA k)[1]? = some (.pointer (some ⟨blk k, 0, none⟩))) (hng : 0 < nmx.size) (hg0 : w0.cell? ⟨0, 0, none⟩ = some (.int .u32 4294967295)) (hg1 : w0.cell? ⟨0, 1, none⟩ = some (.int .u32 4294967295)) :
    Calls Tryd.prog 19 #[.pointer (some ⟨pb, 0, none⟩), .int .i64 0, .string nmx] w (duAgPost pb PC sb c st n tb TU cu ts src i ms MC vm vr vc vp blk d SA nmx w0 X) := by
  go_enter Tryd.func19, Tryd.ntmps19
  have HBX1_1 := Lib.hid hO.tail
  have hN := hO.aside
  obtain ⟨X1_1, hX1_1⟩ : ∃ Y, Y = FR (optT ts (row (tb) 22 (full u32Z TU cu))) X := ⟨_, rfl⟩
  rw [← hX1_1] at hN
  have HX1_1 := Lib.hid hX1_1
  clear hO hX1_1
  have hO := hN
  clear hN
  go_wp2_with (first | (with_reducible refine Own.stay (fn := Tryd.f19) ?_) | fail)
  try with_reducible refine Own.Stay.mk ?_
  generalize hW : World.alloc _ _ = W3
  have hN : Own w0 W3 [row (w.heap.size) 33 #[.int .u32 0, .int .u32 0], row (pb) 176 PC, row (sb) 183 (full symZ (symL st) c), row (ms) 38 MC] X1_1 := by
    rw [← hW]
    exact (hO).alloc' _ (w.heap.size) (by simp)
  clear hW hO
  generalize w.heap.size = B2 at hN ⊢
  have hO := hN
  clear hN
  have hN : Own w0 W3 [row (pb) 176 PC, row (sb) 183 (full symZ (symL st) c), row (ms) 38 MC, row (B2) 33 #[.int .u32 0, .int .u32 0]] X1_1 := hO.sub [1, 2, 3, 0] (by decide)
  clear hO
  have hO := hN
  clear hN
  rw [HX1_1.out] at hO
  have hN := hO.bring HBX1_1.out
  clear hO
  have hO := hN
  clear hN
  have hP9 : Own w0 W3 (([row (pb) 176 PC, row (sb) 183 (full symZ (symL st) c), row (ms) 38 MC] ++ optT ts (row (tb) 22 (full u32Z TU cu))) ++ [row (B2) 33 #[.int .u32 0, .int .u32 0]]) X := hO.perm (perm1 [row (pb) 176 PC, row (sb) 183 (full symZ (symL st) c), row (ms) 38 MC] [row (B2) 33 #[.int .u32 0, .int .u32 0]] (optT ts (row (tb) 22 (full u32Z TU cu))))
  clear hO
  have HT := Lib.hid hP9.tail
  replace hP9 := hP9.aside
  have T9 := guAg pb PC sb c st n tb _ cu ts src i ms MC vm vr vc vp blk d SA nmx _ _ _ hP9 hk66 hk32 hk108 htl hk106 hn hnb hk104 hk187 hk200 hk288 hk287 hk199 hk198 hkind hgen hpar hi hb0 (fun k hk => ⟨Or.inl (hch k hk).1, (hch k hk).2⟩) hng hg0 hg1
  refine Calls.mono T9 ?_
  clear hP9 T9
  rintro e u4 ⟨nd5, nd6, nd7, nd8, nd9, nd10, nd11, nd12, nd13, nd14, rfl, pr15, pr16, pr17, pr18, pr19, pr20, pr21, pr22, pr23, pr24, pr25, pr26, pr27, pr28, hQ⟩
  replace hQ := hQ.bring HT.out
  clear HT
  have hO : Own w0 u4 ([row (pb) 176 nd5, row (nd7) 183 (full symZ (symL (st ++ [syk nmx 27])) nd8), row (ms) 38 nd6, row (nd11) 185 (full trfZ ([.nilIface, .int .i32 0, .int .u32 src, .int .u32 (n : Int)]) nd12), row (nd13) 33 (full refZ ([.int .u32 src, .int .u32 (n : Int)]) nd14), row (B2) 33 #[.int .u32 0, .int .u32 0]] ++ optT ts (row (nd9) 22 (full u32Z (TU ++ [.int .u32 0]) nd10))) X := hQ.perm (perm1 [row (pb) 176 nd5, row (nd7) 183 (full symZ (symL (st ++ [syk nmx 27])) nd8), row (ms) 38 nd6, row (nd11) 185 (full trfZ ([.nilIface, .int .i32 0, .int .u32 src, .int .u32 (n : Int)]) nd12), row (nd13) 33 (full refZ ([.int .u32 src, .int .u32 (n : Int)]) nd14)] [row (B2) 33 #[.int .u32 0, .int .u32 0]] (optT ts (row (nd9) 22 (full u32Z (TU ++ [.int .u32 0]) nd10)))).symm
  clear hQ
  try simp only []
  have HBX1_29 := Lib.hid hO.tail
  have hN := hO.aside
  obtain ⟨X1_29, hX1_29⟩ : ∃ Y, Y = FR (optT ts (row (nd9) 22 (full u32Z (TU ++ [.int .u32 0]) nd10))) X := ⟨_, rfl⟩
  rw [← hX1_29] at hN
  have HX1_29 := Lib.hid hX1_29
  clear hO hX1_29
  have hO := hN
  clear hN
  have hN : Own w0 u4 [row (pb) 176 nd5, row (nd7) 183 (full symZ (symL (st ++ [syk nmx 27])) nd8), row (ms) 38 nd6, row (nd11) 185 (full trfZ [.nilIface, .int .i32 0, .int .u32 src, .int .u32 (n : Int)] nd12), row (nd13) 33 (full refZ [.int .u32 src, .int .u32 (n : Int)] nd14), row (B2) 33 #[.int .u32 0, .int .u32 0]] X1_29 := hO
  clear hO
  have hO := hN
  clear hN
  obtain ⟨c9_5_0, c9_5_1, lt9_5, y9_5, -⟩ := hO.k2 5 rfl
  have HO := Lib.hid hO
  clear hO
  go_wp2_with (first | (with_reducible refine Own.stay (fn := Tryd.f19) ?_) | fail)
  try with_reducible refine Own.Stay.mk ?_
  have hO := HO.out
  clear HO c9_5_0 c9_5_1 lt9_5 y9_5
  generalize hW : World.setCell _ _ _ = W31
  have hN : Own w0 W31 [row (pb) 176 nd5, row (nd7) 183 (full symZ (symL (st ++ [syk nmx 27])) nd8), row (ms) 38 nd6, row (nd11) 185 (full trfZ [.nilIface, .int .i32 0, .int .u32 src, .int .u32 (n : Int)] nd12), row (nd13) 33 (full refZ [.int .u32 src, .int .u32 (n : Int)] nd14), row (B2) 33 #[.int .u32 src, .int .u32 (n : Int)]] X1_29 := by
    rw [← hW]
    exact ((hO).set 5 rfl 0 _).set 5 rfl 1 _
  clear hW hO
  have hO := hN
  clear hN
  have z9_0 : W31.cell? ⟨B2, 0, none⟩ = some (.int .u32 src) := hO.cell 5 rfl 0 rfl
  have z9_1 : W31.cell? ⟨B2, 1, none⟩ = some (.int .u32 (n : Int)) := hO.cell 5 rfl 1 rfl
  have hN : Own w0 W31 [row (pb) 176 nd5, row (nd7) 183 (full symZ (symL (st ++ [syk nmx 27])) nd8), row (ms) 38 nd6, row (nd11) 185 (full trfZ [.nilIface, .int .i32 0, .int .u32 src, .int .u32 (n : Int)] nd12), row (nd13) 33 (full refZ [.int .u32 src, .int .u32 (n : Int)] nd14)] X1_29 := hO.sub [0, 1, 2, 3, 4] (by decide)
  clear hO
  have hO := hN
  clear hN
  rw [HX1_29.out] at hO
  have hN := hO.bring HBX1_29.out
  clear hO
  have hO := hN
  clear hN
  refine bodyPost_ret (v := .agg #[.int .u32 src, .int .u32 (n : Int)]) ?_ rfl ⟨nd5, nd6, nd7, nd8, nd9, nd10, nd11, nd12, nd13, nd14, rfl, pr15, pr16, pr17, pr18, pr19, pr20, pr21, pr22, pr23, pr24, pr25, pr26, pr27, pr28, hO⟩
  simp [results, Tryd.results19, go_sem, z9_0, z9_1]
def duBgPost (pb : Nat) (PC : Array Value) (sb c : Nat) (st : List Sy) (n tb : Nat) (TU : List Value) (cu : Nat) (ts : Bool) (src : Int) (i ms : Nat) (MC : Array Value) (vm vr vc vp : Value) (blk : Nat → Nat) (d : Nat) (SA : Nat → Array Value) (nmx : ByteArray) (w0 : World) (X : Nat → Obj → Prop) (e : Ending) (w' : World) : Prop :=
  ∃ PC2 : Array Value, ∃ MC2 : Array Value, ∃ sb2 : Nat, ∃ c2 : Nat, ∃ tb2 : Nat, ∃ cu2 : Nat, ∃ gb2 : Nat, ∃ cg2 : Nat, e = .returned (.agg #[.int .u32 src, .int .u32 (n : Int)]) ∧ PC2[66]? = some (.int .u32 src) ∧ PC2[32]? = some (.bool ts) ∧ PC2[108]? = some (tsS ts tb2 (n + 1) cu2) ∧ PC2[106]? = some (.slice (some ⟨sb2, 0, none⟩) (n + 1) (n + 1 + c2)) ∧ PC2[104]? = some (.pointer (some ⟨blk d, 0, none⟩)) ∧ PC2[187]? = some (vm) ∧ PC2[200]? = some (vr) ∧ PC2[288]? = some (vc) ∧ PC2[287]? = some (.int .i64 (i : Int)) ∧ PC2[199]? = some (.slice none 0 0) ∧ PC2[198]? = some (.slice none 0 0) ∧ MC2[15]? = some (.int .u8 8) ∧ MC2[5]? = some (.slice (some ⟨gb2, 0, none⟩) 1 (1 + cg2)) ∧ MC2[1]? = some (vp) ∧ Own w0 w' ([row (pb) 176 PC2, row (sb2) 183 (full symZ (symL (st ++ [syk nmx 27])) c2), row (ms) 38 MC2, row (gb2) 33 (full refZ ([.int .u32 src, .int .u32 (n : Int)]) cg2)] ++ (optT ts (row (tb2) 22 (full u32Z (TU ++ [.int .u32 0]) cu2)))) X
set_option maxRecDepth 100000 in
set_option maxHeartbeats 8000000 in
theorem duBg (pb : Nat) (PC : Array Value) (sb c : Nat) (st : List Sy) (n tb : Nat) (TU : List Value) (cu : Nat) (ts : Bool) (src : Int) (i ms : Nat) (MC : Array Value) (vm vr vc vp : Value) (blk : Nat → Nat) (d : Nat) (SA : Nat → Array Value) (nmx : ByteArray) (w0 w : World) (X : Nat → Obj → Prop) (hO : Own w0 w ([row (pb) 176 PC, row (sb) 183 (full symZ (symL st) c), row (ms) 38 MC] ++ (optT ts (row (tb) 22 (full u32Z TU cu)))) X) (hk66 : PC[66]? = some (.int .u32 src)) (hk32 : PC[32]? = some (.bool ts)) (hk108 : PC[108]? = some (tsS ts tb n cu)) (htl : TU.length = n) (hk106 : PC[106]? = some (.slice (some ⟨sb, 0, none⟩) n (n + c))) (hn : st.length = n) (hnb : n ≤ 2000000) (hk104 : PC[104]? = some (.pointer (some ⟨blk d, 0, none⟩))) (hk187 : PC[187]? = some (vm)) (hk200 : PC[200]? = some (vr)) (hk288 : PC[288]? = some (vc)) (hk287 : PC[287]? = some (.int .i64 (i : Int))) (hk199 : PC[199]? = some (.slice none 0 0)) (hk198 : PC[198]? = some (.slice none 0 0)) (hkind : MC[15]? = some (.int .u8 8)) (hgen : MC[5]? = some (.slice none 0 0)) (hpar : MC[1]? = some (vp)) (hi : i ≤ 100000) (hb0 : blk 0 = ms) (hch : ∀ k, k < d → X (blk (k + 1)) (.cells (SA k) 38 (0, 0)) ∧ (SA k)[15]? = some (.int .u8 0) ∧ (SA k)[1]? = some (.pointer (some ⟨blk k, 0, none⟩))) (hng : 0 < nmx.size) (hg0 : w0.cell? ⟨0, 0, none⟩ = some (.int .u32 4294967295)) (hg1 : w0.cell? ⟨0, 1, none⟩ = some (.int .u32 4294967295)) :
    Calls Tryd.prog 19 #[.pointer (some ⟨pb, 0, none⟩), .int .i64 1, .string nmx] w (duBgPost pb PC sb c st n tb TU cu ts src i ms MC vm vr vc vp blk d SA nmx w0 X) := by
  go_enter Tryd.func19, Tryd.ntmps19
  have HBX1_1 := Lib.hid hO.tail
  have hN := hO.aside
  obtain ⟨X1_1, hX1_1⟩ : ∃ Y, Y = FR (optT ts (row (tb) 22 (full u32Z TU cu))) X := ⟨_, rfl⟩
  rw [← hX1_1] at hN
  have HX1_1 := Lib.hid hX1_1
  clear hO hX1_1
  have hO := hN
  clear hN
  go_wp2_with (first | (with_reducible refine Own.stay (fn := Tryd.f19) ?_) | fail)
  try with_reducible refine Own.Stay.mk ?_
  generalize hW : World.alloc _ _ = W3
  have hN : Own w0 W3 [row (w.heap.size) 33 #[.int .u32 0, .int .u32 0], row (pb) 176 PC, row (sb) 183 (full symZ (symL st) c), row (ms) 38 MC] X1_1 := by
    rw [← hW]
    exact (hO).alloc' _ (w.heap.size) (by simp)
  clear hW hO
  generalize w.heap.size = B2 at hN ⊢
  have hO := hN
  clear hN
  have hN : Own w0 W3 [row (pb) 176 PC, row (sb) 183 (full symZ (symL st) c), row (ms) 38 MC, row (B2) 33 #[.int .u32 0, .int .u32 0]] X1_1 := hO.sub [1, 2, 3, 0] (by decide)
  clear hO
  have hO := hN
  clear hN
  rw [HX1_1.out] at hO
  have hN := hO.bring HBX1_1.out
  clear hO
  have hO := hN
  clear hN
  have hP9 : Own w0 W3 (([row (pb) 176 PC, row (sb) 183 (full symZ (symL st) c), row (ms) 38 MC] ++ optT ts (row (tb) 22 (full u32Z TU cu))) ++ [row (B2) 33 #[.int .u32 0, .int .u32 0]]) X := hO.perm (perm1 [row (pb) 176 PC, row (sb) 183 (full symZ (symL st) c), row (ms) 38 MC] [row (B2) 33 #[.int .u32 0, .int .u32 0]] (optT ts (row (tb) 22 (full u32Z TU cu))))
  clear hO
  have HT := Lib.hid hP9.tail
  replace hP9 := hP9.aside
  have T9 := guBg pb PC sb c st n tb _ cu ts src i ms MC vm vr vc vp blk d SA nmx _ _ _ hP9 hk66 hk32 hk108 htl hk106 hn hnb hk104 hk187 hk200 hk288 hk287 hk199 hk198 hkind hgen hpar hi hb0 (fun k hk => ⟨Or.inl (hch k hk).1, (hch k hk).2⟩) hng hg0 hg1
  refine Calls.mono T9 ?_
  clear hP9 T9
  rintro e u4 ⟨nd5, nd6, nd7, nd8, nd9, nd10, nd11, nd12, rfl, pr13, pr14, pr15, pr16, pr17, pr18, pr19, pr20, pr21, pr22, pr23, pr24, pr25, pr26, hQ⟩
  replace hQ := hQ.bring HT.out
  clear HT
  have hO : Own w0 u4 ([row (pb) 176 nd5, row (nd7) 183 (full symZ (symL (st ++ [syk nmx 27])) nd8), row (ms) 38 nd6, row (nd11) 33 (full refZ ([.int .u32 src, .int .u32 (n : Int)]) nd12), row (B2) 33 #[.int .u32 0, .int .u32 0]] ++ optT ts (row (nd9) 22 (full u32Z (TU ++ [.int .u32 0]) nd10))) X := hQ.perm (perm1 [row (pb) 176 nd5, row (nd7) 183 (full symZ (symL (st ++ [syk nmx 27])) nd8), row (ms) 38 nd6, row (nd11) 33 (full refZ ([.int .u32 src, .int .u32 (n : Int)]) nd12)] [row (B2) 33 #[.int .u32 0, .int .u32 0]] (optT ts (row (nd9) 22 (full u32Z (TU ++ [.int .u32 0]) nd10)))).symm
  clear hQ
  try simp only []
  have HBX1_27 := Lib.hid hO.tail
  have hN := hO.aside
  obtain ⟨X1_27, hX1_27⟩ : ∃ Y, Y = FR (optT ts (row (nd9) 22 (full u32Z (TU ++ [.int .u32 0]) nd10))) X := ⟨_, rfl⟩
  rw [← hX1_27] at hN
  have HX1_27 := Lib.hid hX1_27
  clear hO hX1_27
  have hO := hN
  clear hN
  have hN : Own w0 u4 [row (pb) 176 nd5, row (nd7) 183 (full symZ (symL (st ++ [syk nmx 27])) nd8), row (ms) 38 nd6, row (nd11) 33 (full refZ [.int .u32 src, .int .u32 (n : Int)] nd12), row (B2) 33 #[.int .u32 0, .int .u32 0]] X1_27 := hO
  clear hO
  have hO := hN
  clear hN
  obtain ⟨c9_4_0, c9_4_1, lt9_4, y9_4, -⟩ := hO.k2 4 rfl
  have HO := Lib.hid hO
  clear hO
  go_wp2_with (first | (with_reducible refine Own.stay (fn := Tryd.f19) ?_) | fail)
  try with_reducible refine Own.Stay.mk ?_
  have hO := HO.out
  clear HO c9_4_0 c9_4_1 lt9_4 y9_4
  generalize hW : World.setCell _ _ _ = W29
  have hN : Own w0 W29 [row (pb) 176 nd5, row (nd7) 183 (full symZ (symL (st ++ [syk nmx 27])) nd8), row (ms) 38 nd6, row (nd11) 33 (full refZ [.int .u32 src, .int .u32 (n : Int)] nd12), row (B2) 33 #[.int .u32 src, .int .u32 (n : Int)]] X1_27 := by
    rw [← hW]
    exact ((hO).set 4 rfl 0 _).set 4 rfl 1 _
  clear hW hO
  have hO := hN
  clear hN
  have z9_0 : W29.cell? ⟨B2, 0, none⟩ = some (.int .u32 src) := hO.cell 4 rfl 0 rfl
  have z9_1 : W29.cell? ⟨B2, 1, none⟩ = some (.int .u32 (n : Int)) := hO.cell 4 rfl 1 rfl
  have hN : Own w0 W29 [row (pb) 176 nd5, row (nd7) 183 (full symZ (symL (st ++ [syk nmx 27])) nd8), row (ms) 38 nd6, row (nd11) 33 (full refZ [.int .u32 src, .int .u32 (n : Int)] nd12)] X1_27 := hO.sub [0, 1, 2, 3] (by decide)
  clear hO
  have hO := hN
  clear hN
  rw [HX1_27.out] at hO
  have hN := hO.bring HBX1_27.out
  clear hO
  have hO := hN
  clear hN
  refine bodyPost_ret (v := .agg #[.int .u32 src, .int .u32 (n : Int)]) ?_ rfl ⟨nd5, nd6, nd7, nd8, nd9, nd10, nd11, nd12, rfl, pr13, pr14, pr15, pr16, pr17, pr18, pr19, pr20, pr21, pr22, pr23, pr24, pr25, pr26, hO⟩
  simp [results, Tryd.results19, go_sem, z9_0, z9_1]
def duCgPost (pb : Nat) (PC : Array Value) (sb c : Nat) (st : List Sy) (n tb : Nat) (TU : List Value) (cu : Nat) (ts : Bool) (src : Int) (i ms : Nat) (MC : Array Value) (vm vr vc vp : Value) (nmx : ByteArray) (w0 : World) (X : Nat → Obj → Prop) (e : Ending) (w' : World) : Prop :=
  ∃ PC2 : Array Value, ∃ MC2 : Array Value, ∃ sb2 : Nat, ∃ c2 : Nat, ∃ tb2 : Nat, ∃ cu2 : Nat, ∃ qb2 : Nat, ∃ cq2 : Nat, ∃ gb2 : Nat, ∃ cg2 : Nat, e = .returned (.agg #[.int .u32 src, .int .u32 (n : Int)]) ∧ PC2[66]? = some (.int .u32 src) ∧ PC2[32]? = some (.bool ts) ∧ PC2[108]? = some (tsS ts tb2 (n + 1) cu2) ∧ PC2[106]? = some (.slice (some ⟨sb2, 0, none⟩) (n + 1) (n + 1 + c2)) ∧ PC2[104]? = some (.pointer (some ⟨ms, 0, none⟩)) ∧ PC2[187]? = some (vm) ∧ PC2[200]? = some (vr) ∧ PC2[288]? = some (vc) ∧ PC2[287]? = some (.int .i64 (i : Int)) ∧ PC2[199]? = some (.slice (some ⟨qb2, 0, none⟩) 1 (1 + cq2)) ∧ PC2[198]? = some (.slice none 0 0) ∧ MC2[15]? = some (.int .u8 8) ∧ MC2[5]? = some (.slice (some ⟨gb2, 0, none⟩) 1 (1 + cg2)) ∧ MC2[1]? = some (vp) ∧ Own w0 w' ([row (pb) 176 PC2, row (sb2) 183 (full symZ (symL (st ++ [syk nmx 27])) c2), row (ms) 38 MC2, row (qb2) 185 (full trfZ ([.nilIface, .int .i32 0, .int .u32 src, .int .u32 (n : Int)]) cq2), row (gb2) 33 (full refZ ([.int .u32 src, .int .u32 (n : Int)]) cg2)] ++ (optT ts (row (tb2) 22 (full u32Z (TU ++ [.int .u32 0]) cu2)))) X
set_option maxRecDepth 100000 in
set_option maxHeartbeats 8000000 in
theorem duCg (pb : Nat) (PC : Array Value) (sb c : Nat) (st : List Sy) (n tb : Nat) (TU : List Value) (cu : Nat) (ts : Bool) (src : Int) (i ms : Nat) (MC : Array Value) (vm vr vc vp : Value) (nmx : ByteArray) (w0 w : World) (X : Nat → Obj → Prop) (hO : Own w0 w ([row (pb) 176 PC, row (sb) 183 (full symZ (symL st) c), row (ms) 38 MC] ++ (optT ts (row (tb) 22 (full u32Z TU cu)))) X) (hk66 : PC[66]? = some (.int .u32 src)) (hk32 : PC[32]? = some (.bool ts)) (hk108 : PC[108]? = some (tsS ts tb n cu)) (htl : TU.length = n) (hk106 : PC[106]? = some (.slice (some ⟨sb, 0, none⟩) n (n + c))) (hn : st.length = n) (hnb : n ≤ 2000000) (hk104 : PC[104]? = some (.pointer (some ⟨ms, 0, none⟩))) (hk187 : PC[187]? = some (vm)) (hk200 : PC[200]? = some (vr)) (hk288 : PC[288]? = some (vc)) (hk287 : PC[287]? = some (.int .i64 (i : Int))) (hk199 : PC[199]? = some (.slice none 0 0)) (hk198 : PC[198]? = some (.slice none 0 0)) (hkind : MC[15]? = some (.int .u8 8)) (hgen : MC[5]? = some (.slice none 0 0)) (hpar : MC[1]? = some (vp)) (hi : i ≤ 100000) (hng : 0 < nmx.size) (hg0 : w0.cell? ⟨0, 0, none⟩ = some (.int .u32 4294967295)) (hg1 : w0.cell? ⟨0, 1, none⟩ = some (.int .u32 4294967295)) :
    Calls Tryd.prog 19 #[.pointer (some ⟨pb, 0, none⟩), .int .i64 2, .string nmx] w (duCgPost pb PC sb c st n tb TU cu ts src i ms MC vm vr vc vp nmx w0 X) := by
  go_enter Tryd.func19, Tryd.ntmps19
  have HBX1_1 := Lib.hid hO.tail
  have hN := hO.aside
  obtain ⟨X1_1, hX1_1⟩ : ∃ Y, Y = FR (optT ts (row (tb) 22 (full u32Z TU cu))) X := ⟨_, rfl⟩
  rw [← hX1_1] at hN
  have HX1_1 := Lib.hid hX1_1
  clear hO hX1_1
  have hO := hN
  clear hN
  go_wp2_with (first | (with_reducible refine Own.stay (fn := Tryd.f19) ?_) | fail)
  try with_reducible refine Own.Stay.mk ?_
  generalize hW : World.alloc _ _ = W3
  have hN : Own w0 W3 [row (w.heap.size) 33 #[.int .u32 0, .int .u32 0], row (pb) 176 PC, row (sb) 183 (full symZ (symL st) c), row (ms) 38 MC] X1_1 := by
    rw [← hW]
    exact (hO).alloc' _ (w.heap.size) (by simp)
  clear hW hO
  generalize w.heap.size = B2 at hN ⊢
  have hO := hN
  clear hN
  have hN : Own w0 W3 [row (pb) 176 PC, row (sb) 183 (full symZ (symL st) c), row (ms) 38 MC, row (B2) 33 #[.int .u32 0, .int .u32 0]] X1_1 := hO.sub [1, 2, 3, 0] (by decide)
  clear hO
  have hO := hN
  clear hN
  rw [HX1_1.out] at hO
  have hN := hO.bring HBX1_1.out
  clear hO
  have hO := hN
  clear hN
  have hP9 : Own w0 W3 (([row (pb) 176 PC, row (sb) 183 (full symZ (symL st) c), row (ms) 38 MC] ++ optT ts (row (tb) 22 (full u32Z TU cu))) ++ [row (B2) 33 #[.int .u32 0, .int .u32 0]]) X := hO.perm (perm1 [row (pb) 176 PC, row (sb) 183 (full symZ (symL st) c), row (ms) 38 MC] [row (B2) 33 #[.int .u32 0, .int .u32 0]] (optT ts (row (tb) 22 (full u32Z TU cu))))
  clear hO
  have HT := Lib.hid hP9.tail
  replace hP9 := hP9.aside
  have T9 := guCg pb PC sb c st n tb _ cu ts src i ms MC vm vr vc vp nmx _ _ _ hP9 hk66 hk32 hk108 htl hk106 hn hnb hk104 hk187 hk200 hk288 hk287 hk199 hk198 hkind hgen hpar hi hng hg0 hg1
  refine Calls.mono T9 ?_
  clear hP9 T9
  rintro e u4 ⟨nd5, nd6, nd7, nd8, nd9, nd10, nd11, nd12, nd13, nd14, rfl, pr15, pr16, pr17, pr18, pr19, pr20, pr21, pr22, pr23, pr24, pr25, pr26, pr27, pr28, hQ⟩
  replace hQ := hQ.bring HT.out
  clear HT
  have hO : Own w0 u4 ([row (pb) 176 nd5, row (nd7) 183 (full symZ (symL (st ++ [syk nmx 27])) nd8), row (ms) 38 nd6, row (nd11) 185 (full trfZ ([.nilIface, .int .i32 0, .int .u32 src, .int .u32 (n : Int)]) nd12), row (nd13) 33 (full refZ ([.int .u32 src, .int .u32 (n : Int)]) nd14), row (B2) 33 #[.int .u32 0, .int .u32 0]] ++ optT ts (row (nd9) 22 (full u32Z (TU ++ [.int .u32 0]) nd10))) X := hQ.perm (perm1 [row (pb) 176 nd5, row (nd7) 183 (full symZ (symL (st ++ [syk nmx 27])) nd8), row (ms) 38 nd6, row (nd11) 185 (full trfZ ([.nilIface, .int .i32 0, .int .u32 src, .int .u32 (n : Int)]) nd12), row (nd13) 33 (full refZ ([.int .u32 src, .int .u32 (n : Int)]) nd14)] [row (B2) 33 #[.int .u32 0, .int .u32 0]] (optT ts (row (nd9) 22 (full u32Z (TU ++ [.int .u32 0]) nd10)))).symm
  clear hQ
  try simp only []
  have HBX1_29 := Lib.hid hO.tail
  have hN := hO.aside
  obtain ⟨X1_29, hX1_29⟩ : ∃ Y, Y = FR (optT ts (row (nd9) 22 (full u32Z (TU ++ [.int .u32 0]) nd10))) X := ⟨_, rfl⟩
  rw [← hX1_29] at hN
  have HX1_29 := Lib.hid hX1_29
  clear hO hX1_29
  have hO := hN
  clear hN
  have hN : Own w0 u4 [row (pb) 176 nd5, row (nd7) 183 (full symZ (symL (st ++ [syk nmx 27])) nd8), row (ms) 38 nd6, row (nd11) 185 (full trfZ [.nilIface, .int .i32 0, .int .u32 src, .int .u32 (n : Int)] nd12), row (nd13) 33 (full refZ [.int .u32 src, .int .u32 (n : Int)] nd14), row (B2) 33 #[.int .u32 0, .int .u32 0]] X1_29 := hO
  clear hO
  have hO := hN
  clear hN
  obtain ⟨c9_5_0, c9_5_1, lt9_5, y9_5, -⟩ := hO.k2 5 rfl
  have HO := Lib.hid hO
  clear hO
  go_wp2_with (first | (with_reducible refine Own.stay (fn := Tryd.f19) ?_) | fail)
  try with_reducible refine Own.Stay.mk ?_
  have hO := HO.out
  clear HO c9_5_0 c9_5_1 lt9_5 y9_5
  generalize hW : World.setCell _ _ _ = W31
  have hN : Own w0 W31 [row (pb) 176 nd5, row (nd7) 183 (full symZ (symL (st ++ [syk nmx 27])) nd8), row (ms) 38 nd6, row (nd11) 185 (full trfZ [.nilIface, .int .i32 0, .int .u32 src, .int .u32 (n : Int)] nd12), row (nd13) 33 (full refZ [.int .u32 src, .int .u32 (n : Int)] nd14), row (B2) 33 #[.int .u32 src, .int .u32 (n : Int)]] X1_29 := by
    rw [← hW]
    exact ((hO).set 5 rfl 0 _).set 5 rfl 1 _
  clear hW hO
  have hO := hN
  clear hN
  have z9_0 : W31.cell? ⟨B2, 0, none⟩ = some (.int .u32 src) := hO.cell 5 rfl 0 rfl
  have z9_1 : W31.cell? ⟨B2, 1, none⟩ = some (.int .u32 (n : Int)) := hO.cell 5 rfl 1 rfl
  have hN : Own w0 W31 [row (pb) 176 nd5, row (nd7) 183 (full symZ (symL (st ++ [syk nmx 27])) nd8), row (ms) 38 nd6, row (nd11) 185 (full trfZ [.nilIface, .int .i32 0, .int .u32 src, .int .u32 (n : Int)] nd12), row (nd13) 33 (full refZ [.int .u32 src, .int .u32 (n : Int)] nd14)] X1_29 := hO.sub [0, 1, 2, 3, 4] (by decide)
  clear hO
  have hO := hN
  clear hN
  rw [HX1_29.out] at hO
  have hN := hO.bring HBX1_29.out
  clear hO
  have hO := hN
  clear hN
  refine bodyPost_ret (v := .agg #[.int .u32 src, .int .u32 (n : Int)]) ?_ rfl ⟨nd5, nd6, nd7, nd8, nd9, nd10, nd11, nd12, nd13, nd14, rfl, pr15, pr16, pr17, pr18, pr19, pr20, pr21, pr22, pr23, pr24, pr25, pr26, pr27, pr28, hO⟩
  simp [results, Tryd.results19, go_sem, z9_0, z9_1]
def duDgPost (pb : Nat) (PC : Array Value) (sb c : Nat) (st : List Sy) (n tb : Nat) (TU : List Value) (cu : Nat) (ts : Bool) (src : Int) (i ms : Nat) (MC : Array Value) (vm vr vc vp : Value) (nmx : ByteArray) (w0 : World) (X : Nat → Obj → Prop) (e : Ending) (w' : World) : Prop :=
  ∃ PC2 : Array Value, ∃ MC2 : Array Value, ∃ sb2 : Nat, ∃ c2 : Nat, ∃ tb2 : Nat, ∃ cu2 : Nat, ∃ lb2 : Nat, ∃ cl2 : Nat, ∃ gb2 : Nat, ∃ cg2 : Nat, e = .returned (.agg #[.int .u32 src, .int .u32 (n : Int)]) ∧ PC2[66]? = some (.int .u32 src) ∧ PC2[32]? = some (.bool ts) ∧ PC2[108]? = some (tsS ts tb2 (n + 1) cu2) ∧ PC2[106]? = some (.slice (some ⟨sb2, 0, none⟩) (n + 1) (n + 1 + c2)) ∧ PC2[104]? = some (.pointer (some ⟨ms, 0, none⟩)) ∧ PC2[187]? = some (vm) ∧ PC2[200]? = some (vr) ∧ PC2[288]? = some (vc) ∧ PC2[287]? = some (.int .i64 (i : Int)) ∧ PC2[199]? = some (.slice none 0 0) ∧ PC2[198]? = some (.slice (some ⟨lb2, 0, none⟩) 1 (1 + cl2)) ∧ MC2[15]? = some (.int .u8 0) ∧ MC2[5]? = some (.slice (some ⟨gb2, 0, none⟩) 1 (1 + cg2)) ∧ MC2[1]? = some (vp) ∧ Own w0 w' ([row (pb) 176 PC2, row (sb2) 183 (full symZ (symL (st ++ [syk nmx 27])) c2), row (ms) 38 MC2, row (lb2) 33 (full refZ ([.int .u32 src, .int .u32 (n : Int)]) cl2), row (gb2) 33 (full refZ ([.int .u32 src, .int .u32 (n : Int)]) cg2)] ++ (optT ts (row (tb2) 22 (full u32Z (TU ++ [.int .u32 0]) cu2)))) X
set_option maxRecDepth 100000 in
set_option maxHeartbeats 8000000 in
theorem duDg (pb : Nat) (PC : Array Value) (sb c : Nat) (st : List Sy) (n tb : Nat) (TU : List Value) (cu : Nat) (ts : Bool) (src : Int) (i ms : Nat) (MC : Array Value) (vm vr vc vp : Value) (nmx : ByteArray) (w0 w : World) (X : Nat → Obj → Prop) (hO : Own w0 w ([row (pb) 176 PC, row (sb) 183 (full symZ (symL st) c), row (ms) 38 MC] ++ (optT ts (row (tb) 22 (full u32Z TU cu)))) X) (hk66 : PC[66]? = some (.int .u32 src)) (hk32 : PC[32]? = some (.bool ts)) (hk108 : PC[108]? = some (tsS ts tb n cu)) (htl : TU.length = n) (hk106 : PC[106]? = some (.slice (some ⟨sb, 0, none⟩) n (n + c))) (hn : st.length = n) (hnb : n ≤ 2000000) (hk104 : PC[104]? = some (.pointer (some ⟨ms, 0, none⟩))) (hk187 : PC[187]? = some (vm)) (hk200 : PC[200]? = some (vr)) (hk288 : PC[288]? = some (vc)) (hk287 : PC[287]? = some (.int .i64 (i : Int))) (hk199 : PC[199]? = some (.slice none 0 0)) (hk198 : PC[198]? = some (.slice none 0 0)) (hkind : MC[15]? = some (.int .u8 0)) (hgen : MC[5]? = some (.slice none 0 0)) (hpar : MC[1]? = some (vp)) (hi : i ≤ 100000) (hng : 0 < nmx.size) (hg0 : w0.cell? ⟨0, 0, none⟩ = some (.int .u32 4294967295)) (hg1 : w0.cell? ⟨0, 1, none⟩ = some (.int .u32 4294967295)) :
    Calls Tryd.prog 19 #[.pointer (some ⟨pb, 0, none⟩), .int .i64 2, .string nmx] w (duDgPost pb PC sb c st n tb TU cu ts src i ms MC vm vr vc vp nmx w0 X) := by
  go_enter Tryd.func19, Tryd.ntmps19
  have HBX1_1 := Lib.hid hO.tail
  have hN := hO.aside
  obtain ⟨X1_1, hX1_1⟩ : ∃ Y, Y = FR (optT ts (row (tb) 22 (full u32Z TU cu))) X := ⟨_, rfl⟩
  rw [← hX1_1] at hN
  have HX1_1 := Lib.hid hX1_1
  clear hO hX1_1
  have hO := hN
  clear hN
  go_wp2_with (first | (with_reducible refine Own.stay (fn := Tryd.f19) ?_) | fail)
  try with_reducible refine Own.Stay.mk ?_
  generalize hW : World.alloc _ _ = W3
  have hN : Own w0 W3 [row (w.heap.size) 33 #[.int .u32 0, .int .u32 0], row (pb) 176 PC, row (sb) 183 (full symZ (symL st) c), row (ms) 38 MC] X1_1 := by
    rw [← hW]
    exact (hO).alloc' _ (w.heap.size) (by simp)
  clear hW hO
  generalize w.heap.size = B2 at hN ⊢
  have hO := hN
  clear hN
  have hN : Own w0 W3 [row (pb) 176 PC, row (sb) 183 (full symZ (symL st) c), row (ms) 38 MC, row (B2) 33 #[.int .u32 0, .int .u32 0]] X1_1 := hO.sub [1, 2, 3, 0] (by decide)
  clear hO
  have hO := hN
  clear hN
  rw [HX1_1.out] at hO
  have hN := hO.bring HBX1_1.out
  clear hO
  have hO := hN
  clear hN
  have hP9 : Own w0 W3 (([row (pb) 176 PC, row (sb) 183 (full symZ (symL st) c), row (ms) 38 MC] ++ optT ts (row (tb) 22 (full u32Z TU cu))) ++ [row (B2) 33 #[.int .u32 0, .int .u32 0]]) X := hO.perm (perm1 [row (pb) 176 PC, row (sb) 183 (full symZ (symL st) c), row (ms) 38 MC] [row (B2) 33 #[.int .u32 0, .int .u32 0]] (optT ts (row (tb) 22 (full u32Z TU cu))))
  clear hO
  have HT := Lib.hid hP9.tail
  replace hP9 := hP9.aside
  have T9 := guDg pb PC sb c st n tb _ cu ts src i ms MC vm vr vc vp nmx _ _ _ hP9 hk66 hk32 hk108 htl hk106 hn hnb hk104 hk187 hk200 hk288 hk287 hk199 hk198 hkind hgen hpar hi hng hg0 hg1
  refine Calls.mono T9 ?_
  clear hP9 T9
  rintro e u4 ⟨nd5, nd6, nd7, nd8, nd9, nd10, nd11, nd12, nd13, nd14, rfl, pr15, pr16, pr17, pr18, pr19, pr20, pr21, pr22, pr23, pr24, pr25, pr26, pr27, pr28, hQ⟩
  replace hQ := hQ.bring HT.out
  clear HT
  have hO : Own w0 u4 ([row (pb) 176 nd5, row (nd7) 183 (full symZ (symL (st ++ [syk nmx 27])) nd8), row (ms) 38 nd6, row (nd11) 33 (full refZ ([.int .u32 src, .int .u32 (n : Int)]) nd12), row (nd13) 33 (full refZ ([.int .u32 src, .int .u32 (n : Int)]) nd14), row (B2) 33 #[.int .u32 0, .int .u32 0]] ++ optT ts (row (nd9) 22 (full u32Z (TU ++ [.int .u32 0]) nd10))) X := hQ.perm (perm1 [row (pb) 176 nd5, row (nd7) 183 (full symZ (symL (st ++ [syk nmx 27])) nd8), row (ms) 38 nd6, row (nd11) 33 (full refZ ([.int .u32 src, .int .u32 (n : Int)]) nd12), row (nd13) 33 (full refZ ([.int .u32 src, .int .u32 (n : Int)]) nd14)] [row (B2) 33 #[.int .u32 0, .int .u32 0]] (optT ts (row (nd9) 22 (full u32Z (TU ++ [.int .u32 0]) nd10)))).symm
  clear hQ
  try simp only []
  have HBX1_29 := Lib.hid hO.tail
  have hN := hO.aside
  obtain ⟨X1_29, hX1_29⟩ : ∃ Y, Y = FR (optT ts (row (nd9) 22 (full u32Z (TU ++ [.int .u32 0]) nd10))) X := ⟨_, rfl⟩
  rw [← hX1_29] at hN
  have HX1_29 := Lib.hid hX1_29
  clear hO hX1_29
  have hO := hN
  clear hN
  have hN : Own w0 u4 [row (pb) 176 nd5, row (nd7) 183 (full symZ (symL (st ++ [syk nmx 27])) nd8), row (ms) 38 nd6, row (nd11) 33 (full refZ [.int .u32 src, .int .u32 (n : Int)] nd12), row (nd13) 33 (full refZ [.int .u32 src, .int .u32 (n : Int)] nd14), row (B2) 33 #[.int .u32 0, .int .u32 0]] X1_29 := hO
  clear hO
  have hO := hN
  clear hN
  obtain ⟨c9_5_0, c9_5_1, lt9_5, y9_5, -⟩ := hO.k2 5 rfl
  have HO := Lib.hid hO
  clear hO
  go_wp2_with (first | (with_reducible refine Own.stay (fn := Tryd.f19) ?_) | fail)
  try with_reducible refine Own.Stay.mk ?_
  have hO := HO.out
  clear HO c9_5_0 c9_5_1 lt9_5 y9_5
  generalize hW : World.setCell _ _ _ = W31
  have hN : Own w0 W31 [row (pb) 176 nd5, row (nd7) 183 (full symZ (symL (st ++ [syk nmx 27])) nd8), row (ms) 38 nd6, row (nd11) 33 (full refZ [.int .u32 src, .int .u32 (n : Int)] nd12), row (nd13) 33 (full refZ [.int .u32 src, .int .u32 (n : Int)] nd14), row (B2) 33 #[.int .u32 src, .int .u32 (n : Int)]] X1_29 := by
    rw [← hW]
    exact ((hO).set 5 rfl 0 _).set 5 rfl 1 _
  clear hW hO
  have hO := hN
  clear hN
  have z9_0 : W31.cell? ⟨B2, 0, none⟩ = some (.int .u32 src) := hO.cell 5 rfl 0 rfl
  have z9_1 : W31.cell? ⟨B2, 1, none⟩ = some (.int .u32 (n : Int)) := hO.cell 5 rfl 1 rfl
  have hN : Own w0 W31 [row (pb) 176 nd5, row (nd7) 183 (full symZ (symL (st ++ [syk nmx 27])) nd8), row (ms) 38 nd6, row (nd11) 33 (full refZ [.int .u32 src, .int .u32 (n : Int)] nd12), row (nd13) 33 (full refZ [.int .u32 src, .int .u32 (n : Int)] nd14)] X1_29 := hO.sub [0, 1, 2, 3, 4] (by decide)
  clear hO
  have hO := hN
  clear hN
  rw [HX1_29.out] at hO
  have hN := hO.bring HBX1_29.out
  clear hO
  have hO := hN
  clear hN
  refine bodyPost_ret (v := .agg #[.int .u32 src, .int .u32 (n : Int)]) ?_ rfl ⟨nd5, nd6, nd7, nd8, nd9, nd10, nd11, nd12, nd13, nd14, rfl, pr15, pr16, pr17, pr18, pr19, pr20, pr21, pr22, pr23, pr24, pr25, pr26, pr27, pr28, hO⟩
  simp [results, Tryd.results19, go_sem, z9_0, z9_1]
end Go.Proofs.YtkmojepgbbdeiaaDoor.Use
