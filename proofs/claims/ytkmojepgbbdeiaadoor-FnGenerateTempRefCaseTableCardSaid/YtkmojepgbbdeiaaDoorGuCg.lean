/- generateTempRef, walked: one of its cases. No condition. -/
import Derived.Test.YtkmojepgbbdeiaaDoorTs
import Derived.Test.YtkmojepgbbdeiaaDoorMno
import Derived.Test.YtkmojepgbbdeiaaDoorMini
import Derived.Test.YtkmojepgbbdeiaaDoorAppL
import Derived.Test.YtkmojepgbbdeiaaDoorApp
import Derived.Test.YtkmojepgbbdeiaaDoorOwnK
import Derived.Test.YtkmojepgbbdeiaaDoorOwn
import Derived.Test.YtkmojepgbbdeiaaDoorDeepCells
import Derived.Test.YtkmojepgbbdeiaaDoorRows
import Derived.Test.YtkmojepgbbdeiaaDoorLive
namespace Go.Proofs.YtkmojepgbbdeiaaDoor.Use
open Go.ChangeShapes Go.WideShapes Go.ChangeAt Go.RowKit Go.Sort Own
set_option linter.unusedVariables false
def rguCg2E (pb : Nat) (n : Nat) (src : Int) (nd5 : Array Value) (B22 : Nat) : Nat → Rega.Atoms → Value
  | 0, α => .pointer (some ⟨pb, 0, none⟩)
  | 1, α => .pointer (some ⟨pb, 0, none⟩)
  | 2, α => .pointer (some ⟨pb, 0, none⟩)
  | 3, α => .pointer (some ⟨pb, 199, none⟩)
  | 4, α => (.slice none 0 0)
  | 5, α => .agg #[.int .u32 src, .int .u32 (n : Int)]
  | 6, α => .agg #[.nilIface, .int .i32 0, .int .u32 src, .int .u32 (n : Int)]
  | 7, α => .slice (some ⟨α 7, 0, none⟩) 1 1
  | 8, α => .slice (some ⟨α 8, 0, none⟩) 1 (1 + α 1008)
  | 9, α => .pointer (some ⟨pb, 0, none⟩)
  | 10, α => .pointer (some ⟨pb, 199, none⟩)
  | 11, α => undef
  | _, _ => undef
def rguCg2Anc : Nat → List Nat
  | 2 => [1]
  | 3 => [1, 2]
  | 4 => [1, 2, 3]
  | 6 => [5]
  | 7 => [5, 6]
  | 8 => [1, 2, 3, 4, 5, 6, 7]
  | 9 => [0, 1, 2, 3, 4, 5, 6, 7, 8]
  | 10 => [0, 1, 2, 3, 4, 5, 6, 7, 8, 9]
  | 11 => [0, 1, 2, 3, 4, 5, 6, 7, 8, 9, 10]
  | _ => []
def rguCg2Trn : Nat → List Nat
  | 11 => [1999]
  | _ => []
def rguCg2Cnt : List (Nat × Nat) := [(7, 1), (8, 1)]
def rguCg2T1999 (pb : Nat) (n : Nat) (src : Int) (nd5 : Array Value) (B22 : Nat) (L9 : Nat → Bool) (α : Rega.Atoms) : Rw := if L9 11 = true then row (pb) 176 (nd5.setIfInBounds 199 (.slice (some ⟨α 8, 0, none⟩) 1 (1 + α 1008))) else row (pb) 176 nd5
def rguCg2R (pb : Nat) (n : Nat) (src : Int) (nd5 : Array Value) (B22 : Nat) (L9 : Nat → Bool) (α : Rega.Atoms) (ix9 : Nat) : Rw := if ix9 = 999 then row (B22) 33 #[.int .u32 src, .int .u32 (n : Int)] else if ix9 = 1999 then rguCg2T1999 pb n src nd5 B22 L9 α else if ix9 = 7 then row (α 7) 185 #[.nilIface, .int .i32 0, .int .u32 src, .int .u32 (n : Int)] else if ix9 = 8 then row (α 8) 185 (full trfZ [.nilIface, .int .i32 0, .int .u32 src, .int .u32 (n : Int)] (α 1008)) else (0, .map #[] 0)
theorem rguCg2_he (pb : Nat) (n : Nat) (src : Int) (nd5 : Array Value) (B22 : Nat) : ∀ kk α α', (∀ j, (j % 1000 = kk ∨ j % 1000 ∈ rguCg2Anc kk) → α j = α' j) → rguCg2E pb n src nd5 B22 kk α = rguCg2E pb n src nd5 B22 kk α' := by
  intro kk α α' h
  match kk with
  | 0 => rfl
  | 1 => rfl
  | 2 => rfl
  | 3 => rfl
  | 4 => rfl
  | 5 => rfl
  | 6 => rfl
  | 7 => simp only [rguCg2E, h 7 (Or.inl rfl)]
  | 8 => simp only [rguCg2E, h 8 (Or.inl rfl), h 1008 (Or.inl rfl)]
  | 9 => rfl
  | 10 => rfl
  | 11 => rfl
  | n + 12 => rfl
theorem rguCg2_st (pb : Nat) (n : Nat) (src : Int) (nd5 : Array Value) (B22 : Nat) : Stable rguCg2Cnt 2 rguCg2Anc rguCg2Trn (rguCg2R pb n src nd5 B22) := by
  intro k9 L9 α α' ix9 hk hcl hα hact ht
  have hp := act_places hact
  replace hp : ix9 ∈ [999, 1999, 7, 8] := hp
  simp only [List.mem_cons, List.not_mem_nil, or_false] at hp
  rcases hp with rfl | rfl | rfl | rfl
  · rfl
  · show rguCg2T1999 pb n src nd5 B22 (Rega.ran L9 k9) α' = rguCg2T1999 pb n src nd5 B22 L9 α
    unfold rguCg2T1999
    have n11 : 11 ≠ k9 := fun e => ht (by rw [← e]; decide)
    rw [ran_ne n11]
    by_cases e11 : L9 11 = true
    · first | rw [if_pos e11, if_pos e11] | rw [if_pos e11]
      try simp only [hα 8 (ne_ran hk (hcl 11 e11 8 (by decide))), hα 1008 (ne_ran hk (hcl 11 e11 8 (by decide)))]
    first | rw [if_neg e11, if_neg e11] | rw [if_neg e11]
  · have e0 : L9 7 = true := act_lt hact (by decide)
    show row (α' 7) 185 #[.nilIface, .int .i32 0, .int .u32 src, .int .u32 (n : Int)] = row (α 7) 185 #[.nilIface, .int .i32 0, .int .u32 src, .int .u32 (n : Int)]
    simp only [hα 7 (ne_ran hk e0)]
  · have e0 : L9 8 = true := act_lt hact (by decide)
    show row (α' 8) 185 (full trfZ [.nilIface, .int .i32 0, .int .u32 src, .int .u32 (n : Int)] (α' 1008)) = row (α 8) 185 (full trfZ [.nilIface, .int .i32 0, .int .u32 src, .int .u32 (n : Int)] (α 1008))
    simp only [hα 8 (ne_ran hk e0), hα 1008 (ne_ran hk e0)]
def rguCg3E (n : Nat) (src : Int) (ms : Nat) (MC : Array Value) (B22 : Nat) : Nat → Rega.Atoms → Value
  | 0, α => .pointer (some ⟨ms, 0, none⟩)
  | 1, α => .pointer (some ⟨ms, 0, none⟩)
  | 2, α => .pointer (some ⟨ms, 0, none⟩)
  | 3, α => .pointer (some ⟨ms, 5, none⟩)
  | 4, α => .slice none 0 0
  | 5, α => .agg #[.int .u32 src, .int .u32 (n : Int)]
  | 6, α => .slice (some ⟨α 6, 0, none⟩) 1 1
  | 7, α => .slice (some ⟨α 7, 0, none⟩) 1 (1 + α 1007)
  | 8, α => .pointer (some ⟨ms, 0, none⟩)
  | 9, α => .pointer (some ⟨ms, 5, none⟩)
  | 10, α => undef
  | _, _ => undef
def rguCg3Anc : Nat → List Nat
  | 2 => [1]
  | 3 => [1, 2]
  | 4 => [1, 2, 3]
  | 6 => [5]
  | 7 => [1, 2, 3, 4, 5, 6]
  | 8 => [0, 1, 2, 3, 4, 5, 6, 7]
  | 9 => [0, 1, 2, 3, 4, 5, 6, 7, 8]
  | 10 => [0, 1, 2, 3, 4, 5, 6, 7, 8, 9]
  | _ => []
def rguCg3Trn : Nat → List Nat
  | 10 => [1999]
  | _ => []
def rguCg3Cnt : List (Nat × Nat) := [(6, 1), (7, 1)]
def rguCg3T1999 (n : Nat) (src : Int) (ms : Nat) (MC : Array Value) (B22 : Nat) (L9 : Nat → Bool) (α : Rega.Atoms) : Rw := if L9 10 = true then row (ms) 38 (MC.setIfInBounds 5 (.slice (some ⟨α 7, 0, none⟩) 1 (1 + α 1007))) else row (ms) 38 MC
def rguCg3R (n : Nat) (src : Int) (ms : Nat) (MC : Array Value) (B22 : Nat) (L9 : Nat → Bool) (α : Rega.Atoms) (ix9 : Nat) : Rw := if ix9 = 999 then row (B22) 33 #[.int .u32 src, .int .u32 (n : Int)] else if ix9 = 1999 then rguCg3T1999 n src ms MC B22 L9 α else if ix9 = 6 then row (α 6) 33 #[.int .u32 src, .int .u32 (n : Int)] else if ix9 = 7 then row (α 7) 33 (full refZ [.int .u32 src, .int .u32 (n : Int)] (α 1007)) else (0, .map #[] 0)
theorem rguCg3_he (n : Nat) (src : Int) (ms : Nat) (MC : Array Value) (B22 : Nat) : ∀ kk α α', (∀ j, (j % 1000 = kk ∨ j % 1000 ∈ rguCg3Anc kk) → α j = α' j) → rguCg3E n src ms MC B22 kk α = rguCg3E n src ms MC B22 kk α' := by
  intro kk α α' h
  match kk with
  | 0 => rfl
  | 1 => rfl
  | 2 => rfl
  | 3 => rfl
  | 4 => rfl
  | 5 => rfl
  | 6 => simp only [rguCg3E, h 6 (Or.inl rfl)]
  | 7 => simp only [rguCg3E, h 7 (Or.inl rfl), h 1007 (Or.inl rfl)]
  | 8 => rfl
  | 9 => rfl
  | 10 => rfl
  | n + 11 => rfl
theorem rguCg3_st (n : Nat) (src : Int) (ms : Nat) (MC : Array Value) (B22 : Nat) : Stable rguCg3Cnt 2 rguCg3Anc rguCg3Trn (rguCg3R n src ms MC B22) := by
  intro k9 L9 α α' ix9 hk hcl hα hact ht
  have hp := act_places hact
  replace hp : ix9 ∈ [999, 1999, 6, 7] := hp
  simp only [List.mem_cons, List.not_mem_nil, or_false] at hp
  rcases hp with rfl | rfl | rfl | rfl
  · rfl
  · show rguCg3T1999 n src ms MC B22 (Rega.ran L9 k9) α' = rguCg3T1999 n src ms MC B22 L9 α
    unfold rguCg3T1999
    have n10 : 10 ≠ k9 := fun e => ht (by rw [← e]; decide)
    rw [ran_ne n10]
    by_cases e10 : L9 10 = true
    · first | rw [if_pos e10, if_pos e10] | rw [if_pos e10]
      try simp only [hα 7 (ne_ran hk (hcl 10 e10 7 (by decide))), hα 1007 (ne_ran hk (hcl 10 e10 7 (by decide)))]
    first | rw [if_neg e10, if_neg e10] | rw [if_neg e10]
  · have e0 : L9 6 = true := act_lt hact (by decide)
    show row (α' 6) 33 #[.int .u32 src, .int .u32 (n : Int)] = row (α 6) 33 #[.int .u32 src, .int .u32 (n : Int)]
    simp only [hα 6 (ne_ran hk e0)]
  · have e0 : L9 7 = true := act_lt hact (by decide)
    show row (α' 7) 33 (full refZ [.int .u32 src, .int .u32 (n : Int)] (α' 1007)) = row (α 7) 33 (full refZ [.int .u32 src, .int .u32 (n : Int)] (α 1007))
    simp only [hα 7 (ne_ran hk e0), hα 1007 (ne_ran hk e0)]
def guCgPost (pb : Nat) (PC : Array Value) (sb c : Nat) (st : List Sy) (n tb : Nat) (TU : List Value) (cu : Nat) (ts : Bool) (src : Int) (i ms : Nat) (MC : Array Value) (vm vr vc vp : Value) (nmx : ByteArray) (w0 : World) (X : Nat → Obj → Prop) (e : Ending) (w' : World) : Prop :=
  ∃ PC2 : Array Value, ∃ MC2 : Array Value, ∃ sb2 : Nat, ∃ c2 : Nat, ∃ tb2 : Nat, ∃ cu2 : Nat, ∃ qb2 : Nat, ∃ cq2 : Nat, ∃ gb2 : Nat, ∃ cg2 : Nat, e = .returned (.agg #[.int .u32 src, .int .u32 (n : Int)]) ∧ PC2[66]? = some (.int .u32 src) ∧ PC2[32]? = some (.bool ts) ∧ PC2[108]? = some (tsS ts tb2 (n + 1) cu2) ∧ PC2[106]? = some (.slice (some ⟨sb2, 0, none⟩) (n + 1) (n + 1 + c2)) ∧ PC2[104]? = some (.pointer (some ⟨ms, 0, none⟩)) ∧ PC2[187]? = some (vm) ∧ PC2[200]? = some (vr) ∧ PC2[288]? = some (vc) ∧ PC2[287]? = some (.int .i64 (i : Int)) ∧ PC2[199]? = some (.slice (some ⟨qb2, 0, none⟩) 1 (1 + cq2)) ∧ PC2[198]? = some (.slice none 0 0) ∧ MC2[15]? = some (.int .u8 8) ∧ MC2[5]? = some (.slice (some ⟨gb2, 0, none⟩) 1 (1 + cg2)) ∧ MC2[1]? = some (vp) ∧ Own w0 w' ([row (pb) 176 PC2, row (sb2) 183 (full symZ (symL (st ++ [syk nmx 27])) c2), row (ms) 38 MC2, row (qb2) 185 (full trfZ ([.nilIface, .int .i32 0, .int .u32 src, .int .u32 (n : Int)]) cq2), row (gb2) 33 (full refZ ([.int .u32 src, .int .u32 (n : Int)]) cg2)] ++ (optT ts (row (tb2) 22 (full u32Z (TU ++ [.int .u32 0]) cu2)))) X
set_option maxRecDepth 100000 in
set_option maxHeartbeats 8000000 in
theorem guCg (pb : Nat) (PC : Array Value) (sb c : Nat) (st : List Sy) (n tb : Nat) (TU : List Value) (cu : Nat) (ts : Bool) (src : Int) (i ms : Nat) (MC : Array Value) (vm vr vc vp : Value) (nmx : ByteArray) (w0 w : World) (X : Nat → Obj → Prop) (hO : Own w0 w ([row (pb) 176 PC, row (sb) 183 (full symZ (symL st) c), row (ms) 38 MC] ++ (optT ts (row (tb) 22 (full u32Z TU cu)))) X) (hk66 : PC[66]? = some (.int .u32 src)) (hk32 : PC[32]? = some (.bool ts)) (hk108 : PC[108]? = some (tsS ts tb n cu)) (htl : TU.length = n) (hk106 : PC[106]? = some (.slice (some ⟨sb, 0, none⟩) n (n + c))) (hn : st.length = n) (hnb : n ≤ 2000000) (hk104 : PC[104]? = some (.pointer (some ⟨ms, 0, none⟩))) (hk187 : PC[187]? = some (vm)) (hk200 : PC[200]? = some (vr)) (hk288 : PC[288]? = some (vc)) (hk287 : PC[287]? = some (.int .i64 (i : Int))) (hk199 : PC[199]? = some (.slice none 0 0)) (hk198 : PC[198]? = some (.slice none 0 0)) (hkind : MC[15]? = some (.int .u8 8)) (hgen : MC[5]? = some (.slice none 0 0)) (hpar : MC[1]? = some (vp)) (hi : i ≤ 100000) (hng : 0 < nmx.size) (hg0 : w0.cell? ⟨0, 0, none⟩ = some (.int .u32 4294967295)) (hg1 : w0.cell? ⟨0, 1, none⟩ = some (.int .u32 4294967295)) :
    Calls Tryd.prog 24 #[.pointer (some ⟨pb, 0, none⟩), .int .u8 2, .string nmx] w (guCgPost pb PC sb c st n tb TU cu ts src i ms MC vm vr vc vp nmx w0 X) := by
  go_enter Tryd.func24, Tryd.ntmps24
  have HBX1_1 := Lib.hid hO.tail
  have hN := hO.aside
  obtain ⟨X1_1, hX1_1⟩ : ∃ Y, Y = FR (optT ts (row (tb) 22 (full u32Z TU cu))) X := ⟨_, rfl⟩
  rw [← hX1_1] at hN
  have HX1_1 := Lib.hid hX1_1
  clear hO hX1_1
  have hO := hN
  clear hN
  obtain ⟨ix9, hix9, hax9, hjx9⟩ := hO.ix
  have ix9_0 : ix9 pb = 0 := hjx9 0 _ _ rfl
  have ix9_1 : ix9 sb = 1 := hjx9 1 _ _ rfl
  have ix9_2 : ix9 ms = 2 := hjx9 2 _ _ rfl
  clear hjx9
  have c9_0_32 : w.cell? ⟨pb, 32, none⟩ = some (.bool ts) := hO.cell 0 rfl (32) (hk32)
  have c9_0_66 : w.cell? ⟨pb, 66, none⟩ = some (.int .u32 src) := hO.cell 0 rfl (66) (hk66)
  have c9_0_104 : w.cell? ⟨pb, 104, none⟩ = some (.pointer (some ⟨ms, 0, none⟩)) := hO.cell 0 rfl (104) (hk104)
  have c9_0_106 : w.cell? ⟨pb, 106, none⟩ = some (.slice (some ⟨sb, 0, none⟩) n (n + c)) := hO.cell 0 rfl (106) (hk106)
  have c9_0_108 : w.cell? ⟨pb, 108, none⟩ = some (tsS ts tb n cu) := hO.cell 0 rfl (108) (hk108)
  have c9_0_187 : w.cell? ⟨pb, 187, none⟩ = some (vm) := hO.cell 0 rfl (187) (hk187)
  have c9_0_198 : w.cell? ⟨pb, 198, none⟩ = some (.slice none 0 0) := hO.cell 0 rfl (198) (hk198)
  have c9_0_199 : w.cell? ⟨pb, 199, none⟩ = some (.slice none 0 0) := hO.cell 0 rfl (199) (hk199)
  have c9_0_200 : w.cell? ⟨pb, 200, none⟩ = some (vr) := hO.cell 0 rfl (200) (hk200)
  have c9_0_287 : w.cell? ⟨pb, 287, none⟩ = some (.int .i64 (i : Int)) := hO.cell 0 rfl (287) (hk287)
  have c9_0_288 : w.cell? ⟨pb, 288, none⟩ = some (vc) := hO.cell 0 rfl (288) (hk288)
  have lt9_0 : pb < w.heap.size := hO.lt 0 rfl
  have y9_0 : ∀ o, w.frozen? ⟨pb, o, none⟩ = false := hO.free 0 rfl
  have c9_2_1 : w.cell? ⟨ms, 1, none⟩ = some (vp) := hO.cell 2 rfl (1) (hpar)
  have c9_2_5 : w.cell? ⟨ms, 5, none⟩ = some (.slice none 0 0) := hO.cell 2 rfl (5) (hgen)
  have c9_2_15 : w.cell? ⟨ms, 15, none⟩ = some (.int .u8 8) := hO.cell 2 rfl (15) (hkind)
  have lt9_2 : ms < w.heap.size := hO.lt 2 rfl
  have y9_2 : ∀ o, w.frozen? ⟨ms, o, none⟩ = false := hO.free 2 rfl
  have HO := Lib.hid hO
  clear hO
  have hnz9 : nmx.toList ≠ [] := by
    rw [Lib.toList_data]
    intro e
    have h9 := congrArg List.length e
    rw [Array.length_toList] at h9
    exact absurd (by have h8 : nmx.data.size = 0 := h9; exact h8 : nmx.size = 0) (by omega)
  have hnn : (nmx.toList == ([] : List UInt8)) = false := by rw [beq_eq_false_iff_ne]; exact hnz9
  have hnm : (nmx.toList == (⟨#[]⟩ : ByteArray).toList) = false := by
    rw [Lib.toList_data (⟨#[]⟩ : ByteArray)]
    exact hnn
  go_wp2_with (first | (with_reducible refine Own.stay (fn := Tryd.f24) ?_) | (first | (go_at_call 28; go_in)))
  try with_reducible refine Own.Stay.mk ?_
  have hO := HO.out
  clear HO hix9 hax9 ix9_0 ix9_1 ix9_2 ix9 c9_0_32 c9_0_66 c9_0_104 c9_0_106 c9_0_108 c9_0_187 c9_0_198 c9_0_199 c9_0_200 c9_0_287 c9_0_288 lt9_0 y9_0 c9_2_1 c9_2_5 c9_2_15 lt9_2 y9_2
  generalize hW : World.alloc _ _ = W3
  have hN : Own w0 W3 [row (w.heap.size) 33 #[.int .u32 0, .int .u32 0], row (pb) 176 PC, row (sb) 183 (full symZ (symL st) c), row (ms) 38 MC] X1_1 := by
    rw [← hW]
    exact (hO).alloc' _ (w.heap.size) (by simp)
  clear hW hO
  generalize w.heap.size = B2 at hN ⊢
  have hO := hN
  clear hN
  have hN : Own w0 W3 [row (pb) 176 PC, row (sb) 183 (full symZ (symL st) c), row (B2) 33 #[.int .u32 0, .int .u32 0], row (ms) 38 MC] X1_1 := hO.sub [1, 2, 0, 3] (by decide)
  clear hO
  have hO := hN
  clear hN
  rw [HX1_1.out] at hO
  have hN := hO.bring HBX1_1.out
  clear hO
  have hO := hN
  clear hN
  have hP9 : Own w0 W3 (([row (pb) 176 PC, row (sb) 183 (full symZ (symL st) c)] ++ optT ts (row (tb) 22 (full u32Z TU cu))) ++ [row (B2) 33 #[.int .u32 0, .int .u32 0], row (ms) 38 MC]) X := hO.perm (perm1 [row (pb) 176 PC, row (sb) 183 (full symZ (symL st) c)] [row (B2) 33 #[.int .u32 0, .int .u32 0], row (ms) 38 MC] (optT ts (row (tb) 22 (full u32Z TU cu))))
  clear hO
  have HT := Lib.hid hP9.tail
  replace hP9 := hP9.aside
  have T9 := newSymU pb PC sb c st n tb _ cu ts src 27 nmx (.pointer (some ⟨ms, 0, none⟩)) vm vr vc (.int .i64 (i : Int)) (.slice none 0 0) (.slice none 0 0) _ _ _ hP9 hk66 hk32 hk108 htl hk106 hn hnb hk104 hk187 hk200 hk288 hk287 hk199 hk198 hg0 hg1
  refine Calls.mono T9 ?_
  clear hP9 T9
  rintro e u4 ⟨nd5, nd6, nd7, nd8, nd9, rfl, pr10, pr11, pr12, pr13, pr14, pr15, pr16, pr17, pr18, pr19, pr20, hQ⟩
  replace hQ := hQ.bring HT.out
  clear HT
  have hO : Own w0 u4 ([row (pb) 176 nd5, row (nd6) 183 (full symZ (symL (st ++ [syk nmx 27])) nd7), row (B2) 33 #[.int .u32 0, .int .u32 0], row (ms) 38 MC] ++ optT ts (row (nd8) 22 (full u32Z (TU ++ [.int .u32 0]) nd9))) X := hQ.perm (perm1 [row (pb) 176 nd5, row (nd6) 183 (full symZ (symL (st ++ [syk nmx 27])) nd7)] [row (B2) 33 #[.int .u32 0, .int .u32 0], row (ms) 38 MC] (optT ts (row (nd8) 22 (full u32Z (TU ++ [.int .u32 0]) nd9)))).symm
  clear hQ
  try simp only []
  have HBX1_21 := Lib.hid hO.tail
  have hN := hO.aside
  obtain ⟨X1_21, hX1_21⟩ : ∃ Y, Y = FR (optT ts (row (nd8) 22 (full u32Z (TU ++ [.int .u32 0]) nd9))) X := ⟨_, rfl⟩
  rw [← hX1_21] at hN
  have HX1_21 := Lib.hid hX1_21
  clear hO hX1_21
  have hO := hN
  clear hN
  obtain ⟨ix9, hix9, hax9, hjx9⟩ := hO.ix
  have ix9_0 : ix9 pb = 0 := hjx9 0 _ _ rfl
  have ix9_1 : ix9 nd6 = 1 := hjx9 1 _ _ rfl
  have ix9_2 : ix9 B2 = 2 := hjx9 2 _ _ rfl
  have ix9_3 : ix9 ms = 3 := hjx9 3 _ _ rfl
  clear hjx9
  have c9_0_32 : u4.cell? ⟨pb, 32, none⟩ = some (.bool ts) := hO.cell 0 rfl (32) (pr11)
  have c9_0_66 : u4.cell? ⟨pb, 66, none⟩ = some (.int .u32 src) := hO.cell 0 rfl (66) (pr10)
  have c9_0_104 : u4.cell? ⟨pb, 104, none⟩ = some ((.pointer (some ⟨ms, 0, none⟩))) := hO.cell 0 rfl (104) (pr14)
  have c9_0_106 : u4.cell? ⟨pb, 106, none⟩ = some (.slice (some ⟨nd6, 0, none⟩) (n + 1) (n + 1 + nd7)) := hO.cell 0 rfl (106) (pr13)
  have c9_0_108 : u4.cell? ⟨pb, 108, none⟩ = some (tsS ts nd8 (n + 1) nd9) := hO.cell 0 rfl (108) (pr12)
  have c9_0_187 : u4.cell? ⟨pb, 187, none⟩ = some (vm) := hO.cell 0 rfl (187) (pr15)
  have c9_0_198 : u4.cell? ⟨pb, 198, none⟩ = some ((.slice none 0 0)) := hO.cell 0 rfl (198) (pr20)
  have c9_0_199 : u4.cell? ⟨pb, 199, none⟩ = some ((.slice none 0 0)) := hO.cell 0 rfl (199) (pr19)
  have c9_0_200 : u4.cell? ⟨pb, 200, none⟩ = some (vr) := hO.cell 0 rfl (200) (pr16)
  have c9_0_287 : u4.cell? ⟨pb, 287, none⟩ = some ((.int .i64 (i : Int))) := hO.cell 0 rfl (287) (pr18)
  have c9_0_288 : u4.cell? ⟨pb, 288, none⟩ = some (vc) := hO.cell 0 rfl (288) (pr17)
  have lt9_0 : pb < u4.heap.size := hO.lt 0 rfl
  have y9_0 : ∀ o, u4.frozen? ⟨pb, o, none⟩ = false := hO.free 0 rfl
  obtain ⟨c9_2_0, c9_2_1, lt9_2, y9_2, -⟩ := hO.k2 2 rfl
  have c9_3_1 : u4.cell? ⟨ms, 1, none⟩ = some (vp) := hO.cell 3 rfl (1) (hpar)
  have c9_3_5 : u4.cell? ⟨ms, 5, none⟩ = some (.slice none 0 0) := hO.cell 3 rfl (5) (hgen)
  have c9_3_15 : u4.cell? ⟨ms, 15, none⟩ = some (.int .u8 8) := hO.cell 3 rfl (15) (hkind)
  have lt9_3 : ms < u4.heap.size := hO.lt 3 rfl
  have y9_3 : ∀ o, u4.frozen? ⟨ms, o, none⟩ = false := hO.free 3 rfl
  have HO := Lib.hid hO
  clear hO
  go_wp2_with (first | (with_reducible refine Own.stay (fn := Tryd.f24) ?_) | (first | (go_at_call 28; go_in)))
  try with_reducible refine Own.Stay.mk ?_
  have hO := HO.out
  clear HO hix9 hax9 ix9_0 ix9_1 ix9_2 ix9_3 ix9 c9_0_32 c9_0_66 c9_0_104 c9_0_106 c9_0_108 c9_0_187 c9_0_198 c9_0_199 c9_0_200 c9_0_287 c9_0_288 lt9_0 y9_0 c9_2_0 c9_2_1 lt9_2 y9_2 c9_3_1 c9_3_5 c9_3_15 lt9_3 y9_3
  generalize hW : World.alloc _ _ = W23
  have hN : Own w0 W23 [row (u4.heap.size) 33 #[.int .u32 src, .int .u32 (n : Int)], row (pb) 176 nd5, row (nd6) 183 (full symZ (symL (st ++ [syk nmx 27])) nd7), row (B2) 33 #[.int .u32 0, .int .u32 0], row (ms) 38 MC] X1_21 := by
    rw [← hW]
    exact (hO).alloc' _ (u4.heap.size) (by simp)
  clear hW hO
  generalize u4.heap.size = B22 at hN ⊢
  have hO := hN
  clear hN
  have hL := hO.apart
  have hX := hO.apartX
  have HL := Lib.hid hL
  have HX := Lib.hid hX
  clear hL hX
  have hP9 := hO.pick [0, 1] (by decide)
  generalize hX9_24 : Own.Rest _ _ X1_21 = X9_24 at hP9
  replace hP9 : Own w0 W23 [row (B22) 33 #[.int .u32 src, .int .u32 (n : Int)], row (pb) 176 nd5] X9_24 := hP9
  clear hO
  have hO := hP9
  clear hP9
  have st9 := rguCg2_st pb n src nd5 B22
  let R9 := rguCg2R pb n src nd5 B22
  refine wp_region_own (e := rguCg2E pb n src nd5 B22) (anc := rguCg2Anc) (G := (fun L9 α u9 => OwnF w0 u9 (act rguCg2Cnt 2 L9) (rguCg2R pb n src nd5 B22 L9 α) X9_24)) (by kernel_rfl) (by kernel_rfl) (by kernel_rfl) (by kernel_rfl) (rguCg2_he pb n src nd5 B22) ?_ (RunsAll.all ?_) ?_
  · have hp : ∀ i, act rguCg2Cnt 2 (fun _ => false) i → i ∈ [999, 1999] := by
      intro i hi
      have h9 : i % 1000 = 999 := by
        by_cases h : i % 1000 = 999
        · exact h
        · exact absurd (act_lt hi h) (by simp)
      unfold act at hi
      rw [if_pos h9] at hi
      simp only [List.mem_cons, List.not_mem_nil, or_false]
      omega
    refine hO.drew.family (fun i hi => ?_) (fun i j hi hj hij => ?_)
    · have := hp i hi
      simp only [List.mem_cons, List.not_mem_nil, or_false] at this
      rcases this with rfl | rfl <;> rfl
    · have h1 := hp i hi
      have h2 := hp j hj
      simp only [List.mem_cons, List.not_mem_nil, or_false] at h1 h2
      omega
  · refine ⟨?_, ?_, ?_, ?_, ?_, ?_, ?_, ?_, ?_, ?_, ?_, ?_, trivial⟩
    · intro L9 α a9 u9 K9 hL hcl hA hG hS h0 hK
      replace hL : L9 0 = false := hL
      have q0 : a9.tmps[0]? = some (.pointer (some ⟨pb, 0, none⟩)) := (h0 0 (by kernel_rfl)).trans rfl
      have s0 := Rega.eval_of q0
      go_simp
      exact hK _ α _ (fun _ _ => rfl) rfl (step_same (st9) hL hcl rfl rfl hG)
    · intro L9 α a9 u9 K9 hL hcl hA hG hS h0 hK
      replace hL : L9 1 = false := hL
      have q0 : a9.tmps[0]? = some (.pointer (some ⟨pb, 0, none⟩)) := (h0 0 (by kernel_rfl)).trans rfl
      have s0 := Rega.eval_of q0
      go_simp
      exact hK _ α _ (fun _ _ => rfl) rfl (step_same (st9) hL hcl rfl rfl hG)
    · intro L9 α a9 u9 K9 hL hcl hA hG hS h0 hK
      replace hL : L9 2 = false := hL
      have q67 : a9.tmps[67]? = some (.pointer (some ⟨pb, 0, none⟩)) := hS 1 67 (by decide) rfl (by show 67 < 88; decide)
      have s67 := Rega.eval_of q67
      go_simp
      exact hK _ α _ (fun _ _ => rfl) rfl (step_same (st9) hL hcl rfl rfl hG)
    · intro L9 α a9 u9 K9 hL hcl hA hG hS h0 hK
      replace hL : L9 3 = false := hL
      have q68 : a9.tmps[68]? = some (.pointer (some ⟨pb, 0, none⟩)) := hS 2 68 (by decide) rfl (by show 68 < 88; decide)
      have s68 := Rega.eval_of q68
      go_simp
      exact hK _ α _ (fun _ _ => rfl) rfl (step_same (st9) hL hcl rfl rfl hG)
    · intro L9 α a9 u9 K9 hL hcl hA hG hS h0 hK
      replace hL : L9 4 = false := hL
      have q69 : a9.tmps[69]? = some (.pointer (some ⟨pb, 199, none⟩)) := hS 3 69 (by decide) rfl (by show 69 < 88; decide)
      have s69 := Rega.eval_of q69
      have e0 : R9 L9 α 1999 = row (pb) 176 nd5 := by
        show rguCg2T1999 pb n src nd5 B22 L9 α = _
        unfold rguCg2T1999
        rw [if_neg (fun e => by have := hcl 11 e 4 (by decide); rw [hL] at this; cases this)]
      have hr := hG.rowAt 1999 (act_base 1999 rfl) e0
      have c0 : u9.cell? ⟨pb, 199, none⟩ = some ((.slice none 0 0)) := hr.cell (pr19)
      clear hr e0
      go_simp
      exact hK _ α _ (fun _ _ => rfl) rfl (step_same (st9) hL hcl rfl rfl hG)
    · intro L9 α a9 u9 K9 hL hcl hA hG hS h0 hK
      replace hL : L9 5 = false := hL
      have q8 : a9.tmps[8]? = some (.pointer (some ⟨B22, 0, none⟩)) := (h0 8 (by kernel_rfl)).trans rfl
      have s8 := Rega.eval_of q8
      have e0 : R9 L9 α 999 = row (B22) 33 #[.int .u32 src, .int .u32 (n : Int)] := rfl
      have hr := hG.rowAt 999 (act_base 999 rfl) e0
      have c0 : u9.cell? ⟨B22, 0, none⟩ = some (.int .u32 src) := hr.cell rfl
      have c1 : u9.cell? ⟨B22, 1, none⟩ = some (.int .u32 (n : Int)) := hr.cell rfl
      clear hr e0
      go_simp
      exact hK _ α _ (fun _ _ => rfl) rfl (step_same (st9) hL hcl rfl rfl hG)
    · intro L9 α a9 u9 K9 hL hcl hA hG hS h0 hK
      replace hL : L9 6 = false := hL
      have q71 : a9.tmps[71]? = some (.agg #[.int .u32 src, .int .u32 (n : Int)]) := hS 5 71 (by decide) rfl (by show 71 < 88; decide)
      have s71 := Rega.eval_of q71
      go_simp
      exact hK _ α _ (fun _ _ => rfl) rfl (step_same (st9) hL hcl rfl rfl hG)
    · intro L9 α a9 u9 K9 hL hcl hA hG hS h0 hK
      replace hL : L9 7 = false := hL
      have q72 : a9.tmps[72]? = some (.agg #[.nilIface, .int .i32 0, .int .u32 src, .int .u32 (n : Int)]) := hS 6 72 (by decide) rfl (by show 72 < 88; decide)
      have s72 := Rega.eval_of q72
      go_simp
      exact hK _ (fun j => if j = 7 then u9.heap.size else α j) _ (fun j hj => if_neg (fun e => hj (by rw [e]))) rfl (step_alloc (st9) hL hcl rfl rfl (by decide) _ rfl hG)
    · intro L9 α a9 u9 K9 hL hcl hA hG hS h0 hK
      replace hL : L9 8 = false := hL
      have q70 : a9.tmps[70]? = some ((.slice none 0 0)) := hS 4 70 (by decide) rfl (by show 70 < 88; decide)
      have s70 := Rega.eval_of q70
      have q73 : a9.tmps[73]? = some (.slice (some ⟨α 7, 0, none⟩) 1 1) := hS 7 73 (by decide) rfl (by show 73 < 88; decide)
      have s73 := Rega.eval_of q73
      simp only [Region.wanted, if_true]
      have e0 : R9 L9 α 7 = row (α 7) 185 #[.nilIface, .int .i32 0, .int .u32 src, .int .u32 (n : Int)] := rfl
      have hM : ∀ i, i ∈ [7] → act rguCg2Cnt 2 L9 i := by
        intro i hi
        simp only [List.mem_cons, List.not_mem_nil, or_false] at hi
        subst hi
        exact act_new 7 rfl (hA 7 (by decide))
      have hP : Own w0 u9 [row (α 7) 185 #[.nilIface, .int .i32 0, .int .u32 src, .int .u32 (n : Int)]] _ := (hG.pick [7] (by decide) hM).conv (by
        show [R9 L9 α 7] = _
        rw [e0])
      clear e0 hM
      obtain ⟨i9, hi9, z1, z2, z3⟩ := info_parts infoTrf
      refine wp_append_full_nil (Operand.tmp 70) (Operand.tmp 73) 160 rfl 185 i9 (.agg trfZ) 4 32 Tryd.underlying160 hi9 z1 z2 z3 hP s70 s73 rfl (by decide) (by first | decide | omega | (unfold maxLen; omega)) (by first | decide | omega | (unfold maxLen; omega)) ?_
      intro b0 b1 u1 hQ
      obtain ⟨α', hα'⟩ : ∃ α' : Rega.Atoms, α' = (fun j => if j = 8 then b0 else if j = 1008 then b1 else α j) := ⟨_, rfl⟩
      have f0 : R9 (Rega.ran L9 8) α' 8 = row (α' 8) 185 (full trfZ [.nilIface, .int .i32 0, .int .u32 src, .int .u32 (n : Int)] (α' 1008)) := rfl
      have f1 : R9 (Rega.ran L9 8) α' 7 = row (α' 7) 185 #[.nilIface, .int .i32 0, .int .u32 src, .int .u32 (n : Int)] := rfl
      have hα : ∀ j, j % 1000 ≠ 8 → α' j = α j := fun j hj => by rw [hα']; simp only []; rw [if_neg (by omega), if_neg (by omega)]
      have hb0 : α' 8 = b0 := by rw [hα']; rfl
      have hb1 : α' 1008 = b1 := by rw [hα']; rfl
      have ha7 : α' 7 = α 7 := hα 7 (by decide)
      refine hK _ α' _ hα ?_ (step_call (st9) hL hcl hα [7] [8, 7] (by decide) (by decide) (by decide) (M := _) ?_ hG hQ)
      · show _ = (.slice (some ⟨α' 8, 0, none⟩) 1 (1 + α' 1008) : Value)
        simp only [hb0, hb1]
      · show [R9 (Rega.ran L9 8) α' 8, R9 (Rega.ran L9 8) α' 7] = _
        rw [f0, f1]
        simp only [hb0, hb1, ha7]
        try rfl
    · intro L9 α a9 u9 K9 hL hcl hA hG hS h0 hK
      replace hL : L9 9 = false := hL
      have q66 : a9.tmps[66]? = some (.pointer (some ⟨pb, 0, none⟩)) := hS 0 66 (by decide) rfl (by show 66 < 88; decide)
      have s66 := Rega.eval_of q66
      go_simp
      exact hK _ α _ (fun _ _ => rfl) rfl (step_same (st9) hL hcl rfl rfl hG)
    · intro L9 α a9 u9 K9 hL hcl hA hG hS h0 hK
      replace hL : L9 10 = false := hL
      have q75 : a9.tmps[75]? = some (.pointer (some ⟨pb, 0, none⟩)) := hS 9 75 (by decide) rfl (by show 75 < 88; decide)
      have s75 := Rega.eval_of q75
      go_simp
      exact hK _ α _ (fun _ _ => rfl) rfl (step_same (st9) hL hcl rfl rfl hG)
    · intro L9 α a9 u9 K9 hL hcl hA hG hS h0 hK
      replace hL : L9 11 = false := hL
      have q76 : a9.tmps[76]? = some (.pointer (some ⟨pb, 199, none⟩)) := hS 10 76 (by decide) rfl (by show 76 < 88; decide)
      have s76 := Rega.eval_of q76
      have q74 : a9.tmps[74]? = some (.slice (some ⟨α 8, 0, none⟩) 1 (1 + α 1008)) := hS 8 74 (by decide) rfl (by show 74 < 88; decide)
      have s74 := Rega.eval_of q74
      have e0 : R9 L9 α 1999 = row (pb) 176 nd5 := by
        show rguCg2T1999 pb n src nd5 B22 L9 α = _
        unfold rguCg2T1999
        rw [if_neg (by rw [hL]; decide)]
      have hr := hG.rowAt 1999 (act_base 1999 rfl) e0
      have c0 : u9.cell? ⟨pb, 199, none⟩ = some ((.slice none 0 0)) := hr.cell (pr19)
      have y0 : u9.frozen? ⟨pb, 199, none⟩ = false := hr.free (199)
      clear hr
      have E0 := Lib.hid e0
      clear e0
      go_simp
      have e1 : R9 (Rega.ran L9 11) α 1999 = row (pb) 176 (nd5.setIfInBounds 199 (.slice (some ⟨α 8, 0, none⟩) 1 (1 + α 1008))) := by
        show rguCg2T1999 pb n src nd5 B22 (Rega.ran L9 11) α = _
        unfold rguCg2T1999
        rw [if_pos (show Rega.ran L9 11 11 = true from rfl)]
      exact hK _ α _ (fun _ _ => rfl) rfl (step_sets (st9) hL hcl rfl 1999 rfl (act_base 1999 rfl) E0.out (199) [.slice (some ⟨α 8, 0, none⟩) 1 (1 + α 1008)] (e1.trans rfl) hG)
  clear st9
  intro α u hG
  have e0 : R9 (fun k => decide (k < 12)) α 999 = row (B22) 33 #[.int .u32 src, .int .u32 (n : Int)] := rfl
  have e1 : R9 (fun k => decide (k < 12)) α 1999 = row (pb) 176 (nd5.setIfInBounds 199 (.slice (some ⟨α 8, 0, none⟩) 1 (1 + α 1008))) := by
    show rguCg2T1999 pb n src nd5 B22 (fun k => decide (k < 12)) α = _
    unfold rguCg2T1999
    rw [if_pos (by decide)]
  have e2 : R9 (fun k => decide (k < 12)) α 7 = row (α 7) 185 #[.nilIface, .int .i32 0, .int .u32 src, .int .u32 (n : Int)] := rfl
  have e3 : R9 (fun k => decide (k < 12)) α 8 = row (α 8) 185 (full trfZ [.nilIface, .int .i32 0, .int .u32 src, .int .u32 (n : Int)] (α 1008)) := rfl
  have hO : Own w0 u [row (B22) 33 #[.int .u32 src, .int .u32 (n : Int)], row (pb) 176 (nd5.setIfInBounds 199 (.slice (some ⟨α 8, 0, none⟩) 1 (1 + α 1008))), row (α 7) 185 #[.nilIface, .int .i32 0, .int .u32 src, .int .u32 (n : Int)], row (α 8) 185 (full trfZ [.nilIface, .int .i32 0, .int .u32 src, .int .u32 (n : Int)] (α 1008))] X9_24 := (hG.list [999, 1999, 7, 8] (by decide) (act_all (by decide))).conv (by
    show [R9 (fun k => decide (k < 12)) α 999, R9 (fun k => decide (k < 12)) α 1999, R9 (fun k => decide (k < 12)) α 7, R9 (fun k => decide (k < 12)) α 8] = _
    rw [e0, e1, e2, e3])
  clear hG e0 e1 e2 e3 R9
  generalize hfr : Rega.frameAt _ _ _ _ _ = fr
  have hdf : fr = ⟨#[.pointer (some ⟨pb, 0, none⟩), .int .u8 2, .string nmx, undef, undef, undef, .pointer (some ⟨B2, 0, none⟩), .pointer (some ⟨ms, 0, none⟩), .pointer (some ⟨B22, 0, none⟩), .pointer (some ⟨pb, 0, none⟩), .pointer (some ⟨pb, 0, none⟩), .pointer (some ⟨pb, 104, none⟩), .pointer (some ⟨ms, 0, none⟩), .int .u8 2, .bool false, undef, undef, undef, undef, undef, undef, undef, undef, undef, undef, .string nmx, .bool false, undef, undef, undef, undef, undef, undef, undef, undef, undef, undef, undef, undef, undef, undef, .pointer (some ⟨pb, 0, none⟩), .string nmx, .agg #[.int .u32 src, .int .u32 (n : Int)], .int .u8 2, .bool true, .bool true, .pointer (some ⟨ms, 0, none⟩), .pointer (some ⟨ms, 0, none⟩), .pointer (some ⟨ms, 15, none⟩), .int .u8 8, .bool true, .bool false, .bool false, undef, undef, undef, undef, undef, undef, undef, undef, undef, undef, .int .u8 2, .bool true, .pointer (some ⟨pb, 0, none⟩), .pointer (some ⟨pb, 0, none⟩), .pointer (some ⟨pb, 0, none⟩), .pointer (some ⟨pb, 199, none⟩), (.slice none 0 0), .agg #[.int .u32 src, .int .u32 (n : Int)], .agg #[.nilIface, .int .i32 0, .int .u32 src, .int .u32 (n : Int)], .slice (some ⟨α 7, 0, none⟩) 1 1, .slice (some ⟨α 8, 0, none⟩) 1 (1 + α 1008), .pointer (some ⟨pb, 0, none⟩), .pointer (some ⟨pb, 199, none⟩), undef, undef, undef, undef, undef, undef, undef, undef, undef, undef, undef], []⟩ := by rw [← hfr]; kernel_rfl
  clear hfr
  subst hdf
  generalize α 7 = nd25 at hO ⊢
  generalize α 8 = nd26 at hO ⊢
  generalize α 1008 = nd27 at hO ⊢
  clear α
  subst hX9_24
  have hN : Own w0 u [row (B22) 33 #[.int .u32 src, .int .u32 (n : Int)], row (pb) 176 (nd5.setIfInBounds 199 (.slice (some ⟨nd26, 0, none⟩) 1 (1 + nd27))), row (nd25) 185 #[.nilIface, .int .i32 0, .int .u32 src, .int .u32 (n : Int)], row (nd26) 185 (full trfZ [.nilIface, .int .i32 0, .int .u32 src, .int .u32 (n : Int)] (nd27)), row (nd6) 183 (full symZ (symL (st ++ [syk nmx 27])) nd7), row (B2) 33 #[.int .u32 0, .int .u32 0], row (ms) 38 MC] X1_21 := hO.back HL.out HX.out [2, 3, 4] (by decide) (by decide)
  clear hO HL HX
  have hO := hN
  clear hN
  obtain ⟨c9_0_0, c9_0_1, lt9_0, y9_0, -⟩ := hO.k2 0 rfl
  obtain ⟨c9_2_0, c9_2_1, c9_2_2, c9_2_3, lt9_2, y9_2, -⟩ := hO.k4 2 rfl
  obtain ⟨c9_5_0, c9_5_1, lt9_5, y9_5, -⟩ := hO.k2 5 rfl
  have HO := Lib.hid hO
  clear hO
  go_wp2_with (first | (with_reducible refine Own.stay (fn := Tryd.f24) ?_) | (first | (go_at_call 28; go_in)))
  try with_reducible refine Own.Stay.mk ?_
  have hO := HO.out
  clear HO c9_0_0 c9_0_1 lt9_0 y9_0 c9_2_0 c9_2_1 c9_2_2 c9_2_3 lt9_2 y9_2 c9_5_0 c9_5_1 lt9_5 y9_5
  have hL := hO.apart
  have hX := hO.apartX
  have HL := Lib.hid hL
  have HX := Lib.hid hX
  clear hL hX
  have hP9 := hO.pick [0, 6] (by decide)
  generalize hX9_28 : Own.Rest _ _ X1_21 = X9_28 at hP9
  replace hP9 : Own w0 u [row (B22) 33 #[.int .u32 src, .int .u32 (n : Int)], row (ms) 38 MC] X9_28 := hP9
  clear hO
  have hO := hP9
  clear hP9
  have st9 := rguCg3_st n src ms MC B22
  let R9 := rguCg3R n src ms MC B22
  refine wp_region_own (e := rguCg3E n src ms MC B22) (anc := rguCg3Anc) (G := (fun L9 α u9 => OwnF w0 u9 (act rguCg3Cnt 2 L9) (rguCg3R n src ms MC B22 L9 α) X9_28)) (by kernel_rfl) (by kernel_rfl) (by kernel_rfl) (by kernel_rfl) (rguCg3_he n src ms MC B22) ?_ (RunsAll.all ?_) ?_
  · have hp : ∀ i, act rguCg3Cnt 2 (fun _ => false) i → i ∈ [999, 1999] := by
      intro i hi
      have h9 : i % 1000 = 999 := by
        by_cases h : i % 1000 = 999
        · exact h
        · exact absurd (act_lt hi h) (by simp)
      unfold act at hi
      rw [if_pos h9] at hi
      simp only [List.mem_cons, List.not_mem_nil, or_false]
      omega
    refine hO.drew.family (fun i hi => ?_) (fun i j hi hj hij => ?_)
    · have := hp i hi
      simp only [List.mem_cons, List.not_mem_nil, or_false] at this
      rcases this with rfl | rfl <;> rfl
    · have h1 := hp i hi
      have h2 := hp j hj
      simp only [List.mem_cons, List.not_mem_nil, or_false] at h1 h2
      omega
  · refine ⟨?_, ?_, ?_, ?_, ?_, ?_, ?_, ?_, ?_, ?_, ?_, trivial⟩
    · intro L9 α a9 u9 K9 hL hcl hA hG hS h0 hK
      replace hL : L9 0 = false := hL
      have q7 : a9.tmps[7]? = some (.pointer (some ⟨ms, 0, none⟩)) := (h0 7 (by kernel_rfl)).trans rfl
      have s7 := Rega.eval_of q7
      go_simp
      exact hK _ α _ (fun _ _ => rfl) rfl (step_same (st9) hL hcl rfl rfl hG)
    · intro L9 α a9 u9 K9 hL hcl hA hG hS h0 hK
      replace hL : L9 1 = false := hL
      have q7 : a9.tmps[7]? = some (.pointer (some ⟨ms, 0, none⟩)) := (h0 7 (by kernel_rfl)).trans rfl
      have s7 := Rega.eval_of q7
      go_simp
      exact hK _ α _ (fun _ _ => rfl) rfl (step_same (st9) hL hcl rfl rfl hG)
    · intro L9 α a9 u9 K9 hL hcl hA hG hS h0 hK
      replace hL : L9 2 = false := hL
      have q78 : a9.tmps[78]? = some (.pointer (some ⟨ms, 0, none⟩)) := hS 1 78 (by decide) rfl (by show 78 < 88; decide)
      have s78 := Rega.eval_of q78
      go_simp
      exact hK _ α _ (fun _ _ => rfl) rfl (step_same (st9) hL hcl rfl rfl hG)
    · intro L9 α a9 u9 K9 hL hcl hA hG hS h0 hK
      replace hL : L9 3 = false := hL
      have q79 : a9.tmps[79]? = some (.pointer (some ⟨ms, 0, none⟩)) := hS 2 79 (by decide) rfl (by show 79 < 88; decide)
      have s79 := Rega.eval_of q79
      go_simp
      exact hK _ α _ (fun _ _ => rfl) rfl (step_same (st9) hL hcl rfl rfl hG)
    · intro L9 α a9 u9 K9 hL hcl hA hG hS h0 hK
      replace hL : L9 4 = false := hL
      have q80 : a9.tmps[80]? = some (.pointer (some ⟨ms, 5, none⟩)) := hS 3 80 (by decide) rfl (by show 80 < 88; decide)
      have s80 := Rega.eval_of q80
      have e0 : R9 L9 α 1999 = row (ms) 38 MC := by
        show rguCg3T1999 n src ms MC B22 L9 α = _
        unfold rguCg3T1999
        rw [if_neg (fun e => by have := hcl 10 e 4 (by decide); rw [hL] at this; cases this)]
      have hr := hG.rowAt 1999 (act_base 1999 rfl) e0
      have c0 : u9.cell? ⟨ms, 5, none⟩ = some (.slice none 0 0) := hr.cell (hgen)
      clear hr e0
      go_simp
      exact hK _ α _ (fun _ _ => rfl) rfl (step_same (st9) hL hcl rfl rfl hG)
    · intro L9 α a9 u9 K9 hL hcl hA hG hS h0 hK
      replace hL : L9 5 = false := hL
      have q8 : a9.tmps[8]? = some (.pointer (some ⟨B22, 0, none⟩)) := (h0 8 (by kernel_rfl)).trans rfl
      have s8 := Rega.eval_of q8
      have e0 : R9 L9 α 999 = row (B22) 33 #[.int .u32 src, .int .u32 (n : Int)] := rfl
      have hr := hG.rowAt 999 (act_base 999 rfl) e0
      have c0 : u9.cell? ⟨B22, 0, none⟩ = some (.int .u32 src) := hr.cell rfl
      have c1 : u9.cell? ⟨B22, 1, none⟩ = some (.int .u32 (n : Int)) := hr.cell rfl
      clear hr e0
      go_simp
      exact hK _ α _ (fun _ _ => rfl) rfl (step_same (st9) hL hcl rfl rfl hG)
    · intro L9 α a9 u9 K9 hL hcl hA hG hS h0 hK
      replace hL : L9 6 = false := hL
      have q82 : a9.tmps[82]? = some (.agg #[.int .u32 src, .int .u32 (n : Int)]) := hS 5 82 (by decide) rfl (by show 82 < 88; decide)
      have s82 := Rega.eval_of q82
      go_simp
      exact hK _ (fun j => if j = 6 then u9.heap.size else α j) _ (fun j hj => if_neg (fun e => hj (by rw [e]))) rfl (step_alloc (st9) hL hcl rfl rfl (by decide) _ rfl hG)
    · intro L9 α a9 u9 K9 hL hcl hA hG hS h0 hK
      replace hL : L9 7 = false := hL
      have q81 : a9.tmps[81]? = some (.slice none 0 0) := hS 4 81 (by decide) rfl (by show 81 < 88; decide)
      have s81 := Rega.eval_of q81
      have q83 : a9.tmps[83]? = some (.slice (some ⟨α 6, 0, none⟩) 1 1) := hS 6 83 (by decide) rfl (by show 83 < 88; decide)
      have s83 := Rega.eval_of q83
      simp only [Region.wanted, if_true]
      have e0 : R9 L9 α 6 = row (α 6) 33 #[.int .u32 src, .int .u32 (n : Int)] := rfl
      have hM : ∀ i, i ∈ [6] → act rguCg3Cnt 2 L9 i := by
        intro i hi
        simp only [List.mem_cons, List.not_mem_nil, or_false] at hi
        subst hi
        exact act_new 6 rfl (hA 6 (by decide))
      have hP : Own w0 u9 [row (α 6) 33 #[.int .u32 src, .int .u32 (n : Int)]] _ := (hG.pick [6] (by decide) hM).conv (by
        show [R9 L9 α 6] = _
        rw [e0])
      clear e0 hM
      obtain ⟨i9, hi9, z1, z2, z3⟩ := info_parts infoRef
      refine wp_append_full_nil (Operand.tmp 81) (Operand.tmp 83) 29 rfl 33 i9 (.agg refZ) 2 8 Tryd.underlying29 hi9 z1 z2 z3 hP s81 s83 rfl (by decide) (by first | decide | omega | (unfold maxLen; omega)) (by first | decide | omega | (unfold maxLen; omega)) ?_
      intro b0 b1 u1 hQ
      obtain ⟨α', hα'⟩ : ∃ α' : Rega.Atoms, α' = (fun j => if j = 7 then b0 else if j = 1007 then b1 else α j) := ⟨_, rfl⟩
      have f0 : R9 (Rega.ran L9 7) α' 7 = row (α' 7) 33 (full refZ [.int .u32 src, .int .u32 (n : Int)] (α' 1007)) := rfl
      have f1 : R9 (Rega.ran L9 7) α' 6 = row (α' 6) 33 #[.int .u32 src, .int .u32 (n : Int)] := rfl
      have hα : ∀ j, j % 1000 ≠ 7 → α' j = α j := fun j hj => by rw [hα']; simp only []; rw [if_neg (by omega), if_neg (by omega)]
      have hb0 : α' 7 = b0 := by rw [hα']; rfl
      have hb1 : α' 1007 = b1 := by rw [hα']; rfl
      have ha6 : α' 6 = α 6 := hα 6 (by decide)
      refine hK _ α' _ hα ?_ (step_call (st9) hL hcl hα [6] [7, 6] (by decide) (by decide) (by decide) (M := _) ?_ hG hQ)
      · show _ = (.slice (some ⟨α' 7, 0, none⟩) 1 (1 + α' 1007) : Value)
        simp only [hb0, hb1]
      · show [R9 (Rega.ran L9 7) α' 7, R9 (Rega.ran L9 7) α' 6] = _
        rw [f0, f1]
        simp only [hb0, hb1, ha6]
        try rfl
    · intro L9 α a9 u9 K9 hL hcl hA hG hS h0 hK
      replace hL : L9 8 = false := hL
      have q77 : a9.tmps[77]? = some (.pointer (some ⟨ms, 0, none⟩)) := hS 0 77 (by decide) rfl (by show 77 < 88; decide)
      have s77 := Rega.eval_of q77
      go_simp
      exact hK _ α _ (fun _ _ => rfl) rfl (step_same (st9) hL hcl rfl rfl hG)
    · intro L9 α a9 u9 K9 hL hcl hA hG hS h0 hK
      replace hL : L9 9 = false := hL
      have q85 : a9.tmps[85]? = some (.pointer (some ⟨ms, 0, none⟩)) := hS 8 85 (by decide) rfl (by show 85 < 88; decide)
      have s85 := Rega.eval_of q85
      go_simp
      exact hK _ α _ (fun _ _ => rfl) rfl (step_same (st9) hL hcl rfl rfl hG)
    · intro L9 α a9 u9 K9 hL hcl hA hG hS h0 hK
      replace hL : L9 10 = false := hL
      have q86 : a9.tmps[86]? = some (.pointer (some ⟨ms, 5, none⟩)) := hS 9 86 (by decide) rfl (by show 86 < 88; decide)
      have s86 := Rega.eval_of q86
      have q84 : a9.tmps[84]? = some (.slice (some ⟨α 7, 0, none⟩) 1 (1 + α 1007)) := hS 7 84 (by decide) rfl (by show 84 < 88; decide)
      have s84 := Rega.eval_of q84
      have e0 : R9 L9 α 1999 = row (ms) 38 MC := by
        show rguCg3T1999 n src ms MC B22 L9 α = _
        unfold rguCg3T1999
        rw [if_neg (by rw [hL]; decide)]
      have hr := hG.rowAt 1999 (act_base 1999 rfl) e0
      have c0 : u9.cell? ⟨ms, 5, none⟩ = some (.slice none 0 0) := hr.cell (hgen)
      have y0 : u9.frozen? ⟨ms, 5, none⟩ = false := hr.free (5)
      clear hr
      have E0 := Lib.hid e0
      clear e0
      go_simp
      have e1 : R9 (Rega.ran L9 10) α 1999 = row (ms) 38 (MC.setIfInBounds 5 (.slice (some ⟨α 7, 0, none⟩) 1 (1 + α 1007))) := by
        show rguCg3T1999 n src ms MC B22 (Rega.ran L9 10) α = _
        unfold rguCg3T1999
        rw [if_pos (show Rega.ran L9 10 10 = true from rfl)]
      exact hK _ α _ (fun _ _ => rfl) rfl (step_sets (st9) hL hcl rfl 1999 rfl (act_base 1999 rfl) E0.out (5) [.slice (some ⟨α 7, 0, none⟩) 1 (1 + α 1007)] (e1.trans rfl) hG)
  clear st9
  intro α u hG
  have e0 : R9 (fun k => decide (k < 11)) α 999 = row (B22) 33 #[.int .u32 src, .int .u32 (n : Int)] := rfl
  have e1 : R9 (fun k => decide (k < 11)) α 1999 = row (ms) 38 (MC.setIfInBounds 5 (.slice (some ⟨α 7, 0, none⟩) 1 (1 + α 1007))) := by
    show rguCg3T1999 n src ms MC B22 (fun k => decide (k < 11)) α = _
    unfold rguCg3T1999
    rw [if_pos (by decide)]
  have e2 : R9 (fun k => decide (k < 11)) α 6 = row (α 6) 33 #[.int .u32 src, .int .u32 (n : Int)] := rfl
  have e3 : R9 (fun k => decide (k < 11)) α 7 = row (α 7) 33 (full refZ [.int .u32 src, .int .u32 (n : Int)] (α 1007)) := rfl
  have hO : Own w0 u [row (B22) 33 #[.int .u32 src, .int .u32 (n : Int)], row (ms) 38 (MC.setIfInBounds 5 (.slice (some ⟨α 7, 0, none⟩) 1 (1 + α 1007))), row (α 6) 33 #[.int .u32 src, .int .u32 (n : Int)], row (α 7) 33 (full refZ [.int .u32 src, .int .u32 (n : Int)] (α 1007))] X9_28 := (hG.list [999, 1999, 6, 7] (by decide) (act_all (by decide))).conv (by
    show [R9 (fun k => decide (k < 11)) α 999, R9 (fun k => decide (k < 11)) α 1999, R9 (fun k => decide (k < 11)) α 6, R9 (fun k => decide (k < 11)) α 7] = _
    rw [e0, e1, e2, e3])
  clear hG e0 e1 e2 e3 R9
  generalize hfr : Rega.frameAt _ _ _ _ _ = fr
  have hdf : fr = ⟨#[.pointer (some ⟨pb, 0, none⟩), .int .u8 2, .string nmx, undef, undef, undef, .pointer (some ⟨B2, 0, none⟩), .pointer (some ⟨ms, 0, none⟩), .pointer (some ⟨B22, 0, none⟩), .pointer (some ⟨pb, 0, none⟩), .pointer (some ⟨pb, 0, none⟩), .pointer (some ⟨pb, 104, none⟩), .pointer (some ⟨ms, 0, none⟩), .int .u8 2, .bool false, undef, undef, undef, undef, undef, undef, undef, undef, undef, undef, .string nmx, .bool false, undef, undef, undef, undef, undef, undef, undef, undef, undef, undef, undef, undef, undef, undef, .pointer (some ⟨pb, 0, none⟩), .string nmx, .agg #[.int .u32 src, .int .u32 (n : Int)], .int .u8 2, .bool true, .bool true, .pointer (some ⟨ms, 0, none⟩), .pointer (some ⟨ms, 0, none⟩), .pointer (some ⟨ms, 15, none⟩), .int .u8 8, .bool true, .bool false, .bool false, undef, undef, undef, undef, undef, undef, undef, undef, undef, undef, .int .u8 2, .bool true, .pointer (some ⟨pb, 0, none⟩), .pointer (some ⟨pb, 0, none⟩), .pointer (some ⟨pb, 0, none⟩), .pointer (some ⟨pb, 199, none⟩), .slice none 0 0, .agg #[.int .u32 src, .int .u32 (n : Int)], .agg #[.nilIface, .int .i32 0, .int .u32 src, .int .u32 (n : Int)], .slice (some ⟨nd25, 0, none⟩) 1 1, .slice (some ⟨nd26, 0, none⟩) 1 (1 + nd27), .pointer (some ⟨pb, 0, none⟩), .pointer (some ⟨pb, 199, none⟩), .pointer (some ⟨ms, 0, none⟩), .pointer (some ⟨ms, 0, none⟩), .pointer (some ⟨ms, 0, none⟩), .pointer (some ⟨ms, 5, none⟩), .slice none 0 0, .agg #[.int .u32 src, .int .u32 (n : Int)], .slice (some ⟨α 6, 0, none⟩) 1 1, .slice (some ⟨α 7, 0, none⟩) 1 (1 + α 1007), .pointer (some ⟨ms, 0, none⟩), .pointer (some ⟨ms, 5, none⟩), undef], []⟩ := by rw [← hfr]; kernel_rfl
  clear hfr
  subst hdf
  generalize α 6 = nd29 at hO ⊢
  generalize α 7 = nd30 at hO ⊢
  generalize α 1007 = nd31 at hO ⊢
  clear α
  subst hX9_28
  have hN : Own w0 u [row (B22) 33 #[.int .u32 src, .int .u32 (n : Int)], row (ms) 38 (MC.setIfInBounds 5 (.slice (some ⟨nd30, 0, none⟩) 1 (1 + nd31))), row (nd29) 33 #[.int .u32 src, .int .u32 (n : Int)], row (nd30) 33 (full refZ [.int .u32 src, .int .u32 (n : Int)] (nd31)), row (pb) 176 (nd5.setIfInBounds 199 (.slice (some ⟨nd26, 0, none⟩) 1 (1 + nd27))), row (nd25) 185 #[.nilIface, .int .i32 0, .int .u32 src, .int .u32 (n : Int)], row (nd26) 185 (full trfZ [.nilIface, .int .i32 0, .int .u32 src, .int .u32 (n : Int)] (nd27)), row (nd6) 183 (full symZ (symL (st ++ [syk nmx 27])) nd7), row (B2) 33 #[.int .u32 0, .int .u32 0]] X1_21 := hO.back HL.out HX.out [1, 2, 3, 4, 5] (by decide) (by decide)
  clear hO HL HX
  have hO := hN
  clear hN
  obtain ⟨c9_0_0, c9_0_1, lt9_0, y9_0, -⟩ := hO.k2 0 rfl
  obtain ⟨c9_2_0, c9_2_1, lt9_2, y9_2, -⟩ := hO.k2 2 rfl
  obtain ⟨c9_5_0, c9_5_1, c9_5_2, c9_5_3, lt9_5, y9_5, -⟩ := hO.k4 5 rfl
  obtain ⟨c9_8_0, c9_8_1, lt9_8, y9_8, -⟩ := hO.k2 8 rfl
  have HO := Lib.hid hO
  clear hO
  go_wp2_with (first | (with_reducible refine Own.stay (fn := Tryd.f24) ?_) | (first | (go_at_call 28; go_in)))
  try with_reducible refine Own.Stay.mk ?_
  have hO := HO.out
  clear HO c9_0_0 c9_0_1 lt9_0 y9_0 c9_2_0 c9_2_1 lt9_2 y9_2 c9_5_0 c9_5_1 c9_5_2 c9_5_3 lt9_5 y9_5 c9_8_0 c9_8_1 lt9_8 y9_8
  generalize hW : World.setCell _ _ _ = W33
  have hN : Own w0 W33 [row (B22) 33 #[.int .u32 src, .int .u32 (n : Int)], row (ms) 38 (MC.setIfInBounds 5 (.slice (some ⟨nd30, 0, none⟩) 1 (1 + nd31))), row (nd29) 33 #[.int .u32 src, .int .u32 (n : Int)], row (nd30) 33 (full refZ [.int .u32 src, .int .u32 (n : Int)] (nd31)), row (pb) 176 (nd5.setIfInBounds 199 (.slice (some ⟨nd26, 0, none⟩) 1 (1 + nd27))), row (nd25) 185 #[.nilIface, .int .i32 0, .int .u32 src, .int .u32 (n : Int)], row (nd26) 185 (full trfZ [.nilIface, .int .i32 0, .int .u32 src, .int .u32 (n : Int)] (nd27)), row (nd6) 183 (full symZ (symL (st ++ [syk nmx 27])) nd7), row (B2) 33 #[.int .u32 src, .int .u32 (n : Int)]] X1_21 := by
    rw [← hW]
    exact ((hO).set 8 rfl 0 _).set 8 rfl 1 _
  clear hW hO
  have hO := hN
  clear hN
  have z9_0 : W33.cell? ⟨B2, 0, none⟩ = some (.int .u32 src) := hO.cell 8 rfl 0 rfl
  have z9_1 : W33.cell? ⟨B2, 1, none⟩ = some (.int .u32 (n : Int)) := hO.cell 8 rfl 1 rfl
  have hN : Own w0 W33 [row (pb) 176 (nd5.setIfInBounds 199 (.slice (some ⟨nd26, 0, none⟩) 1 (1 + nd27))), row (nd6) 183 (full symZ (symL (st ++ [syk nmx 27])) nd7), row (ms) 38 (MC.setIfInBounds 5 (.slice (some ⟨nd30, 0, none⟩) 1 (1 + nd31))), row (nd26) 185 (full trfZ [.nilIface, .int .i32 0, .int .u32 src, .int .u32 (n : Int)] (nd27)), row (nd30) 33 (full refZ [.int .u32 src, .int .u32 (n : Int)] (nd31))] X1_21 := hO.sub [4, 7, 1, 6, 3] (by decide)
  clear hO
  have hO := hN
  clear hN
  rw [HX1_21.out] at hO
  have hN := hO.bring HBX1_21.out
  clear hO
  have hO := hN
  clear hN
  refine bodyPost_ret (v := .agg #[.int .u32 src, .int .u32 (n : Int)]) ?_ rfl ⟨nd5.setIfInBounds 199 (.slice (some ⟨nd26, 0, none⟩) 1 (1 + nd27)), MC.setIfInBounds 5 (.slice (some ⟨nd30, 0, none⟩) 1 (1 + nd31)), nd6, nd7, nd8, nd9, nd26, nd27, nd30, nd31, rfl, (get_other pr10 (by omega) _), (get_other pr11 (by omega) _), (get_other pr12 (by omega) _), (get_other pr13 (by omega) _), (get_other pr14 (by omega) _), (get_other pr15 (by omega) _), (get_other pr16 (by omega) _), (get_other pr17 (by omega) _), (get_other pr18 (by omega) _), (get_set pr19 _), (get_other pr20 (by omega) _), (get_other hkind (by omega) _), (get_set hgen _), (get_other hpar (by omega) _), hO⟩
  simp [results, Tryd.results24, go_sem, z9_0, z9_1]
end Go.Proofs.YtkmojepgbbdeiaaDoor.Use
