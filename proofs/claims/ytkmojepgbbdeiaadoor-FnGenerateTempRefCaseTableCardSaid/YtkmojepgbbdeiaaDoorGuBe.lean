/- generateTempRef, walked: one of its cases. No condition. -/
import Derived.Test.YtkmojepgbbdeiaaDoorTs
import Derived.Test.YtkmojepgbbdeiaaDoorMno
import Derived.Test.YtkmojepgbbdeiaaDoorMini
import Derived.Test.YtkmojepgbbdeiaaDoorAppL
import Derived.Test.YtkmojepgbbdeiaaDoorApp
import Derived.Test.YtkmojepgbbdeiaaDoorOwnK
import Derived.Test.YtkmojepgbbdeiaaDoorOwn
import Derived.Test.YtkmojepgbbdeiaaDoorDeepCells
import Derived.Test.YtkmojepgbbdeiaaDoorRows
import Derived.Test.YtkmojepgbbdeiaaDoorLive
namespace Go.Proofs.YtkmojepgbbdeiaaDoor.Use
open Go.ChangeShapes Go.WideShapes Go.ChangeAt Go.RowKit Go.Sort Own
set_option linter.unusedVariables false
def rguBe1E (pb : Nat) (PC : Array Value) (i : Nat) : Nat → Rega.Atoms → Value
  | 0, α => .agg #[.string ⟨#[97, 98, 99, 100, 101, 102, 103, 104, 105, 106, 107, 108, 109, 110, 111, 112, 113, 114, 115, 116, 117, 118, 119, 120, 121, 122, 65, 66, 67, 68, 69, 70, 71, 72, 73, 74, 75, 76, 77, 78, 79, 80, 81, 82, 83, 84, 85, 86, 87, 88, 89, 90, 95, 36]⟩, .string ⟨#[97, 98, 99, 100, 101, 102, 103, 104, 105, 106, 107, 108, 109, 110, 111, 112, 113, 114, 115, 116, 117, 118, 119, 120, 121, 122, 65, 66, 67, 68, 69, 70, 71, 72, 73, 74, 75, 76, 77, 78, 79, 80, 81, 82, 83, 84, 85, 86, 87, 88, 89, 90, 48, 49, 50, 51, 52, 53, 54, 55, 56, 57, 95, 36]⟩]
  | 1, α => .pointer (some ⟨pb, 0, none⟩)
  | 2, α => .pointer (some ⟨pb, 0, none⟩)
  | 3, α => .pointer (some ⟨pb, 287, none⟩)
  | 4, α => .int .i64 (i : Int)
  | 5, α => .string (nmB i)
  | 6, α => .string (⟨#[95]⟩ ++ (nmB i))
  | 7, α => .string (⟨#[95]⟩ ++ (nmB i))
  | _, _ => undef
def rguBe1Anc : Nat → List Nat
  | 2 => [1]
  | 3 => [1, 2]
  | 4 => [1, 2, 3]
  | 5 => [0, 1, 2, 3, 4]
  | 6 => [0, 1, 2, 3, 4, 5]
  | 7 => [0, 1, 2, 3, 4, 5, 6]
  | _ => []
def rguBe1Trn : Nat → List Nat
  | _ => []
def rguBe1Cnt : List (Nat × Nat) := []
def rguBe1R (pb : Nat) (PC : Array Value) (i : Nat) (L9 : Nat → Bool) (α : Rega.Atoms) (ix9 : Nat) : Rw := if ix9 = 999 then row (pb) 176 PC else (0, .map #[] 0)
theorem rguBe1_he (pb : Nat) (PC : Array Value) (i : Nat) : ∀ kk α α', (∀ j, (j % 1000 = kk ∨ j % 1000 ∈ rguBe1Anc kk) → α j = α' j) → rguBe1E pb PC i kk α = rguBe1E pb PC i kk α' := by
  intro kk α α' h
  match kk with
  | 0 => rfl
  | 1 => rfl
  | 2 => rfl
  | 3 => rfl
  | 4 => rfl
  | 5 => rfl
  | 6 => rfl
  | 7 => rfl
  | n + 8 => rfl
theorem rguBe1_st (pb : Nat) (PC : Array Value) (i : Nat) : Stable rguBe1Cnt 1 rguBe1Anc rguBe1Trn (rguBe1R pb PC i) := by
  intro k9 L9 α α' ix9 hk hcl hα hact ht
  have hp := act_places hact
  replace hp : ix9 ∈ [999] := hp
  simp only [List.mem_cons, List.not_mem_nil, or_false] at hp
  subst hp
  rfl
def rguBe3E (n : Nat) (src : Int) (ms : Nat) (MC : Array Value) (B25 : Nat) : Nat → Rega.Atoms → Value
  | 0, α => .pointer (some ⟨ms, 0, none⟩)
  | 1, α => .pointer (some ⟨ms, 0, none⟩)
  | 2, α => .pointer (some ⟨ms, 0, none⟩)
  | 3, α => .pointer (some ⟨ms, 5, none⟩)
  | 4, α => .slice none 0 0
  | 5, α => .agg #[.int .u32 src, .int .u32 (n : Int)]
  | 6, α => .slice (some ⟨α 6, 0, none⟩) 1 1
  | 7, α => .slice (some ⟨α 7, 0, none⟩) 1 (1 + α 1007)
  | 8, α => .pointer (some ⟨ms, 0, none⟩)
  | 9, α => .pointer (some ⟨ms, 5, none⟩)
  | 10, α => undef
  | _, _ => undef
def rguBe3Anc : Nat → List Nat
  | 2 => [1]
  | 3 => [1, 2]
  | 4 => [1, 2, 3]
  | 6 => [5]
  | 7 => [1, 2, 3, 4, 5, 6]
  | 8 => [0, 1, 2, 3, 4, 5, 6, 7]
  | 9 => [0, 1, 2, 3, 4, 5, 6, 7, 8]
  | 10 => [0, 1, 2, 3, 4, 5, 6, 7, 8, 9]
  | _ => []
def rguBe3Trn : Nat → List Nat
  | 10 => [1999]
  | _ => []
def rguBe3Cnt : List (Nat × Nat) := [(6, 1), (7, 1)]
def rguBe3T1999 (n : Nat) (src : Int) (ms : Nat) (MC : Array Value) (B25 : Nat) (L9 : Nat → Bool) (α : Rega.Atoms) : Rw := if L9 10 = true then row (ms) 38 (MC.setIfInBounds 5 (.slice (some ⟨α 7, 0, none⟩) 1 (1 + α 1007))) else row (ms) 38 MC
def rguBe3R (n : Nat) (src : Int) (ms : Nat) (MC : Array Value) (B25 : Nat) (L9 : Nat → Bool) (α : Rega.Atoms) (ix9 : Nat) : Rw := if ix9 = 999 then row (B25) 33 #[.int .u32 src, .int .u32 (n : Int)] else if ix9 = 1999 then rguBe3T1999 n src ms MC B25 L9 α else if ix9 = 6 then row (α 6) 33 #[.int .u32 src, .int .u32 (n : Int)] else if ix9 = 7 then row (α 7) 33 (full refZ [.int .u32 src, .int .u32 (n : Int)] (α 1007)) else (0, .map #[] 0)
theorem rguBe3_he (n : Nat) (src : Int) (ms : Nat) (MC : Array Value) (B25 : Nat) : ∀ kk α α', (∀ j, (j % 1000 = kk ∨ j % 1000 ∈ rguBe3Anc kk) → α j = α' j) → rguBe3E n src ms MC B25 kk α = rguBe3E n src ms MC B25 kk α' := by
  intro kk α α' h
  match kk with
  | 0 => rfl
  | 1 => rfl
  | 2 => rfl
  | 3 => rfl
  | 4 => rfl
  | 5 => rfl
  | 6 => simp only [rguBe3E, h 6 (Or.inl rfl)]
  | 7 => simp only [rguBe3E, h 7 (Or.inl rfl), h 1007 (Or.inl rfl)]
  | 8 => rfl
  | 9 => rfl
  | 10 => rfl
  | n + 11 => rfl
theorem rguBe3_st (n : Nat) (src : Int) (ms : Nat) (MC : Array Value) (B25 : Nat) : Stable rguBe3Cnt 2 rguBe3Anc rguBe3Trn (rguBe3R n src ms MC B25) := by
  intro k9 L9 α α' ix9 hk hcl hα hact ht
  have hp := act_places hact
  replace hp : ix9 ∈ [999, 1999, 6, 7] := hp
  simp only [List.mem_cons, List.not_mem_nil, or_false] at hp
  rcases hp with rfl | rfl | rfl | rfl
  · rfl
  · show rguBe3T1999 n src ms MC B25 (Rega.ran L9 k9) α' = rguBe3T1999 n src ms MC B25 L9 α
    unfold rguBe3T1999
    have n10 : 10 ≠ k9 := fun e => ht (by rw [← e]; decide)
    rw [ran_ne n10]
    by_cases e10 : L9 10 = true
    · first | rw [if_pos e10, if_pos e10] | rw [if_pos e10]
      try simp only [hα 7 (ne_ran hk (hcl 10 e10 7 (by decide))), hα 1007 (ne_ran hk (hcl 10 e10 7 (by decide)))]
    first | rw [if_neg e10, if_neg e10] | rw [if_neg e10]
  · have e0 : L9 6 = true := act_lt hact (by decide)
    show row (α' 6) 33 #[.int .u32 src, .int .u32 (n : Int)] = row (α 6) 33 #[.int .u32 src, .int .u32 (n : Int)]
    simp only [hα 6 (ne_ran hk e0)]
  · have e0 : L9 7 = true := act_lt hact (by decide)
    show row (α' 7) 33 (full refZ [.int .u32 src, .int .u32 (n : Int)] (α' 1007)) = row (α 7) 33 (full refZ [.int .u32 src, .int .u32 (n : Int)] (α 1007))
    simp only [hα 7 (ne_ran hk e0), hα 1007 (ne_ran hk e0)]
def guBePost (pb : Nat) (PC : Array Value) (sb c : Nat) (st : List Sy) (n tb : Nat) (TU : List Value) (cu : Nat) (ts : Bool) (src : Int) (i ms : Nat) (MC : Array Value) (vm vr vc vp : Value) (blk : Nat → Nat) (d : Nat) (SA : Nat → Array Value) (w0 : World) (X : Nat → Obj → Prop) (e : Ending) (w' : World) : Prop :=
  ∃ PC2 : Array Value, ∃ MC2 : Array Value, ∃ sb2 : Nat, ∃ c2 : Nat, ∃ tb2 : Nat, ∃ cu2 : Nat, ∃ gb2 : Nat, ∃ cg2 : Nat, e = .returned (.agg #[.int .u32 src, .int .u32 (n : Int)]) ∧ PC2[66]? = some (.int .u32 src) ∧ PC2[32]? = some (.bool ts) ∧ PC2[108]? = some (tsS ts tb2 (n + 1) cu2) ∧ PC2[106]? = some (.slice (some ⟨sb2, 0, none⟩) (n + 1) (n + 1 + c2)) ∧ PC2[104]? = some (.pointer (some ⟨blk d, 0, none⟩)) ∧ PC2[187]? = some (vm) ∧ PC2[200]? = some (vr) ∧ PC2[288]? = some (vc) ∧ PC2[287]? = some (.int .i64 ((i : Int) + 1)) ∧ PC2[199]? = some (.slice none 0 0) ∧ PC2[198]? = some (.slice none 0 0) ∧ MC2[15]? = some (.int .u8 8) ∧ MC2[5]? = some (.slice (some ⟨gb2, 0, none⟩) 1 (1 + cg2)) ∧ MC2[1]? = some (vp) ∧ Own w0 w' ([row (pb) 176 PC2, row (sb2) 183 (full symZ (symL (st ++ [syk (tn i) 27])) c2), row (ms) 38 MC2, row (gb2) 33 (full refZ ([.int .u32 src, .int .u32 (n : Int)]) cg2)] ++ (optT ts (row (tb2) 22 (full u32Z (TU ++ [.int .u32 0]) cu2)))) X
set_option maxRecDepth 100000 in
set_option maxHeartbeats 8000000 in
theorem guBe (pb : Nat) (PC : Array Value) (sb c : Nat) (st : List Sy) (n tb : Nat) (TU : List Value) (cu : Nat) (ts : Bool) (src : Int) (i ms : Nat) (MC : Array Value) (vm vr vc vp : Value) (blk : Nat → Nat) (d : Nat) (SA : Nat → Array Value) (w0 w : World) (X : Nat → Obj → Prop) (hO : Own w0 w ([row (pb) 176 PC, row (sb) 183 (full symZ (symL st) c), row (ms) 38 MC] ++ (optT ts (row (tb) 22 (full u32Z TU cu)))) X) (hk66 : PC[66]? = some (.int .u32 src)) (hk32 : PC[32]? = some (.bool ts)) (hk108 : PC[108]? = some (tsS ts tb n cu)) (htl : TU.length = n) (hk106 : PC[106]? = some (.slice (some ⟨sb, 0, none⟩) n (n + c))) (hn : st.length = n) (hnb : n ≤ 2000000) (hk104 : PC[104]? = some (.pointer (some ⟨blk d, 0, none⟩))) (hk187 : PC[187]? = some (vm)) (hk200 : PC[200]? = some (vr)) (hk288 : PC[288]? = some (vc)) (hk287 : PC[287]? = some (.int .i64 (i : Int))) (hk199 : PC[199]? = some (.slice none 0 0)) (hk198 : PC[198]? = some (.slice none 0 0)) (hkind : MC[15]? = some (.int .u8 8)) (hgen : MC[5]? = some (.slice none 0 0)) (hpar : MC[1]? = some (vp)) (hi : i ≤ 100000) (hb0 : blk 0 = ms) (hch : ∀ k, k < d → X (blk (k + 1)) (.cells (SA k) 38 (0, 0)) ∧ (SA k)[15]? = some (.int .u8 0) ∧ (SA k)[1]? = some (.pointer (some ⟨blk k, 0, none⟩))) (hg0 : w0.cell? ⟨0, 0, none⟩ = some (.int .u32 4294967295)) (hg1 : w0.cell? ⟨0, 1, none⟩ = some (.int .u32 4294967295)) :
    Calls Tryd.prog 24 #[.pointer (some ⟨pb, 0, none⟩), .int .u8 1, .string ⟨#[]⟩] w (guBePost pb PC sb c st n tb TU cu ts src i ms MC vm vr vc vp blk d SA w0 X) := by
  go_enter Tryd.func24, Tryd.ntmps24
  have HBX1_1 := Lib.hid hO.tail
  have hN := hO.aside
  obtain ⟨X1_1, hX1_1⟩ : ∃ Y, Y = FR (optT ts (row (tb) 22 (full u32Z TU cu))) X := ⟨_, rfl⟩
  rw [← hX1_1] at hN
  have HX1_1 := Lib.hid hX1_1
  clear hO hX1_1
  have hO := hN
  clear hN
  replace hch : ∀ k, k < d → X1_1 (blk (k + 1)) (.cells (SA k) 38 (0, 0)) ∧ (SA k)[15]? = some (.int .u8 0) ∧ (SA k)[1]? = some (.pointer (some ⟨blk k, 0, none⟩)) := by
    intro k hk
    rw [HX1_1.out]
    exact ⟨Or.inl (hch k hk).1, (hch k hk).2⟩
  obtain ⟨ix9, hix9, hax9, hjx9⟩ := hO.ix
  have ix9_0 : ix9 pb = 0 := hjx9 0 _ _ rfl
  have ix9_1 : ix9 sb = 1 := hjx9 1 _ _ rfl
  have ix9_2 : ix9 ms = 2 := hjx9 2 _ _ rfl
  clear hjx9
  have c9_0_32 : w.cell? ⟨pb, 32, none⟩ = some (.bool ts) := hO.cell 0 rfl (32) (hk32)
  have c9_0_66 : w.cell? ⟨pb, 66, none⟩ = some (.int .u32 src) := hO.cell 0 rfl (66) (hk66)
  have c9_0_104 : w.cell? ⟨pb, 104, none⟩ = some (.pointer (some ⟨blk d, 0, none⟩)) := hO.cell 0 rfl (104) (hk104)
  have c9_0_106 : w.cell? ⟨pb, 106, none⟩ = some (.slice (some ⟨sb, 0, none⟩) n (n + c)) := hO.cell 0 rfl (106) (hk106)
  have c9_0_108 : w.cell? ⟨pb, 108, none⟩ = some (tsS ts tb n cu) := hO.cell 0 rfl (108) (hk108)
  have c9_0_187 : w.cell? ⟨pb, 187, none⟩ = some (vm) := hO.cell 0 rfl (187) (hk187)
  have c9_0_198 : w.cell? ⟨pb, 198, none⟩ = some (.slice none 0 0) := hO.cell 0 rfl (198) (hk198)
  have c9_0_199 : w.cell? ⟨pb, 199, none⟩ = some (.slice none 0 0) := hO.cell 0 rfl (199) (hk199)
  have c9_0_200 : w.cell? ⟨pb, 200, none⟩ = some (vr) := hO.cell 0 rfl (200) (hk200)
  have c9_0_287 : w.cell? ⟨pb, 287, none⟩ = some (.int .i64 (i : Int)) := hO.cell 0 rfl (287) (hk287)
  have c9_0_288 : w.cell? ⟨pb, 288, none⟩ = some (vc) := hO.cell 0 rfl (288) (hk288)
  have lt9_0 : pb < w.heap.size := hO.lt 0 rfl
  have y9_0 : ∀ o, w.frozen? ⟨pb, o, none⟩ = false := hO.free 0 rfl
  have c9_2_1 : w.cell? ⟨ms, 1, none⟩ = some (vp) := hO.cell 2 rfl (1) (hpar)
  have c9_2_5 : w.cell? ⟨ms, 5, none⟩ = some (.slice none 0 0) := hO.cell 2 rfl (5) (hgen)
  have c9_2_15 : w.cell? ⟨ms, 15, none⟩ = some (.int .u8 8) := hO.cell 2 rfl (15) (hkind)
  have lt9_2 : ms < w.heap.size := hO.lt 2 rfl
  have y9_2 : ∀ o, w.frozen? ⟨ms, o, none⟩ = false := hO.free 2 rfl
  have HO := Lib.hid hO
  clear hO
  have hnz := nmB_size i (by omega)
  have htn : (⟨#[95]⟩ : ByteArray) ++ nmB i = tn i := rfl
  have hnz2 : ¬ 9223372036854775807 < 1 + (nmB i).size := by omega
  have hnz3 : ((nmB i).size : Int) ≤ 8388608 := by omega
  go_wp2_with (first | (with_reducible refine Own.stay (fn := Tryd.f24) ?_) | (first | (go_at_call 28; go_in)))
  try with_reducible refine Own.Stay.mk ?_
  have hO := HO.out
  clear HO hix9 hax9 ix9_0 ix9_1 ix9_2 ix9 c9_0_32 c9_0_66 c9_0_104 c9_0_106 c9_0_108 c9_0_187 c9_0_198 c9_0_199 c9_0_200 c9_0_287 c9_0_288 lt9_0 y9_0 c9_2_1 c9_2_5 c9_2_15 lt9_2 y9_2
  generalize hW : World.alloc _ _ = W3
  have hN : Own w0 W3 [row (w.heap.size) 33 #[.int .u32 0, .int .u32 0], row (pb) 176 PC, row (sb) 183 (full symZ (symL st) c), row (ms) 38 MC] X1_1 := by
    rw [← hW]
    exact (hO).alloc' _ (w.heap.size) (by simp)
  clear hW hO
  generalize w.heap.size = B2 at hN ⊢
  have hO := hN
  clear hN
  go_loopg [7] (d + 1) (fun gf s7 wx => ∃ k x, k ≤ d ∧ k + 1 = gf ∧ x = blk k ∧ s7 = .pointer (some ⟨x, 0, none⟩) ∧ Own w0 wx [row (B2) 33 #[.int .u32 0, .int .u32 0], row (pb) 176 PC, row (sb) 183 (full symZ (symL st) c), row (ms) 38 MC] X1_1)
  case atStart => exact ⟨d, _, Nat.le_refl _, rfl, rfl, rfl, hO⟩
  obtain ⟨k, x, hkd, hkg, hxk, rfl, hO⟩ := hrel
  by_cases hk0 : 0 < k
  · skip
    obtain ⟨k2, rfl⟩ : ∃ k2, k = k2 + 1 := ⟨k - 1, by omega⟩
    subst hxk
    obtain ⟨hc1, hc2, hc3⟩ := hch k2 (by omega)
    obtain ⟨gq, rfl⟩ : ∃ gq, gk = gq + 1 := ⟨gk - 1, by omega⟩
    obtain ⟨c9_0_0, c9_0_1, lt9_0, y9_0, -⟩ := hO.k2 0 rfl
    have HO := Lib.hid hO
    clear hO
    have hsk9 : wr.cell? ⟨blk (k2 + 1), 15, none⟩ = some (.int .u8 0) := HO.out.fcell hc1 15 hc2
    have hsp9 : wr.cell? ⟨blk (k2 + 1), 1, none⟩ = some (.pointer (some ⟨blk k2, 0, none⟩)) := HO.out.fcell hc1 1 hc3
    go_wp2_with (first | (with_reducible refine Own.stay (fn := Tryd.f24) ?_) | (first | (go_at_call 28; go_in)))
    try with_reducible refine Own.Stay.mk ?_
    have hO := HO.out
    clear HO hsk9 hsp9 c9_0_0 c9_0_1 lt9_0 y9_0
    have hN : Own w0 wr [row (B2) 33 #[.int .u32 0, .int .u32 0], row (pb) 176 PC, row (sb) 183 (full symZ (symL st) c), row (ms) 38 MC] X1_1 := hO.sub [0, 1, 2, 3] (by decide)
    clear hO
    have hO := hN
    clear hN
    go_roundg gq
    case measure => omega
    case rel => exact ⟨k2, _, by omega, by omega, rfl, rfl, hO⟩
  obtain rfl : k = 0 := by omega
  obtain rfl : ms = x := (hxk.trans hb0).symm
  clear hxk hb0 hch hkd hkg hk0
  obtain ⟨ix9, hix9, hax9, hjx9⟩ := hO.ix
  have ix9_0 : ix9 B2 = 0 := hjx9 0 _ _ rfl
  have ix9_1 : ix9 pb = 1 := hjx9 1 _ _ rfl
  have ix9_2 : ix9 sb = 2 := hjx9 2 _ _ rfl
  have ix9_3 : ix9 ms = 3 := hjx9 3 _ _ rfl
  clear hjx9
  obtain ⟨c9_0_0, c9_0_1, lt9_0, y9_0, -⟩ := hO.k2 0 rfl
  have c9_1_32 : wr.cell? ⟨pb, 32, none⟩ = some (.bool ts) := hO.cell 1 rfl (32) (hk32)
  have c9_1_66 : wr.cell? ⟨pb, 66, none⟩ = some (.int .u32 src) := hO.cell 1 rfl (66) (hk66)
  have c9_1_104 : wr.cell? ⟨pb, 104, none⟩ = some (.pointer (some ⟨blk d, 0, none⟩)) := hO.cell 1 rfl (104) (hk104)
  have c9_1_106 : wr.cell? ⟨pb, 106, none⟩ = some (.slice (some ⟨sb, 0, none⟩) n (n + c)) := hO.cell 1 rfl (106) (hk106)
  have c9_1_108 : wr.cell? ⟨pb, 108, none⟩ = some (tsS ts tb n cu) := hO.cell 1 rfl (108) (hk108)
  have c9_1_187 : wr.cell? ⟨pb, 187, none⟩ = some (vm) := hO.cell 1 rfl (187) (hk187)
  have c9_1_198 : wr.cell? ⟨pb, 198, none⟩ = some (.slice none 0 0) := hO.cell 1 rfl (198) (hk198)
  have c9_1_199 : wr.cell? ⟨pb, 199, none⟩ = some (.slice none 0 0) := hO.cell 1 rfl (199) (hk199)
  have c9_1_200 : wr.cell? ⟨pb, 200, none⟩ = some (vr) := hO.cell 1 rfl (200) (hk200)
  have c9_1_287 : wr.cell? ⟨pb, 287, none⟩ = some (.int .i64 (i : Int)) := hO.cell 1 rfl (287) (hk287)
  have c9_1_288 : wr.cell? ⟨pb, 288, none⟩ = some (vc) := hO.cell 1 rfl (288) (hk288)
  have lt9_1 : pb < wr.heap.size := hO.lt 1 rfl
  have y9_1 : ∀ o, wr.frozen? ⟨pb, o, none⟩ = false := hO.free 1 rfl
  have c9_3_1 : wr.cell? ⟨ms, 1, none⟩ = some (vp) := hO.cell 3 rfl (1) (hpar)
  have c9_3_5 : wr.cell? ⟨ms, 5, none⟩ = some (.slice none 0 0) := hO.cell 3 rfl (5) (hgen)
  have c9_3_15 : wr.cell? ⟨ms, 15, none⟩ = some (.int .u8 8) := hO.cell 3 rfl (15) (hkind)
  have lt9_3 : ms < wr.heap.size := hO.lt 3 rfl
  have y9_3 : ∀ o, wr.frozen? ⟨ms, o, none⟩ = false := hO.free 3 rfl
  have HO := Lib.hid hO
  clear hO
  go_wp2_with (first | (with_reducible refine Own.stay (fn := Tryd.f24) ?_) | (first | (go_at_call 28; go_in)))
  try with_reducible refine Own.Stay.mk ?_
  have hO := HO.out
  clear HO hix9 hax9 ix9_0 ix9_1 ix9_2 ix9_3 ix9 c9_0_0 c9_0_1 lt9_0 y9_0 c9_1_32 c9_1_66 c9_1_104 c9_1_106 c9_1_108 c9_1_187 c9_1_198 c9_1_199 c9_1_200 c9_1_287 c9_1_288 lt9_1 y9_1 c9_3_1 c9_3_5 c9_3_15 lt9_3 y9_3
  have hL := hO.apart
  have hX := hO.apartX
  have HL := Lib.hid hL
  have HX := Lib.hid hX
  clear hL hX
  have hP9 := hO.pick [1] (by decide)
  generalize hX9_4 : Own.Rest _ _ X1_1 = X9_4 at hP9
  replace hP9 : Own w0 wr [row (pb) 176 PC] X9_4 := hP9
  clear hO
  have hO := hP9
  clear hP9
  have st9 := rguBe1_st pb PC i
  refine wp_region_own (e := rguBe1E pb PC i) (anc := rguBe1Anc) (G := (fun L9 α u9 => OwnF w0 u9 (act rguBe1Cnt 1 L9) (rguBe1R pb PC i L9 α) X9_4)) (by kernel_rfl) (by kernel_rfl) (by kernel_rfl) (by kernel_rfl) (rguBe1_he pb PC i) ?_ (RunsAll.all ?_) ?_
  · have hp : ∀ i, act rguBe1Cnt 1 (fun _ => false) i → i ∈ [999] := by
      intro i hi
      have h9 : i % 1000 = 999 := by
        by_cases h : i % 1000 = 999
        · exact h
        · exact absurd (act_lt hi h) (by simp)
      unfold act at hi
      rw [if_pos h9] at hi
      simp only [List.mem_cons, List.not_mem_nil, or_false]
      omega
    refine hO.drew.family (fun i hi => ?_) (fun i j hi hj hij => ?_)
    · have := hp i hi
      simp only [List.mem_cons, List.not_mem_nil, or_false] at this
      subst this
      rfl
    · have h1 := hp i hi
      have h2 := hp j hj
      simp only [List.mem_cons, List.not_mem_nil, or_false] at h1 h2
      omega
  · refine ⟨?_, ?_, ?_, ?_, ?_, ?_, ?_, ?_, trivial⟩
    · intro L9 α a9 u9 K9 hL hcl hA hG hS h0 hK
      replace hL : L9 0 = false := hL
      go_simp
      have hM : ∀ i, i ∈ [] → act rguBe1Cnt 1 L9 i := by intro i hi; simp at hi
      have hP : Own w0 u9 [] _ := hG.pick [] (by decide) (by simp)
      clear hM
      refine Calls.mono (minJS  _ _ _ hP ) ?_
      rintro e9 u1 ⟨rfl, hQ⟩
      obtain ⟨α', hα'⟩ : ∃ α' : Rega.Atoms, α' = α := ⟨_, rfl⟩
      have hα : ∀ j, j % 1000 ≠ 0 → α' j = α j := fun j hj => by rw [hα']
      skip
      refine hK _ α' _ hα ?_ (step_call (st9) hL hcl hα [] [] (by decide) (by decide) (by decide) (M := _) ?_ hG hQ)
      · rfl
      · show [] = _
        rw []
    · intro L9 α a9 u9 K9 hL hcl hA hG hS h0 hK
      replace hL : L9 1 = false := hL
      have q0 : a9.tmps[0]? = some (.pointer (some ⟨pb, 0, none⟩)) := (h0 0 (by kernel_rfl)).trans rfl
      have s0 := Rega.eval_of q0
      go_simp
      exact hK _ α _ (fun _ _ => rfl) rfl (step_same (st9) hL hcl rfl rfl hG)
    · intro L9 α a9 u9 K9 hL hcl hA hG hS h0 hK
      replace hL : L9 2 = false := hL
      have q28 : a9.tmps[28]? = some (.pointer (some ⟨pb, 0, none⟩)) := hS 1 28 (by decide) rfl (by show 28 < 88; decide)
      have s28 := Rega.eval_of q28
      go_simp
      exact hK _ α _ (fun _ _ => rfl) rfl (step_same (st9) hL hcl rfl rfl hG)
    · intro L9 α a9 u9 K9 hL hcl hA hG hS h0 hK
      replace hL : L9 3 = false := hL
      have q29 : a9.tmps[29]? = some (.pointer (some ⟨pb, 0, none⟩)) := hS 2 29 (by decide) rfl (by show 29 < 88; decide)
      have s29 := Rega.eval_of q29
      go_simp
      exact hK _ α _ (fun _ _ => rfl) rfl (step_same (st9) hL hcl rfl rfl hG)
    · intro L9 α a9 u9 K9 hL hcl hA hG hS h0 hK
      replace hL : L9 4 = false := hL
      have q30 : a9.tmps[30]? = some (.pointer (some ⟨pb, 287, none⟩)) := hS 3 30 (by decide) rfl (by show 30 < 88; decide)
      have s30 := Rega.eval_of q30
      have e0 : rguBe1R pb PC i L9 α 999 = row (pb) 176 PC := rfl
      have hr := hG.rowAt 999 (act_base 999 rfl) e0
      have c0 : u9.cell? ⟨pb, 287, none⟩ = some (.int .i64 (i : Int)) := hr.cell (hk287)
      clear hr e0
      go_simp
      exact hK _ α _ (fun _ _ => rfl) rfl (step_same (st9) hL hcl rfl rfl hG)
    · intro L9 α a9 u9 K9 hL hcl hA hG hS h0 hK
      replace hL : L9 5 = false := hL
      have q27 : a9.tmps[27]? = some (.agg #[.string ⟨#[97, 98, 99, 100, 101, 102, 103, 104, 105, 106, 107, 108, 109, 110, 111, 112, 113, 114, 115, 116, 117, 118, 119, 120, 121, 122, 65, 66, 67, 68, 69, 70, 71, 72, 73, 74, 75, 76, 77, 78, 79, 80, 81, 82, 83, 84, 85, 86, 87, 88, 89, 90, 95, 36]⟩, .string ⟨#[97, 98, 99, 100, 101, 102, 103, 104, 105, 106, 107, 108, 109, 110, 111, 112, 113, 114, 115, 116, 117, 118, 119, 120, 121, 122, 65, 66, 67, 68, 69, 70, 71, 72, 73, 74, 75, 76, 77, 78, 79, 80, 81, 82, 83, 84, 85, 86, 87, 88, 89, 90, 48, 49, 50, 51, 52, 53, 54, 55, 56, 57, 95, 36]⟩]) := hS 0 27 (by decide) rfl (by show 27 < 88; decide)
      have s27 := Rega.eval_of q27
      have q31 : a9.tmps[31]? = some (.int .i64 (i : Int)) := hS 4 31 (by decide) rfl (by show 31 < 88; decide)
      have s31 := Rega.eval_of q31
      go_simp
      have hM : ∀ i, i ∈ [] → act rguBe1Cnt 1 L9 i := by intro i hi; simp at hi
      have hP : Own w0 u9 [] _ := hG.pick [] (by decide) (by simp)
      clear hM
      refine Calls.mono (minNm i _ _ _ hP (by omega)) ?_
      rintro e9 u1 ⟨rfl, hQ⟩
      obtain ⟨α', hα'⟩ : ∃ α' : Rega.Atoms, α' = α := ⟨_, rfl⟩
      have hα : ∀ j, j % 1000 ≠ 5 → α' j = α j := fun j hj => by rw [hα']
      skip
      refine hK _ α' _ hα ?_ (step_call (st9) hL hcl hα [] [] (by decide) (by decide) (by decide) (M := _) ?_ hG hQ)
      · rfl
      · show [] = _
        rw []
    · intro L9 α a9 u9 K9 hL hcl hA hG hS h0 hK
      replace hL : L9 6 = false := hL
      have q32 : a9.tmps[32]? = some (.string (nmB i)) := hS 5 32 (by decide) rfl (by show 32 < 88; decide)
      have s32 := Rega.eval_of q32
      go_simp
      exact hK _ α _ (fun _ _ => rfl) rfl (step_same (st9) hL hcl rfl rfl hG)
    · intro L9 α a9 u9 K9 hL hcl hA hG hS h0 hK
      replace hL : L9 7 = false := hL
      have q33 : a9.tmps[33]? = some (.string (⟨#[95]⟩ ++ (nmB i))) := hS 6 33 (by decide) rfl (by show 33 < 88; decide)
      have s33 := Rega.eval_of q33
      go_simp
      exact hK _ α _ (fun _ _ => rfl) rfl (step_same (st9) hL hcl rfl rfl hG)
  clear st9
  intro α u hG
  have e0 : rguBe1R pb PC i (fun k => decide (k < 8)) α 999 = row (pb) 176 PC := rfl
  have hO : Own w0 u [row (pb) 176 PC] X9_4 := (hG.list [999] (by decide) (act_all (by decide))).conv (by
    show [rguBe1R pb PC i (fun k => decide (k < 8)) α 999] = _
    rw [e0])
  clear hG e0
  generalize hfr : Rega.frameAt _ _ _ _ _ = fr
  have hdf : fr = ⟨#[.pointer (some ⟨pb, 0, none⟩), .int .u8 1, .string (⟨#[95]⟩ ++ (nmB i)), undef, undef, undef, .pointer (some ⟨B2, 0, none⟩), .pointer (some ⟨ms, 0, none⟩), undef, .pointer (some ⟨pb, 0, none⟩), .pointer (some ⟨pb, 0, none⟩), .pointer (some ⟨pb, 104, none⟩), .pointer (some ⟨blk d, 0, none⟩), .int .u8 1, .bool true, .pointer (some ⟨ms, 0, none⟩), .pointer (some ⟨ms, 0, none⟩), .pointer (some ⟨ms, 15, none⟩), .int .u8 8, .bool true, .bool false, u21, u22, u23, u24, .string ⟨#[]⟩, .bool true, .agg #[.string ⟨#[97, 98, 99, 100, 101, 102, 103, 104, 105, 106, 107, 108, 109, 110, 111, 112, 113, 114, 115, 116, 117, 118, 119, 120, 121, 122, 65, 66, 67, 68, 69, 70, 71, 72, 73, 74, 75, 76, 77, 78, 79, 80, 81, 82, 83, 84, 85, 86, 87, 88, 89, 90, 95, 36]⟩, .string ⟨#[97, 98, 99, 100, 101, 102, 103, 104, 105, 106, 107, 108, 109, 110, 111, 112, 113, 114, 115, 116, 117, 118, 119, 120, 121, 122, 65, 66, 67, 68, 69, 70, 71, 72, 73, 74, 75, 76, 77, 78, 79, 80, 81, 82, 83, 84, 85, 86, 87, 88, 89, 90, 48, 49, 50, 51, 52, 53, 54, 55, 56, 57, 95, 36]⟩], .pointer (some ⟨pb, 0, none⟩), .pointer (some ⟨pb, 0, none⟩), .pointer (some ⟨pb, 287, none⟩), .int .i64 (i : Int), .string (nmB i), .string (⟨#[95]⟩ ++ (nmB i)), undef, undef, undef, undef, undef, undef, undef, undef, undef, undef, undef, undef, undef, undef, undef, undef, undef, undef, undef, undef, undef, undef, undef, undef, undef, undef, undef, undef, undef, undef, undef, undef, undef, undef, undef, undef, undef, undef, undef, undef, undef, undef, undef, undef, undef, undef, undef, undef, undef, undef, undef, undef, undef, undef], []⟩ := by rw [← hfr]; kernel_rfl
  clear hfr
  subst hdf
  clear α
  subst hX9_4
  have hN : Own w0 u [row (pb) 176 PC, row (B2) 33 #[.int .u32 0, .int .u32 0], row (sb) 183 (full symZ (symL st) c), row (ms) 38 MC] X1_1 := hO.back HL.out HX.out [0, 2, 3] (by decide) (by decide)
  clear hO HL HX
  have hO := hN
  clear hN
  obtain ⟨ix9, hix9, hax9, hjx9⟩ := hO.ix
  have ix9_0 : ix9 pb = 0 := hjx9 0 _ _ rfl
  have ix9_1 : ix9 B2 = 1 := hjx9 1 _ _ rfl
  have ix9_2 : ix9 sb = 2 := hjx9 2 _ _ rfl
  have ix9_3 : ix9 ms = 3 := hjx9 3 _ _ rfl
  clear hjx9
  have c9_0_32 : u.cell? ⟨pb, 32, none⟩ = some (.bool ts) := hO.cell 0 rfl (32) (hk32)
  have c9_0_66 : u.cell? ⟨pb, 66, none⟩ = some (.int .u32 src) := hO.cell 0 rfl (66) (hk66)
  have c9_0_104 : u.cell? ⟨pb, 104, none⟩ = some (.pointer (some ⟨blk d, 0, none⟩)) := hO.cell 0 rfl (104) (hk104)
  have c9_0_106 : u.cell? ⟨pb, 106, none⟩ = some (.slice (some ⟨sb, 0, none⟩) n (n + c)) := hO.cell 0 rfl (106) (hk106)
  have c9_0_108 : u.cell? ⟨pb, 108, none⟩ = some (tsS ts tb n cu) := hO.cell 0 rfl (108) (hk108)
  have c9_0_187 : u.cell? ⟨pb, 187, none⟩ = some (vm) := hO.cell 0 rfl (187) (hk187)
  have c9_0_198 : u.cell? ⟨pb, 198, none⟩ = some (.slice none 0 0) := hO.cell 0 rfl (198) (hk198)
  have c9_0_199 : u.cell? ⟨pb, 199, none⟩ = some (.slice none 0 0) := hO.cell 0 rfl (199) (hk199)
  have c9_0_200 : u.cell? ⟨pb, 200, none⟩ = some (vr) := hO.cell 0 rfl (200) (hk200)
  have c9_0_287 : u.cell? ⟨pb, 287, none⟩ = some (.int .i64 (i : Int)) := hO.cell 0 rfl (287) (hk287)
  have c9_0_288 : u.cell? ⟨pb, 288, none⟩ = some (vc) := hO.cell 0 rfl (288) (hk288)
  have lt9_0 : pb < u.heap.size := hO.lt 0 rfl
  have y9_0 : ∀ o, u.frozen? ⟨pb, o, none⟩ = false := hO.free 0 rfl
  obtain ⟨c9_1_0, c9_1_1, lt9_1, y9_1, -⟩ := hO.k2 1 rfl
  have c9_3_1 : u.cell? ⟨ms, 1, none⟩ = some (vp) := hO.cell 3 rfl (1) (hpar)
  have c9_3_5 : u.cell? ⟨ms, 5, none⟩ = some (.slice none 0 0) := hO.cell 3 rfl (5) (hgen)
  have c9_3_15 : u.cell? ⟨ms, 15, none⟩ = some (.int .u8 8) := hO.cell 3 rfl (15) (hkind)
  have lt9_3 : ms < u.heap.size := hO.lt 3 rfl
  have y9_3 : ∀ o, u.frozen? ⟨ms, o, none⟩ = false := hO.free 3 rfl
  have HO := Lib.hid hO
  clear hO
  go_wp2_with (first | (with_reducible refine Own.stay (fn := Tryd.f24) ?_) | (first | (go_at_call 28; go_in)))
  try with_reducible refine Own.Stay.mk ?_
  have hO := HO.out
  clear HO hix9 hax9 ix9_0 ix9_1 ix9_2 ix9_3 ix9 c9_0_32 c9_0_66 c9_0_104 c9_0_106 c9_0_108 c9_0_187 c9_0_198 c9_0_199 c9_0_200 c9_0_287 c9_0_288 lt9_0 y9_0 c9_1_0 c9_1_1 lt9_1 y9_1 c9_3_1 c9_3_5 c9_3_15 lt9_3 y9_3
  generalize hW : World.setCell _ _ _ = W6
  have hN : Own w0 W6 [row (pb) 176 (PC.setIfInBounds 287 (.int .i64 ((i : Int) + 1))), row (B2) 33 #[.int .u32 0, .int .u32 0], row (sb) 183 (full symZ (symL st) c), row (ms) 38 MC] X1_1 := by
    rw [← hW]
    exact (hO).set 0 rfl 287 _
  clear hW hO
  have hO := hN
  clear hN
  have hN : Own w0 W6 [row (pb) 176 (PC.setIfInBounds 287 (.int .i64 ((i : Int) + 1))), row (sb) 183 (full symZ (symL st) c), row (B2) 33 #[.int .u32 0, .int .u32 0], row (ms) 38 MC] X1_1 := hO.sub [0, 2, 1, 3] (by decide)
  clear hO
  have hO := hN
  clear hN
  rw [HX1_1.out] at hO
  have hN := hO.bring HBX1_1.out
  clear hO
  have hO := hN
  clear hN
  have hP9 : Own w0 W6 (([row (pb) 176 (PC.setIfInBounds 287 (.int .i64 ((i : Int) + 1))), row (sb) 183 (full symZ (symL st) c)] ++ optT ts (row (tb) 22 (full u32Z TU cu))) ++ [row (B2) 33 #[.int .u32 0, .int .u32 0], row (ms) 38 MC]) X := hO.perm (perm1 [row (pb) 176 (PC.setIfInBounds 287 (.int .i64 ((i : Int) + 1))), row (sb) 183 (full symZ (symL st) c)] [row (B2) 33 #[.int .u32 0, .int .u32 0], row (ms) 38 MC] (optT ts (row (tb) 22 (full u32Z TU cu))))
  clear hO
  have HT := Lib.hid hP9.tail
  replace hP9 := hP9.aside
  have T9 := newSymU pb (PC.setIfInBounds 287 (.int .i64 ((i : Int) + 1))) sb c st n tb _ cu ts src 27 (tn i) (.pointer (some ⟨blk d, 0, none⟩)) vm vr vc (.int .i64 ((i : Int) + 1)) (.slice none 0 0) (.slice none 0 0) _ _ _ hP9 (get_other hk66 (by omega) _) (get_other hk32 (by omega) _) (get_other hk108 (by omega) _) htl (get_other hk106 (by omega) _) hn hnb (get_other hk104 (by omega) _) (get_other hk187 (by omega) _) (get_other hk200 (by omega) _) (get_other hk288 (by omega) _) (get_set hk287 _) (get_other hk199 (by omega) _) (get_other hk198 (by omega) _) hg0 hg1
  refine Calls.mono T9 ?_
  clear hP9 T9
  rintro e u7 ⟨nd8, nd9, nd10, nd11, nd12, rfl, pr13, pr14, pr15, pr16, pr17, pr18, pr19, pr20, pr21, pr22, pr23, hQ⟩
  replace hQ := hQ.bring HT.out
  clear HT
  have hO : Own w0 u7 ([row (pb) 176 nd8, row (nd9) 183 (full symZ (symL (st ++ [syk (tn i) 27])) nd10), row (B2) 33 #[.int .u32 0, .int .u32 0], row (ms) 38 MC] ++ optT ts (row (nd11) 22 (full u32Z (TU ++ [.int .u32 0]) nd12))) X := hQ.perm (perm1 [row (pb) 176 nd8, row (nd9) 183 (full symZ (symL (st ++ [syk (tn i) 27])) nd10)] [row (B2) 33 #[.int .u32 0, .int .u32 0], row (ms) 38 MC] (optT ts (row (nd11) 22 (full u32Z (TU ++ [.int .u32 0]) nd12)))).symm
  clear hQ
  try simp only []
  have HBX1_24 := Lib.hid hO.tail
  have hN := hO.aside
  obtain ⟨X1_24, hX1_24⟩ : ∃ Y, Y = FR (optT ts (row (nd11) 22 (full u32Z (TU ++ [.int .u32 0]) nd12))) X := ⟨_, rfl⟩
  rw [← hX1_24] at hN
  have HX1_24 := Lib.hid hX1_24
  clear hO hX1_24
  have hO := hN
  clear hN
  obtain ⟨c9_2_0, c9_2_1, lt9_2, y9_2, -⟩ := hO.k2 2 rfl
  have HO := Lib.hid hO
  clear hO
  go_wp2_with (first | (with_reducible refine Own.stay (fn := Tryd.f24) ?_) | (first | (go_at_call 28; go_in)))
  try with_reducible refine Own.Stay.mk ?_
  have hO := HO.out
  clear HO c9_2_0 c9_2_1 lt9_2 y9_2
  generalize hW : World.alloc _ _ = W26
  have hN : Own w0 W26 [row (u7.heap.size) 33 #[.int .u32 src, .int .u32 (n : Int)], row (pb) 176 nd8, row (nd9) 183 (full symZ (symL (st ++ [syk (tn i) 27])) nd10), row (B2) 33 #[.int .u32 0, .int .u32 0], row (ms) 38 MC] X1_24 := by
    rw [← hW]
    exact (hO).alloc' _ (u7.heap.size) (by simp)
  clear hW hO
  generalize u7.heap.size = B25 at hN ⊢
  have hO := hN
  clear hN
  have hL := hO.apart
  have hX := hO.apartX
  have HL := Lib.hid hL
  have HX := Lib.hid hX
  clear hL hX
  have hP9 := hO.pick [0, 4] (by decide)
  generalize hX9_27 : Own.Rest _ _ X1_24 = X9_27 at hP9
  replace hP9 : Own w0 W26 [row (B25) 33 #[.int .u32 src, .int .u32 (n : Int)], row (ms) 38 MC] X9_27 := hP9
  clear hO
  have hO := hP9
  clear hP9
  have st9 := rguBe3_st n src ms MC B25
  let R9 := rguBe3R n src ms MC B25
  refine wp_region_own (e := rguBe3E n src ms MC B25) (anc := rguBe3Anc) (G := (fun L9 α u9 => OwnF w0 u9 (act rguBe3Cnt 2 L9) (rguBe3R n src ms MC B25 L9 α) X9_27)) (by kernel_rfl) (by kernel_rfl) (by kernel_rfl) (by kernel_rfl) (rguBe3_he n src ms MC B25) ?_ (RunsAll.all ?_) ?_
  · have hp : ∀ i, act rguBe3Cnt 2 (fun _ => false) i → i ∈ [999, 1999] := by
      intro i hi
      have h9 : i % 1000 = 999 := by
        by_cases h : i % 1000 = 999
        · exact h
        · exact absurd (act_lt hi h) (by simp)
      unfold act at hi
      rw [if_pos h9] at hi
      simp only [List.mem_cons, List.not_mem_nil, or_false]
      omega
    refine hO.drew.family (fun i hi => ?_) (fun i j hi hj hij => ?_)
    · have := hp i hi
      simp only [List.mem_cons, List.not_mem_nil, or_false] at this
      rcases this with rfl | rfl <;> rfl
    · have h1 := hp i hi
      have h2 := hp j hj
      simp only [List.mem_cons, List.not_mem_nil, or_false] at h1 h2
      omega
  · refine ⟨?_, ?_, ?_, ?_, ?_, ?_, ?_, ?_, ?_, ?_, ?_, trivial⟩
    · intro L9 α a9 u9 K9 hL hcl hA hG hS h0 hK
      replace hL : L9 0 = false := hL
      have q7 : a9.tmps[7]? = some (.pointer (some ⟨ms, 0, none⟩)) := (h0 7 (by kernel_rfl)).trans rfl
      have s7 := Rega.eval_of q7
      go_simp
      exact hK _ α _ (fun _ _ => rfl) rfl (step_same (st9) hL hcl rfl rfl hG)
    · intro L9 α a9 u9 K9 hL hcl hA hG hS h0 hK
      replace hL : L9 1 = false := hL
      have q7 : a9.tmps[7]? = some (.pointer (some ⟨ms, 0, none⟩)) := (h0 7 (by kernel_rfl)).trans rfl
      have s7 := Rega.eval_of q7
      go_simp
      exact hK _ α _ (fun _ _ => rfl) rfl (step_same (st9) hL hcl rfl rfl hG)
    · intro L9 α a9 u9 K9 hL hcl hA hG hS h0 hK
      replace hL : L9 2 = false := hL
      have q78 : a9.tmps[78]? = some (.pointer (some ⟨ms, 0, none⟩)) := hS 1 78 (by decide) rfl (by show 78 < 88; decide)
      have s78 := Rega.eval_of q78
      go_simp
      exact hK _ α _ (fun _ _ => rfl) rfl (step_same (st9) hL hcl rfl rfl hG)
    · intro L9 α a9 u9 K9 hL hcl hA hG hS h0 hK
      replace hL : L9 3 = false := hL
      have q79 : a9.tmps[79]? = some (.pointer (some ⟨ms, 0, none⟩)) := hS 2 79 (by decide) rfl (by show 79 < 88; decide)
      have s79 := Rega.eval_of q79
      go_simp
      exact hK _ α _ (fun _ _ => rfl) rfl (step_same (st9) hL hcl rfl rfl hG)
    · intro L9 α a9 u9 K9 hL hcl hA hG hS h0 hK
      replace hL : L9 4 = false := hL
      have q80 : a9.tmps[80]? = some (.pointer (some ⟨ms, 5, none⟩)) := hS 3 80 (by decide) rfl (by show 80 < 88; decide)
      have s80 := Rega.eval_of q80
      have e0 : R9 L9 α 1999 = row (ms) 38 MC := by
        show rguBe3T1999 n src ms MC B25 L9 α = _
        unfold rguBe3T1999
        rw [if_neg (fun e => by have := hcl 10 e 4 (by decide); rw [hL] at this; cases this)]
      have hr := hG.rowAt 1999 (act_base 1999 rfl) e0
      have c0 : u9.cell? ⟨ms, 5, none⟩ = some (.slice none 0 0) := hr.cell (hgen)
      clear hr e0
      go_simp
      exact hK _ α _ (fun _ _ => rfl) rfl (step_same (st9) hL hcl rfl rfl hG)
    · intro L9 α a9 u9 K9 hL hcl hA hG hS h0 hK
      replace hL : L9 5 = false := hL
      have q8 : a9.tmps[8]? = some (.pointer (some ⟨B25, 0, none⟩)) := (h0 8 (by kernel_rfl)).trans rfl
      have s8 := Rega.eval_of q8
      have e0 : R9 L9 α 999 = row (B25) 33 #[.int .u32 src, .int .u32 (n : Int)] := rfl
      have hr := hG.rowAt 999 (act_base 999 rfl) e0
      have c0 : u9.cell? ⟨B25, 0, none⟩ = some (.int .u32 src) := hr.cell rfl
      have c1 : u9.cell? ⟨B25, 1, none⟩ = some (.int .u32 (n : Int)) := hr.cell rfl
      clear hr e0
      go_simp
      exact hK _ α _ (fun _ _ => rfl) rfl (step_same (st9) hL hcl rfl rfl hG)
    · intro L9 α a9 u9 K9 hL hcl hA hG hS h0 hK
      replace hL : L9 6 = false := hL
      have q82 : a9.tmps[82]? = some (.agg #[.int .u32 src, .int .u32 (n : Int)]) := hS 5 82 (by decide) rfl (by show 82 < 88; decide)
      have s82 := Rega.eval_of q82
      go_simp
      exact hK _ (fun j => if j = 6 then u9.heap.size else α j) _ (fun j hj => if_neg (fun e => hj (by rw [e]))) rfl (step_alloc (st9) hL hcl rfl rfl (by decide) _ rfl hG)
    · intro L9 α a9 u9 K9 hL hcl hA hG hS h0 hK
      replace hL : L9 7 = false := hL
      have q81 : a9.tmps[81]? = some (.slice none 0 0) := hS 4 81 (by decide) rfl (by show 81 < 88; decide)
      have s81 := Rega.eval_of q81
      have q83 : a9.tmps[83]? = some (.slice (some ⟨α 6, 0, none⟩) 1 1) := hS 6 83 (by decide) rfl (by show 83 < 88; decide)
      have s83 := Rega.eval_of q83
      simp only [Region.wanted, if_true]
      have e0 : R9 L9 α 6 = row (α 6) 33 #[.int .u32 src, .int .u32 (n : Int)] := rfl
      have hM : ∀ i, i ∈ [6] → act rguBe3Cnt 2 L9 i := by
        intro i hi
        simp only [List.mem_cons, List.not_mem_nil, or_false] at hi
        subst hi
        exact act_new 6 rfl (hA 6 (by decide))
      have hP : Own w0 u9 [row (α 6) 33 #[.int .u32 src, .int .u32 (n : Int)]] _ := (hG.pick [6] (by decide) hM).conv (by
        show [R9 L9 α 6] = _
        rw [e0])
      clear e0 hM
      obtain ⟨i9, hi9, z1, z2, z3⟩ := info_parts infoRef
      refine wp_append_full_nil (Operand.tmp 81) (Operand.tmp 83) 29 rfl 33 i9 (.agg refZ) 2 8 Tryd.underlying29 hi9 z1 z2 z3 hP s81 s83 rfl (by decide) (by first | decide | omega | (unfold maxLen; omega)) (by first | decide | omega | (unfold maxLen; omega)) ?_
      intro b0 b1 u1 hQ
      obtain ⟨α', hα'⟩ : ∃ α' : Rega.Atoms, α' = (fun j => if j = 7 then b0 else if j = 1007 then b1 else α j) := ⟨_, rfl⟩
      have f0 : R9 (Rega.ran L9 7) α' 7 = row (α' 7) 33 (full refZ [.int .u32 src, .int .u32 (n : Int)] (α' 1007)) := rfl
      have f1 : R9 (Rega.ran L9 7) α' 6 = row (α' 6) 33 #[.int .u32 src, .int .u32 (n : Int)] := rfl
      have hα : ∀ j, j % 1000 ≠ 7 → α' j = α j := fun j hj => by rw [hα']; simp only []; rw [if_neg (by omega), if_neg (by omega)]
      have hb0 : α' 7 = b0 := by rw [hα']; rfl
      have hb1 : α' 1007 = b1 := by rw [hα']; rfl
      have ha6 : α' 6 = α 6 := hα 6 (by decide)
      refine hK _ α' _ hα ?_ (step_call (st9) hL hcl hα [6] [7, 6] (by decide) (by decide) (by decide) (M := _) ?_ hG hQ)
      · show _ = (.slice (some ⟨α' 7, 0, none⟩) 1 (1 + α' 1007) : Value)
        simp only [hb0, hb1]
      · show [R9 (Rega.ran L9 7) α' 7, R9 (Rega.ran L9 7) α' 6] = _
        rw [f0, f1]
        simp only [hb0, hb1, ha6]
        try rfl
    · intro L9 α a9 u9 K9 hL hcl hA hG hS h0 hK
      replace hL : L9 8 = false := hL
      have q77 : a9.tmps[77]? = some (.pointer (some ⟨ms, 0, none⟩)) := hS 0 77 (by decide) rfl (by show 77 < 88; decide)
      have s77 := Rega.eval_of q77
      go_simp
      exact hK _ α _ (fun _ _ => rfl) rfl (step_same (st9) hL hcl rfl rfl hG)
    · intro L9 α a9 u9 K9 hL hcl hA hG hS h0 hK
      replace hL : L9 9 = false := hL
      have q85 : a9.tmps[85]? = some (.pointer (some ⟨ms, 0, none⟩)) := hS 8 85 (by decide) rfl (by show 85 < 88; decide)
      have s85 := Rega.eval_of q85
      go_simp
      exact hK _ α _ (fun _ _ => rfl) rfl (step_same (st9) hL hcl rfl rfl hG)
    · intro L9 α a9 u9 K9 hL hcl hA hG hS h0 hK
      replace hL : L9 10 = false := hL
      have q86 : a9.tmps[86]? = some (.pointer (some ⟨ms, 5, none⟩)) := hS 9 86 (by decide) rfl (by show 86 < 88; decide)
      have s86 := Rega.eval_of q86
      have q84 : a9.tmps[84]? = some (.slice (some ⟨α 7, 0, none⟩) 1 (1 + α 1007)) := hS 7 84 (by decide) rfl (by show 84 < 88; decide)
      have s84 := Rega.eval_of q84
      have e0 : R9 L9 α 1999 = row (ms) 38 MC := by
        show rguBe3T1999 n src ms MC B25 L9 α = _
        unfold rguBe3T1999
        rw [if_neg (by rw [hL]; decide)]
      have hr := hG.rowAt 1999 (act_base 1999 rfl) e0
      have c0 : u9.cell? ⟨ms, 5, none⟩ = some (.slice none 0 0) := hr.cell (hgen)
      have y0 : u9.frozen? ⟨ms, 5, none⟩ = false := hr.free (5)
      clear hr
      have E0 := Lib.hid e0
      clear e0
      go_simp
      have e1 : R9 (Rega.ran L9 10) α 1999 = row (ms) 38 (MC.setIfInBounds 5 (.slice (some ⟨α 7, 0, none⟩) 1 (1 + α 1007))) := by
        show rguBe3T1999 n src ms MC B25 (Rega.ran L9 10) α = _
        unfold rguBe3T1999
        rw [if_pos (show Rega.ran L9 10 10 = true from rfl)]
      exact hK _ α _ (fun _ _ => rfl) rfl (step_sets (st9) hL hcl rfl 1999 rfl (act_base 1999 rfl) E0.out (5) [.slice (some ⟨α 7, 0, none⟩) 1 (1 + α 1007)] (e1.trans rfl) hG)
  clear st9
  intro α u hG
  have e0 : R9 (fun k => decide (k < 11)) α 999 = row (B25) 33 #[.int .u32 src, .int .u32 (n : Int)] := rfl
  have e1 : R9 (fun k => decide (k < 11)) α 1999 = row (ms) 38 (MC.setIfInBounds 5 (.slice (some ⟨α 7, 0, none⟩) 1 (1 + α 1007))) := by
    show rguBe3T1999 n src ms MC B25 (fun k => decide (k < 11)) α = _
    unfold rguBe3T1999
    rw [if_pos (by decide)]
  have e2 : R9 (fun k => decide (k < 11)) α 6 = row (α 6) 33 #[.int .u32 src, .int .u32 (n : Int)] := rfl
  have e3 : R9 (fun k => decide (k < 11)) α 7 = row (α 7) 33 (full refZ [.int .u32 src, .int .u32 (n : Int)] (α 1007)) := rfl
  have hO : Own w0 u [row (B25) 33 #[.int .u32 src, .int .u32 (n : Int)], row (ms) 38 (MC.setIfInBounds 5 (.slice (some ⟨α 7, 0, none⟩) 1 (1 + α 1007))), row (α 6) 33 #[.int .u32 src, .int .u32 (n : Int)], row (α 7) 33 (full refZ [.int .u32 src, .int .u32 (n : Int)] (α 1007))] X9_27 := (hG.list [999, 1999, 6, 7] (by decide) (act_all (by decide))).conv (by
    show [R9 (fun k => decide (k < 11)) α 999, R9 (fun k => decide (k < 11)) α 1999, R9 (fun k => decide (k < 11)) α 6, R9 (fun k => decide (k < 11)) α 7] = _
    rw [e0, e1, e2, e3])
  clear hG e0 e1 e2 e3 R9
  generalize hfr : Rega.frameAt _ _ _ _ _ = fr
  have hdf : fr = ⟨#[.pointer (some ⟨pb, 0, none⟩), .int .u8 1, .string (⟨#[95]⟩ ++ nmB i), undef, undef, undef, .pointer (some ⟨B2, 0, none⟩), .pointer (some ⟨ms, 0, none⟩), .pointer (some ⟨B25, 0, none⟩), .pointer (some ⟨pb, 0, none⟩), .pointer (some ⟨pb, 0, none⟩), .pointer (some ⟨pb, 104, none⟩), .pointer (some ⟨blk d, 0, none⟩), .int .u8 1, .bool true, .pointer (some ⟨ms, 0, none⟩), .pointer (some ⟨ms, 0, none⟩), .pointer (some ⟨ms, 15, none⟩), .int .u8 8, .bool true, .bool false, u21, u22, u23, u24, .string ⟨#[]⟩, .bool true, .agg #[.string ⟨#[97, 98, 99, 100, 101, 102, 103, 104, 105, 106, 107, 108, 109, 110, 111, 112, 113, 114, 115, 116, 117, 118, 119, 120, 121, 122, 65, 66, 67, 68, 69, 70, 71, 72, 73, 74, 75, 76, 77, 78, 79, 80, 81, 82, 83, 84, 85, 86, 87, 88, 89, 90, 95, 36]⟩, .string ⟨#[97, 98, 99, 100, 101, 102, 103, 104, 105, 106, 107, 108, 109, 110, 111, 112, 113, 114, 115, 116, 117, 118, 119, 120, 121, 122, 65, 66, 67, 68, 69, 70, 71, 72, 73, 74, 75, 76, 77, 78, 79, 80, 81, 82, 83, 84, 85, 86, 87, 88, 89, 90, 48, 49, 50, 51, 52, 53, 54, 55, 56, 57, 95, 36]⟩], .pointer (some ⟨pb, 0, none⟩), .pointer (some ⟨pb, 0, none⟩), .pointer (some ⟨pb, 287, none⟩), .int .i64 (i : Int), .string (nmB i), .string (⟨#[95]⟩ ++ nmB i), .pointer (some ⟨pb, 0, none⟩), .pointer (some ⟨pb, 0, none⟩), .pointer (some ⟨pb, 287, none⟩), .int .i64 (i : Int), .int .i64 ((i : Int) + 1), .pointer (some ⟨pb, 0, none⟩), .pointer (some ⟨pb, 287, none⟩), .pointer (some ⟨pb, 0, none⟩), .string (⟨#[95]⟩ ++ nmB i), .agg #[.int .u32 src, .int .u32 (n : Int)], .int .u8 1, .bool false, .bool false, undef, undef, undef, undef, undef, undef, .bool false, undef, undef, undef, undef, undef, undef, undef, undef, undef, undef, .int .u8 1, .bool false, undef, undef, undef, undef, undef, undef, undef, undef, undef, undef, undef, .pointer (some ⟨ms, 0, none⟩), .pointer (some ⟨ms, 0, none⟩), .pointer (some ⟨ms, 0, none⟩), .pointer (some ⟨ms, 5, none⟩), .slice none 0 0, .agg #[.int .u32 src, .int .u32 (n : Int)], .slice (some ⟨α 6, 0, none⟩) 1 1, .slice (some ⟨α 7, 0, none⟩) 1 (1 + α 1007), .pointer (some ⟨ms, 0, none⟩), .pointer (some ⟨ms, 5, none⟩), undef], []⟩ := by rw [← hfr]; kernel_rfl
  clear hfr
  subst hdf
  generalize α 6 = nd28 at hO ⊢
  generalize α 7 = nd29 at hO ⊢
  generalize α 1007 = nd30 at hO ⊢
  clear α
  subst hX9_27
  have hN : Own w0 u [row (B25) 33 #[.int .u32 src, .int .u32 (n : Int)], row (ms) 38 (MC.setIfInBounds 5 (.slice (some ⟨nd29, 0, none⟩) 1 (1 + nd30))), row (nd28) 33 #[.int .u32 src, .int .u32 (n : Int)], row (nd29) 33 (full refZ [.int .u32 src, .int .u32 (n : Int)] (nd30)), row (pb) 176 nd8, row (nd9) 183 (full symZ (symL (st ++ [syk (tn i) 27])) nd10), row (B2) 33 #[.int .u32 0, .int .u32 0]] X1_24 := hO.back HL.out HX.out [1, 2, 3] (by decide) (by decide)
  clear hO HL HX
  have hO := hN
  clear hN
  obtain ⟨c9_0_0, c9_0_1, lt9_0, y9_0, -⟩ := hO.k2 0 rfl
  obtain ⟨c9_2_0, c9_2_1, lt9_2, y9_2, -⟩ := hO.k2 2 rfl
  obtain ⟨c9_6_0, c9_6_1, lt9_6, y9_6, -⟩ := hO.k2 6 rfl
  have HO := Lib.hid hO
  clear hO
  go_wp2_with (first | (with_reducible refine Own.stay (fn := Tryd.f24) ?_) | (first | (go_at_call 28; go_in)))
  try with_reducible refine Own.Stay.mk ?_
  have hO := HO.out
  clear HO c9_0_0 c9_0_1 lt9_0 y9_0 c9_2_0 c9_2_1 lt9_2 y9_2 c9_6_0 c9_6_1 lt9_6 y9_6
  generalize hW : World.setCell _ _ _ = W32
  have hN : Own w0 W32 [row (B25) 33 #[.int .u32 src, .int .u32 (n : Int)], row (ms) 38 (MC.setIfInBounds 5 (.slice (some ⟨nd29, 0, none⟩) 1 (1 + nd30))), row (nd28) 33 #[.int .u32 src, .int .u32 (n : Int)], row (nd29) 33 (full refZ [.int .u32 src, .int .u32 (n : Int)] (nd30)), row (pb) 176 nd8, row (nd9) 183 (full symZ (symL (st ++ [syk (tn i) 27])) nd10), row (B2) 33 #[.int .u32 src, .int .u32 (n : Int)]] X1_24 := by
    rw [← hW]
    exact ((hO).set 6 rfl 0 _).set 6 rfl 1 _
  clear hW hO
  have hO := hN
  clear hN
  have z9_0 : W32.cell? ⟨B2, 0, none⟩ = some (.int .u32 src) := hO.cell 6 rfl 0 rfl
  have z9_1 : W32.cell? ⟨B2, 1, none⟩ = some (.int .u32 (n : Int)) := hO.cell 6 rfl 1 rfl
  have hN : Own w0 W32 [row (pb) 176 nd8, row (nd9) 183 (full symZ (symL (st ++ [syk (tn i) 27])) nd10), row (ms) 38 (MC.setIfInBounds 5 (.slice (some ⟨nd29, 0, none⟩) 1 (1 + nd30))), row (nd29) 33 (full refZ [.int .u32 src, .int .u32 (n : Int)] (nd30))] X1_24 := hO.sub [4, 5, 1, 3] (by decide)
  clear hO
  have hO := hN
  clear hN
  rw [HX1_24.out] at hO
  have hN := hO.bring HBX1_24.out
  clear hO
  have hO := hN
  clear hN
  refine bodyPost_ret (v := .agg #[.int .u32 src, .int .u32 (n : Int)]) ?_ rfl ⟨nd8, MC.setIfInBounds 5 (.slice (some ⟨nd29, 0, none⟩) 1 (1 + nd30)), nd9, nd10, nd11, nd12, nd29, nd30, rfl, pr13, pr14, pr15, pr16, pr17, pr18, pr19, pr20, pr21, pr22, pr23, (get_other hkind (by omega) _), (get_set hgen _), (get_other hpar (by omega) _), hO⟩
  simp [results, Tryd.results24, go_sem, z9_0, z9_1]
end Go.Proofs.YtkmojepgbbdeiaaDoor.Use
