/- The name function's closure and its door. No condition. -/
import Derived.Test.YtaoflhnkhgclhaaDoorApp
import Derived.Test.YtaoflhnkhgclhaaDoorOwnK
import Derived.Test.YtaoflhnkhgclhaaDoorOwn
import Derived.Test.YtaoflhnkhgclhaaDoorDeepCells
import Derived.Test.YtaoflhnkhgclhaaDoorRows
import Derived.Test.YtaoflhnkhgclhaaDoorUse
import Derived.Test.YtaoflhnkhgclhaaDoorLive
namespace Go.Proofs.YtaoflhnkhgclhaaDoor.Use
open Go.ChangeShapes Go.WideShapes Go.ChangeAt Go.RowKit Go.Sort Own
set_option linter.unusedVariables false
/-- The node of an expression that a call has handed back. -/
@[go_sem] theorem run_fieldData (t : Nat) (p : Value) (l : Int) (w : World) : (Instr.field 155 (.agg #[.iface t p, .int .i32 l]) 0).run Tryd.prog w = .ok (.iface t p) w := by kernel_rfl

def rNI2E (cx : Nat) (XC : Array Value) (cc : Nat) (CC : Array Value) (nb : Nat) (xqa : Nat) (xqc : Nat) (i : Nat) (j : Nat) (B1 : Nat) : Nat → Rega.Atoms → Value
  | 0, α => .pointer (some ⟨cx, 0, none⟩)
  | 1, α => .pointer (some ⟨cx, 0, none⟩)
  | 2, α => .pointer (some ⟨cx, 2, none⟩)
  | 3, α => .pointer (some ⟨cc, 0, none⟩)
  | 4, α => .pointer (some ⟨cc, 0, none⟩)
  | 5, α => .pointer (some ⟨cc, 1, none⟩)
  | 6, α => .pointer (some ⟨nb, 0, none⟩)
  | 7, α => .pointer (some ⟨nb, 0, none⟩)
  | 8, α => .pointer (some ⟨nb, 0, none⟩)
  | 9, α => .agg #[.int .i32 0]
  | 10, α => .pointer (some ⟨xqc, 1, none⟩)
  | 11, α => .agg #[.int .u32 0, .int .u32 (i : Int)]
  | 12, α => .agg #[.int .u32 0, .int .u32 (i : Int), .bool false, .bool false, .bool false]
  | 13, α => .pointer (some ⟨α 13, 0, none⟩)
  | 14, α => .iface 203 (.pointer (some ⟨α 13, 0, none⟩))
  | 15, α => .agg #[.iface 203 (.pointer (some ⟨α 13, 0, none⟩)), .int .i32 0]
  | 16, α => undef
  | _, _ => undef
def rNI2Anc : Nat → List Nat
  | 1 => [0]
  | 2 => [0, 1]
  | 3 => [0, 1, 2]
  | 4 => [0, 1, 2, 3]
  | 5 => [0, 1, 2, 3, 4]
  | 6 => [0, 1, 2, 3, 4, 5]
  | 7 => [0, 1, 2, 3, 4, 5, 6]
  | 8 => [0, 1, 2, 3, 4, 5, 6, 7]
  | 9 => [0, 1, 2, 3, 4, 5, 6, 7, 8]
  | 11 => [10]
  | 12 => [10, 11]
  | 13 => [10, 11, 12]
  | 14 => [10, 11, 12, 13]
  | 15 => [0, 1, 2, 3, 4, 5, 6, 7, 8, 9, 10, 11, 12, 13, 14]
  | 16 => [0, 1, 2, 3, 4, 5, 6, 7, 8, 9, 10, 11, 12, 13, 14, 15]
  | _ => []
def rNI2Trn : Nat → List Nat
  | 16 => [999]
  | _ => []
def rNI2Cnt : List (Nat × Nat) := [(13, 1)]
def rNI2T999 (cx : Nat) (XC : Array Value) (cc : Nat) (CC : Array Value) (nb : Nat) (xqa : Nat) (xqc : Nat) (i : Nat) (j : Nat) (B1 : Nat) (L9 : Nat → Bool) (α : Rega.Atoms) : Rw := if L9 16 = true then row (B1) 155 #[.iface 203 (.pointer (some ⟨α 13, 0, none⟩)), .int .i32 0] else row (B1) 155 #[.nilIface, .int .i32 0]
def rNI2R (cx : Nat) (XC : Array Value) (cc : Nat) (CC : Array Value) (nb : Nat) (xqa : Nat) (xqc : Nat) (i : Nat) (j : Nat) (B1 : Nat) (L9 : Nat → Bool) (α : Rega.Atoms) (ix9 : Nat) : Rw := if ix9 = 999 then rNI2T999 cx XC cc CC nb xqa xqc i j B1 L9 α else if ix9 = 1999 then row (cx) 191 XC else if ix9 = 2999 then row (cc) 182 CC else if ix9 = 3999 then row (nb) 51 #[.int .i32 0, .int .u32 0, .int .u32 (j : Int)] else if ix9 = 4999 then row (xqa) 27 #[.pointer (some ⟨cx, 0, none⟩)] else if ix9 = 5999 then row (xqc) 202 #[.pointer none, .int .u32 0, .int .u32 (i : Int), .int .u32 4294967295, .int .u32 4294967295, .bool false] else if ix9 = 13 then row (α 13) 206 #[.int .u32 0, .int .u32 (i : Int), .bool false, .bool false, .bool false] else (0, .map #[] 0)
theorem rNI2_he (cx : Nat) (XC : Array Value) (cc : Nat) (CC : Array Value) (nb : Nat) (xqa : Nat) (xqc : Nat) (i : Nat) (j : Nat) (B1 : Nat) : ∀ kk α α', (∀ j, (j % 1000 = kk ∨ j % 1000 ∈ rNI2Anc kk) → α j = α' j) → rNI2E cx XC cc CC nb xqa xqc i j B1 kk α = rNI2E cx XC cc CC nb xqa xqc i j B1 kk α' := by
  intro kk α α' h
  match kk with
  | 0 => rfl
  | 1 => rfl
  | 2 => rfl
  | 3 => rfl
  | 4 => rfl
  | 5 => rfl
  | 6 => rfl
  | 7 => rfl
  | 8 => rfl
  | 9 => rfl
  | 10 => rfl
  | 11 => rfl
  | 12 => rfl
  | 13 => simp only [rNI2E, h 13 (Or.inl rfl)]
  | 14 => simp only [rNI2E, h 13 (Or.inr (by decide))]
  | 15 => simp only [rNI2E, h 13 (Or.inr (by decide))]
  | 16 => rfl
  | n + 17 => rfl
theorem rNI2_st (cx : Nat) (XC : Array Value) (cc : Nat) (CC : Array Value) (nb : Nat) (xqa : Nat) (xqc : Nat) (i : Nat) (j : Nat) (B1 : Nat) : Stable rNI2Cnt 6 rNI2Anc rNI2Trn (rNI2R cx XC cc CC nb xqa xqc i j B1) := by
  intro k9 L9 α α' ix9 hk hcl hα hact ht
  have hp := act_places hact
  replace hp : ix9 ∈ [999, 1999, 2999, 3999, 4999, 5999, 13] := hp
  simp only [List.mem_cons, List.not_mem_nil, or_false] at hp
  rcases hp with rfl | rfl | rfl | rfl | rfl | rfl | rfl
  · show rNI2T999 cx XC cc CC nb xqa xqc i j B1 (Rega.ran L9 k9) α' = rNI2T999 cx XC cc CC nb xqa xqc i j B1 L9 α
    unfold rNI2T999
    have n16 : 16 ≠ k9 := fun e => ht (by rw [← e]; decide)
    rw [ran_ne n16]
    by_cases e16 : L9 16 = true
    · first | rw [if_pos e16, if_pos e16] | rw [if_pos e16]
      try simp only [hα 13 (ne_ran hk (hcl 16 e16 13 (by decide)))]
    first | rw [if_neg e16, if_neg e16] | rw [if_neg e16]
  · rfl
  · rfl
  · rfl
  · rfl
  · rfl
  · have e0 : L9 13 = true := act_lt hact (by decide)
    show row (α' 13) 206 #[.int .u32 0, .int .u32 (i : Int), .bool false, .bool false, .bool false] = row (α 13) 206 #[.int .u32 0, .int .u32 (i : Int), .bool false, .bool false, .bool false]
    simp only [hα 13 (ne_ran hk e0)]
def nameIPost (pb : Nat) (PC : Array Value) (sb c : Nat) (st : List Sy) (n cx : Nat) (XC : Array Value) (cc : Nat) (CC : Array Value) (nb xqa xqb xqc : Nat) (kd : Int) (i j : Nat) (w0 : World) (X : Nat → Obj → Prop) (e : Ending) (w' : World) : Prop :=
  ∃ b : Nat, e = .returned (.agg #[.iface 203 (.pointer (some ⟨b, 0, none⟩)), .int .i32 0]) ∧ Own w0 w' [row (pb) 176 PC, row (sb) 199 (full symZ (symL (bump st i)) c), row (cx) 191 XC, row (cc) 182 CC, row (nb) 51 #[.int .i32 0, .int .u32 0, .int .u32 (j : Int)], row (xqa) 27 #[.pointer (some ⟨cx, 0, none⟩)], row (xqb) 25 #[.pointer (some ⟨pb, 0, none⟩)], row (xqc) 202 #[.pointer none, .int .u32 0, .int .u32 (i : Int), .int .u32 4294967295, .int .u32 4294967295, .bool false], row (b) 206 #[.int .u32 0, .int .u32 (i : Int), .bool false, .bool false, .bool false]] X
set_option maxRecDepth 100000 in
set_option maxHeartbeats 1000000 in
theorem nameI (pb : Nat) (PC : Array Value) (sb c : Nat) (st : List Sy) (n cx : Nat) (XC : Array Value) (cc : Nat) (CC : Array Value) (nb xqa xqb xqc : Nat) (kd : Int) (i j : Nat) (w0 w : World) (X : Nat → Obj → Prop) (hO : Own w0 w [row (pb) 176 PC, row (sb) 199 (full symZ (symL st) c), row (cx) 191 XC, row (cc) 182 CC, row (nb) 51 #[.int .i32 0, .int .u32 0, .int .u32 (j : Int)], row (xqa) 27 #[.pointer (some ⟨cx, 0, none⟩)], row (xqb) 25 #[.pointer (some ⟨pb, 0, none⟩)], row (xqc) 202 #[.pointer none, .int .u32 0, .int .u32 (i : Int), .int .u32 4294967295, .int .u32 4294967295, .bool false]] X) (hk350 : PC[350]? = some (.bool false)) (hk32 : PC[32]? = some (.bool false)) (hk105 : PC[105]? = some (.pointer none)) (hk106 : PC[106]? = some (.slice (some ⟨sb, 0, none⟩) n (n + c))) (hn : st.length = n) (hnb : n ≤ 4000000) (hu : ∃ s, st[i]? = some s ∧ s.uc < 4294967295) (hxk : XC[1]? = some (.int .u8 kd)) (hxc : XC[2]? = some (.pointer (some ⟨cc, 0, none⟩))) (hk0 : (kd == 0) = false) (hcn : CC[1]? = some (.pointer (some ⟨nb, 0, none⟩))) (hg0 : w0.cell? ⟨0, 0, none⟩ = some (.int .u32 4294967295)) (hg1 : w0.cell? ⟨0, 1, none⟩ = some (.int .u32 4294967295)) :
    Calls Tryd.prog 19 #[.pointer (some ⟨xqa, 0, none⟩), .pointer (some ⟨xqb, 0, none⟩), .pointer (some ⟨xqc, 0, none⟩)] w (nameIPost pb PC sb c st n cx XC cc CC nb xqa xqb xqc kd i j w0 X) := by
  go_enter Tryd.func19, Tryd.ntmps19
  obtain ⟨ix9, hix9, hax9, hjx9⟩ := hO.ix
  have ix9_0 : ix9 pb = 0 := hjx9 0 _ _ rfl
  have ix9_1 : ix9 sb = 1 := hjx9 1 _ _ rfl
  have ix9_2 : ix9 cx = 2 := hjx9 2 _ _ rfl
  have ix9_3 : ix9 cc = 3 := hjx9 3 _ _ rfl
  have ix9_4 : ix9 nb = 4 := hjx9 4 _ _ rfl
  have ix9_5 : ix9 xqa = 5 := hjx9 5 _ _ rfl
  have ix9_6 : ix9 xqb = 6 := hjx9 6 _ _ rfl
  have ix9_7 : ix9 xqc = 7 := hjx9 7 _ _ rfl
  clear hjx9
  have c9_0_32 : w.cell? ⟨pb, 32, none⟩ = some (.bool false) := hO.cell 0 rfl (32) (hk32)
  have c9_0_105 : w.cell? ⟨pb, 105, none⟩ = some (.pointer none) := hO.cell 0 rfl (105) (hk105)
  have c9_0_106 : w.cell? ⟨pb, 106, none⟩ = some (.slice (some ⟨sb, 0, none⟩) n (n + c)) := hO.cell 0 rfl (106) (hk106)
  have c9_0_350 : w.cell? ⟨pb, 350, none⟩ = some (.bool false) := hO.cell 0 rfl (350) (hk350)
  have lt9_0 : pb < w.heap.size := hO.lt 0 rfl
  have y9_0 : ∀ o, w.frozen? ⟨pb, o, none⟩ = false := hO.free 0 rfl
  have c9_2_1 : w.cell? ⟨cx, 1, none⟩ = some (.int .u8 kd) := hO.cell 2 rfl (1) (hxk)
  have c9_2_2 : w.cell? ⟨cx, 2, none⟩ = some (.pointer (some ⟨cc, 0, none⟩)) := hO.cell 2 rfl (2) (hxc)
  have lt9_2 : cx < w.heap.size := hO.lt 2 rfl
  have y9_2 : ∀ o, w.frozen? ⟨cx, o, none⟩ = false := hO.free 2 rfl
  have c9_3_1 : w.cell? ⟨cc, 1, none⟩ = some (.pointer (some ⟨nb, 0, none⟩)) := hO.cell 3 rfl (1) (hcn)
  have lt9_3 : cc < w.heap.size := hO.lt 3 rfl
  have y9_3 : ∀ o, w.frozen? ⟨cc, o, none⟩ = false := hO.free 3 rfl
  obtain ⟨c9_4_0, c9_4_1, c9_4_2, lt9_4, y9_4, -⟩ := hO.k3 4 rfl
  obtain ⟨c9_5_0, lt9_5, y9_5, -⟩ := hO.k1 5 rfl
  obtain ⟨c9_6_0, lt9_6, y9_6, -⟩ := hO.k1 6 rfl
  obtain ⟨c9_7_0, c9_7_1, c9_7_2, c9_7_3, c9_7_4, c9_7_5, lt9_7, y9_7, -⟩ := hO.k6 7 rfl
  have HO := Lib.hid hO
  clear hO
  have gw9_0_0 : w.cell? ⟨0, 0, none⟩ = some (.int .u32 4294967295) := Base.cell_below HO.out.below (Base.block_of_cell hg0) hg0
  have gw9_0_1 : w.cell? ⟨0, 1, none⟩ = some (.int .u32 4294967295) := Base.cell_below HO.out.below (Base.block_of_cell hg1) hg1
  have gl9_0 : 0 < w.heap.size := Base.block_of_cell gw9_0_0
  go_wp2_with (first | (with_reducible refine Own.stay (fn := Tryd.f19) ?_) | fail)
  try with_reducible refine Own.Stay.mk ?_
  have hO := HO.out
  clear HO hix9 hax9 ix9_0 ix9_1 ix9_2 ix9_3 ix9_4 ix9_5 ix9_6 ix9_7 ix9 gw9_0_0 gw9_0_1 gl9_0 c9_0_32 c9_0_105 c9_0_106 c9_0_350 lt9_0 y9_0 c9_2_1 c9_2_2 lt9_2 y9_2 c9_3_1 lt9_3 y9_3 c9_4_0 c9_4_1 c9_4_2 lt9_4 y9_4 c9_5_0 lt9_5 y9_5 c9_6_0 lt9_6 y9_6 c9_7_0 c9_7_1 c9_7_2 c9_7_3 c9_7_4 c9_7_5 lt9_7 y9_7
  generalize hW : World.alloc _ _ = W2
  have hN : Own w0 W2 [row (w.heap.size) 155 #[.nilIface, .int .i32 0], row (pb) 176 PC, row (sb) 199 (full symZ (symL st) c), row (cx) 191 XC, row (cc) 182 CC, row (nb) 51 #[.int .i32 0, .int .u32 0, .int .u32 (j : Int)], row (xqa) 27 #[.pointer (some ⟨cx, 0, none⟩)], row (xqb) 25 #[.pointer (some ⟨pb, 0, none⟩)], row (xqc) 202 #[.pointer none, .int .u32 0, .int .u32 (i : Int), .int .u32 4294967295, .int .u32 4294967295, .bool false]] X := by
    rw [← hW]
    exact (hO).alloc' _ (w.heap.size) (by simp)
  clear hW hO
  generalize w.heap.size = B1 at hN ⊢
  have hO := hN
  clear hN
  have hL := hO.apart
  have hX := hO.apartX
  have HL := Lib.hid hL
  have HX := Lib.hid hX
  clear hL hX
  have hP9 := hO.pick [1, 2] (by decide)
  have T9 := useG pb PC sb c st n 0 i _ _ _ hP9 hk350 hk32 hk105 hk106 hn hnb hu
  refine Calls.mono T9 ?_
  clear hP9 T9
  rintro e u3 ⟨rfl, hQ⟩
  have hN : Own w0 u3 [row (pb) 176 PC, row (sb) 199 (full symZ (symL (bump st i)) c), row (B1) 155 #[.nilIface, .int .i32 0], row (cx) 191 XC, row (cc) 182 CC, row (nb) 51 #[.int .i32 0, .int .u32 0, .int .u32 (j : Int)], row (xqa) 27 #[.pointer (some ⟨cx, 0, none⟩)], row (xqb) 25 #[.pointer (some ⟨pb, 0, none⟩)], row (xqc) 202 #[.pointer none, .int .u32 0, .int .u32 (i : Int), .int .u32 4294967295, .int .u32 4294967295, .bool false]] X := hQ.back HL.out HX.out [0, 3, 4, 5, 6, 7, 8] (by decide) (by decide)
  clear hQ HL HX hO
  have hO := hN
  clear hN
  obtain ⟨c9_2_0, c9_2_1, lt9_2, y9_2, -⟩ := hO.k2 2 rfl
  obtain ⟨c9_5_0, c9_5_1, c9_5_2, lt9_5, y9_5, -⟩ := hO.k3 5 rfl
  obtain ⟨c9_6_0, lt9_6, y9_6, -⟩ := hO.k1 6 rfl
  obtain ⟨c9_7_0, lt9_7, y9_7, -⟩ := hO.k1 7 rfl
  obtain ⟨c9_8_0, c9_8_1, c9_8_2, c9_8_3, c9_8_4, c9_8_5, lt9_8, y9_8, -⟩ := hO.k6 8 rfl
  have HO := Lib.hid hO
  clear hO
  have gw9_0_0 : u3.cell? ⟨0, 0, none⟩ = some (.int .u32 4294967295) := Base.cell_below HO.out.below (Base.block_of_cell hg0) hg0
  have gw9_0_1 : u3.cell? ⟨0, 1, none⟩ = some (.int .u32 4294967295) := Base.cell_below HO.out.below (Base.block_of_cell hg1) hg1
  have gl9_0 : 0 < u3.heap.size := Base.block_of_cell gw9_0_0
  go_wp2_with (first | (with_reducible refine Own.stay (fn := Tryd.f19) ?_) | fail)
  try with_reducible refine Own.Stay.mk ?_
  have hO := HO.out
  clear HO gw9_0_0 gw9_0_1 gl9_0 c9_2_0 c9_2_1 lt9_2 y9_2 c9_5_0 c9_5_1 c9_5_2 lt9_5 y9_5 c9_6_0 lt9_6 y9_6 c9_7_0 lt9_7 y9_7 c9_8_0 c9_8_1 c9_8_2 c9_8_3 c9_8_4 c9_8_5 lt9_8 y9_8
  have hL := hO.apart
  have hX := hO.apartX
  have HL := Lib.hid hL
  have HX := Lib.hid hX
  clear hL hX
  have hP9 := hO.pick [2, 3, 4, 5, 6, 8] (by decide)
  generalize hX9_4 : Own.Rest _ _ X = X9_4 at hP9
  replace hP9 : Own w0 u3 [row (B1) 155 #[.nilIface, .int .i32 0], row (cx) 191 XC, row (cc) 182 CC, row (nb) 51 #[.int .i32 0, .int .u32 0, .int .u32 (j : Int)], row (xqa) 27 #[.pointer (some ⟨cx, 0, none⟩)], row (xqc) 202 #[.pointer none, .int .u32 0, .int .u32 (i : Int), .int .u32 4294967295, .int .u32 4294967295, .bool false]] X9_4 := hP9
  clear hO
  have hO := hP9
  clear hP9
  have st9 := rNI2_st cx XC cc CC nb xqa xqc i j B1
  let R9 := rNI2R cx XC cc CC nb xqa xqc i j B1
  refine wp_region_own (e := rNI2E cx XC cc CC nb xqa xqc i j B1) (anc := rNI2Anc) (G := (fun L9 α u9 => OwnF w0 u9 (act rNI2Cnt 6 L9) (rNI2R cx XC cc CC nb xqa xqc i j B1 L9 α) X9_4)) (by kernel_rfl) (by kernel_rfl) (by kernel_rfl) (by kernel_rfl) (rNI2_he cx XC cc CC nb xqa xqc i j B1) ?_ (RunsAll.all ?_) ?_
  · have hp : ∀ i, act rNI2Cnt 6 (fun _ => false) i → i ∈ [999, 1999, 2999, 3999, 4999, 5999] := by
      intro i hi
      have h9 : i % 1000 = 999 := by
        by_cases h : i % 1000 = 999
        · exact h
        · exact absurd (act_lt hi h) (by simp)
      unfold act at hi
      rw [if_pos h9] at hi
      simp only [List.mem_cons, List.not_mem_nil, or_false]
      omega
    refine hO.drew.family (fun i hi => ?_) (fun i j hi hj hij => ?_)
    · have := hp i hi
      simp only [List.mem_cons, List.not_mem_nil, or_false] at this
      rcases this with rfl | rfl | rfl | rfl | rfl | rfl <;> rfl
    · have h1 := hp i hi
      have h2 := hp j hj
      simp only [List.mem_cons, List.not_mem_nil, or_false] at h1 h2
      omega
  · refine ⟨?_, ?_, ?_, ?_, ?_, ?_, ?_, ?_, ?_, ?_, ?_, ?_, ?_, ?_, ?_, ?_, ?_, trivial⟩
    · intro L9 α a9 u9 K9 hL hcl hA hG hS h0 hK
      replace hL : L9 0 = false := hL
      have q0 : a9.tmps[0]? = some (.pointer (some ⟨xqa, 0, none⟩)) := (h0 0 (by kernel_rfl)).trans rfl
      have s0 := Rega.eval_of q0
      have e0 : R9 L9 α 4999 = row (xqa) 27 #[.pointer (some ⟨cx, 0, none⟩)] := rfl
      have hr := hG.rowAt 4999 (act_base 4999 rfl) e0
      have c0 : u9.cell? ⟨xqa, 0, none⟩ = some (.pointer (some ⟨cx, 0, none⟩)) := hr.cell rfl
      clear hr e0
      go_simp
      exact hK _ α _ (fun _ _ => rfl) rfl (step_same (st9) hL hcl rfl rfl hG)
    · intro L9 α a9 u9 K9 hL hcl hA hG hS h0 hK
      replace hL : L9 1 = false := hL
      have q104 : a9.tmps[104]? = some (.pointer (some ⟨cx, 0, none⟩)) := hS 0 104 (by decide) rfl (by show 104 < 192; decide)
      have s104 := Rega.eval_of q104
      go_simp
      exact hK _ α _ (fun _ _ => rfl) rfl (step_same (st9) hL hcl rfl rfl hG)
    · intro L9 α a9 u9 K9 hL hcl hA hG hS h0 hK
      replace hL : L9 2 = false := hL
      have q105 : a9.tmps[105]? = some (.pointer (some ⟨cx, 0, none⟩)) := hS 1 105 (by decide) rfl (by show 105 < 192; decide)
      have s105 := Rega.eval_of q105
      go_simp
      exact hK _ α _ (fun _ _ => rfl) rfl (step_same (st9) hL hcl rfl rfl hG)
    · intro L9 α a9 u9 K9 hL hcl hA hG hS h0 hK
      replace hL : L9 3 = false := hL
      have q106 : a9.tmps[106]? = some (.pointer (some ⟨cx, 2, none⟩)) := hS 2 106 (by decide) rfl (by show 106 < 192; decide)
      have s106 := Rega.eval_of q106
      have e0 : R9 L9 α 1999 = row (cx) 191 XC := rfl
      have hr := hG.rowAt 1999 (act_base 1999 rfl) e0
      have c0 : u9.cell? ⟨cx, 2, none⟩ = some (.pointer (some ⟨cc, 0, none⟩)) := hr.cell (hxc)
      clear hr e0
      go_simp
      exact hK _ α _ (fun _ _ => rfl) rfl (step_same (st9) hL hcl rfl rfl hG)
    · intro L9 α a9 u9 K9 hL hcl hA hG hS h0 hK
      replace hL : L9 4 = false := hL
      have q107 : a9.tmps[107]? = some (.pointer (some ⟨cc, 0, none⟩)) := hS 3 107 (by decide) rfl (by show 107 < 192; decide)
      have s107 := Rega.eval_of q107
      go_simp
      exact hK _ α _ (fun _ _ => rfl) rfl (step_same (st9) hL hcl rfl rfl hG)
    · intro L9 α a9 u9 K9 hL hcl hA hG hS h0 hK
      replace hL : L9 5 = false := hL
      have q108 : a9.tmps[108]? = some (.pointer (some ⟨cc, 0, none⟩)) := hS 4 108 (by decide) rfl (by show 108 < 192; decide)
      have s108 := Rega.eval_of q108
      go_simp
      exact hK _ α _ (fun _ _ => rfl) rfl (step_same (st9) hL hcl rfl rfl hG)
    · intro L9 α a9 u9 K9 hL hcl hA hG hS h0 hK
      replace hL : L9 6 = false := hL
      have q109 : a9.tmps[109]? = some (.pointer (some ⟨cc, 1, none⟩)) := hS 5 109 (by decide) rfl (by show 109 < 192; decide)
      have s109 := Rega.eval_of q109
      have e0 : R9 L9 α 2999 = row (cc) 182 CC := rfl
      have hr := hG.rowAt 2999 (act_base 2999 rfl) e0
      have c0 : u9.cell? ⟨cc, 1, none⟩ = some (.pointer (some ⟨nb, 0, none⟩)) := hr.cell (hcn)
      clear hr e0
      go_simp
      exact hK _ α _ (fun _ _ => rfl) rfl (step_same (st9) hL hcl rfl rfl hG)
    · intro L9 α a9 u9 K9 hL hcl hA hG hS h0 hK
      replace hL : L9 7 = false := hL
      have q110 : a9.tmps[110]? = some (.pointer (some ⟨nb, 0, none⟩)) := hS 6 110 (by decide) rfl (by show 110 < 192; decide)
      have s110 := Rega.eval_of q110
      go_simp
      exact hK _ α _ (fun _ _ => rfl) rfl (step_same (st9) hL hcl rfl rfl hG)
    · intro L9 α a9 u9 K9 hL hcl hA hG hS h0 hK
      replace hL : L9 8 = false := hL
      have q111 : a9.tmps[111]? = some (.pointer (some ⟨nb, 0, none⟩)) := hS 7 111 (by decide) rfl (by show 111 < 192; decide)
      have s111 := Rega.eval_of q111
      go_simp
      exact hK _ α _ (fun _ _ => rfl) rfl (step_same (st9) hL hcl rfl rfl hG)
    · intro L9 α a9 u9 K9 hL hcl hA hG hS h0 hK
      replace hL : L9 9 = false := hL
      have q112 : a9.tmps[112]? = some (.pointer (some ⟨nb, 0, none⟩)) := hS 8 112 (by decide) rfl (by show 112 < 192; decide)
      have s112 := Rega.eval_of q112
      have e0 : R9 L9 α 3999 = row (nb) 51 #[.int .i32 0, .int .u32 0, .int .u32 (j : Int)] := rfl
      have hr := hG.rowAt 3999 (act_base 3999 rfl) e0
      have c0 : u9.cell? ⟨nb, 0, none⟩ = some (.int .i32 0) := hr.cell rfl
      clear hr e0
      go_simp
      exact hK _ α _ (fun _ _ => rfl) rfl (step_same (st9) hL hcl rfl rfl hG)
    · intro L9 α a9 u9 K9 hL hcl hA hG hS h0 hK
      replace hL : L9 10 = false := hL
      have q2 : a9.tmps[2]? = some (.pointer (some ⟨xqc, 0, none⟩)) := (h0 2 (by kernel_rfl)).trans rfl
      have s2 := Rega.eval_of q2
      go_simp
      exact hK _ α _ (fun _ _ => rfl) rfl (step_same (st9) hL hcl rfl rfl hG)
    · intro L9 α a9 u9 K9 hL hcl hA hG hS h0 hK
      replace hL : L9 11 = false := hL
      have q114 : a9.tmps[114]? = some (.pointer (some ⟨xqc, 1, none⟩)) := hS 10 114 (by decide) rfl (by show 114 < 192; decide)
      have s114 := Rega.eval_of q114
      have e0 : R9 L9 α 5999 = row (xqc) 202 #[.pointer none, .int .u32 0, .int .u32 (i : Int), .int .u32 4294967295, .int .u32 4294967295, .bool false] := rfl
      have hr := hG.rowAt 5999 (act_base 5999 rfl) e0
      have c0 : u9.cell? ⟨xqc, 1, none⟩ = some (.int .u32 0) := hr.cell rfl
      have c1 : u9.cell? ⟨xqc, 2, none⟩ = some (.int .u32 (i : Int)) := hr.cell rfl
      clear hr e0
      go_simp
      exact hK _ α _ (fun _ _ => rfl) rfl (step_same (st9) hL hcl rfl rfl hG)
    · intro L9 α a9 u9 K9 hL hcl hA hG hS h0 hK
      replace hL : L9 12 = false := hL
      have q115 : a9.tmps[115]? = some (.agg #[.int .u32 0, .int .u32 (i : Int)]) := hS 11 115 (by decide) rfl (by show 115 < 192; decide)
      have s115 := Rega.eval_of q115
      go_simp
      exact hK _ α _ (fun _ _ => rfl) rfl (step_same (st9) hL hcl rfl rfl hG)
    · intro L9 α a9 u9 K9 hL hcl hA hG hS h0 hK
      replace hL : L9 13 = false := hL
      have q116 : a9.tmps[116]? = some (.agg #[.int .u32 0, .int .u32 (i : Int), .bool false, .bool false, .bool false]) := hS 12 116 (by decide) rfl (by show 116 < 192; decide)
      have s116 := Rega.eval_of q116
      go_simp
      exact hK _ (fun j => if j = 13 then u9.heap.size else α j) _ (fun j hj => if_neg (fun e => hj (by rw [e]))) rfl (step_alloc (st9) hL hcl rfl rfl (by decide) _ rfl hG)
    · intro L9 α a9 u9 K9 hL hcl hA hG hS h0 hK
      replace hL : L9 14 = false := hL
      have q117 : a9.tmps[117]? = some (.pointer (some ⟨α 13, 0, none⟩)) := hS 13 117 (by decide) rfl (by show 117 < 192; decide)
      have s117 := Rega.eval_of q117
      go_simp
      exact hK _ α _ (fun _ _ => rfl) rfl (step_same (st9) hL hcl rfl rfl hG)
    · intro L9 α a9 u9 K9 hL hcl hA hG hS h0 hK
      replace hL : L9 15 = false := hL
      have q113 : a9.tmps[113]? = some (.agg #[.int .i32 0]) := hS 9 113 (by decide) rfl (by show 113 < 192; decide)
      have s113 := Rega.eval_of q113
      have q118 : a9.tmps[118]? = some (.iface 203 (.pointer (some ⟨α 13, 0, none⟩))) := hS 14 118 (by decide) rfl (by show 118 < 192; decide)
      have s118 := Rega.eval_of q118
      go_simp
      exact hK _ α _ (fun _ _ => rfl) rfl (step_same (st9) hL hcl rfl rfl hG)
    · intro L9 α a9 u9 K9 hL hcl hA hG hS h0 hK
      replace hL : L9 16 = false := hL
      have q3 : a9.tmps[3]? = some (.pointer (some ⟨B1, 0, none⟩)) := (h0 3 (by kernel_rfl)).trans rfl
      have s3 := Rega.eval_of q3
      have q119 : a9.tmps[119]? = some (.agg #[.iface 203 (.pointer (some ⟨α 13, 0, none⟩)), .int .i32 0]) := hS 15 119 (by decide) rfl (by show 119 < 192; decide)
      have s119 := Rega.eval_of q119
      have e0 : R9 L9 α 999 = row (B1) 155 #[.nilIface, .int .i32 0] := by
        show rNI2T999 cx XC cc CC nb xqa xqc i j B1 L9 α = _
        unfold rNI2T999
        rw [if_neg (by rw [hL]; decide)]
      have hr := hG.rowAt 999 (act_base 999 rfl) e0
      have c0 : u9.cell? ⟨B1, 0, none⟩ = some (.nilIface) := hr.cell rfl
      have y0 : u9.frozen? ⟨B1, 0, none⟩ = false := hr.free (0)
      have c1 : u9.cell? ⟨B1, 1, none⟩ = some (.int .i32 0) := hr.cell rfl
      have y1 : u9.frozen? ⟨B1, 1, none⟩ = false := hr.free (1)
      clear hr
      have E0 := Lib.hid e0
      clear e0
      go_simp
      have e1 : R9 (Rega.ran L9 16) α 999 = row (B1) 155 #[.iface 203 (.pointer (some ⟨α 13, 0, none⟩)), .int .i32 0] := by
        show rNI2T999 cx XC cc CC nb xqa xqc i j B1 (Rega.ran L9 16) α = _
        unfold rNI2T999
        rw [if_pos (show Rega.ran L9 16 16 = true from rfl)]
      exact hK _ α _ (fun _ _ => rfl) rfl (step_sets (st9) hL hcl rfl 999 rfl (act_base 999 rfl) E0.out (0) [.iface 203 (.pointer (some ⟨α 13, 0, none⟩)), .int .i32 0] (e1.trans rfl) hG)
  clear st9
  intro α u hG
  have e0 : R9 (fun k => decide (k < 17)) α 999 = row (B1) 155 #[.iface 203 (.pointer (some ⟨α 13, 0, none⟩)), .int .i32 0] := by
    show rNI2T999 cx XC cc CC nb xqa xqc i j B1 (fun k => decide (k < 17)) α = _
    unfold rNI2T999
    rw [if_pos (by decide)]
  have e1 : R9 (fun k => decide (k < 17)) α 1999 = row (cx) 191 XC := rfl
  have e2 : R9 (fun k => decide (k < 17)) α 2999 = row (cc) 182 CC := rfl
  have e3 : R9 (fun k => decide (k < 17)) α 3999 = row (nb) 51 #[.int .i32 0, .int .u32 0, .int .u32 (j : Int)] := rfl
  have e4 : R9 (fun k => decide (k < 17)) α 4999 = row (xqa) 27 #[.pointer (some ⟨cx, 0, none⟩)] := rfl
  have e5 : R9 (fun k => decide (k < 17)) α 5999 = row (xqc) 202 #[.pointer none, .int .u32 0, .int .u32 (i : Int), .int .u32 4294967295, .int .u32 4294967295, .bool false] := rfl
  have e6 : R9 (fun k => decide (k < 17)) α 13 = row (α 13) 206 #[.int .u32 0, .int .u32 (i : Int), .bool false, .bool false, .bool false] := rfl
  have hO : Own w0 u [row (B1) 155 #[.iface 203 (.pointer (some ⟨α 13, 0, none⟩)), .int .i32 0], row (cx) 191 XC, row (cc) 182 CC, row (nb) 51 #[.int .i32 0, .int .u32 0, .int .u32 (j : Int)], row (xqa) 27 #[.pointer (some ⟨cx, 0, none⟩)], row (xqc) 202 #[.pointer none, .int .u32 0, .int .u32 (i : Int), .int .u32 4294967295, .int .u32 4294967295, .bool false], row (α 13) 206 #[.int .u32 0, .int .u32 (i : Int), .bool false, .bool false, .bool false]] X9_4 := (hG.list [999, 1999, 2999, 3999, 4999, 5999, 13] (by decide) (act_all (by decide))).conv (by
    show [R9 (fun k => decide (k < 17)) α 999, R9 (fun k => decide (k < 17)) α 1999, R9 (fun k => decide (k < 17)) α 2999, R9 (fun k => decide (k < 17)) α 3999, R9 (fun k => decide (k < 17)) α 4999, R9 (fun k => decide (k < 17)) α 5999, R9 (fun k => decide (k < 17)) α 13] = _
    rw [e0, e1, e2, e3, e4, e5, e6])
  clear hG e0 e1 e2 e3 e4 e5 e6 R9
  generalize hfr : Rega.frameAt _ _ _ _ _ = fr
  have hdf : fr = ⟨#[.pointer (some ⟨xqa, 0, none⟩), .pointer (some ⟨xqb, 0, none⟩), .pointer (some ⟨xqc, 0, none⟩), .pointer (some ⟨B1, 0, none⟩), undef, undef, .pointer (some ⟨cx, 0, none⟩), .pointer (some ⟨cx, 0, none⟩), .pointer (some ⟨cx, 1, none⟩), .int .u8 kd, .bool false, undef, undef, undef, undef, undef, undef, undef, undef, undef, undef, undef, undef, undef, undef, undef, undef, undef, undef, undef, undef, undef, undef, undef, undef, undef, undef, undef, undef, undef, undef, undef, undef, undef, undef, undef, undef, undef, undef, undef, undef, undef, undef, undef, undef, undef, undef, undef, undef, undef, undef, undef, undef, undef, undef, undef, undef, undef, undef, undef, undef, undef, undef, undef, undef, undef, undef, undef, undef, undef, undef, undef, undef, undef, undef, undef, undef, undef, undef, undef, undef, undef, undef, undef, undef, undef, .pointer (some ⟨xqc, 1, none⟩), .agg #[.int .u32 0, .int .u32 (i : Int)], .agg #[.int .u32 4294967295, .int .u32 4294967295], .bool true, .pointer (some ⟨pb, 0, none⟩), .pointer (some ⟨xqc, 1, none⟩), .agg #[.int .u32 0, .int .u32 (i : Int)], .tuple #[], .pointer (some ⟨cx, 0, none⟩), .pointer (some ⟨cx, 0, none⟩), .pointer (some ⟨cx, 2, none⟩), .pointer (some ⟨cc, 0, none⟩), .pointer (some ⟨cc, 0, none⟩), .pointer (some ⟨cc, 1, none⟩), .pointer (some ⟨nb, 0, none⟩), .pointer (some ⟨nb, 0, none⟩), .pointer (some ⟨nb, 0, none⟩), .agg #[.int .i32 0], .pointer (some ⟨xqc, 1, none⟩), .agg #[.int .u32 0, .int .u32 (i : Int)], .agg #[.int .u32 0, .int .u32 (i : Int), .bool false, .bool false, .bool false], .pointer (some ⟨α 13, 0, none⟩), .iface 203 (.pointer (some ⟨α 13, 0, none⟩)), .agg #[.iface 203 (.pointer (some ⟨α 13, 0, none⟩)), .int .i32 0], undef, undef, undef, undef, undef, undef, undef, undef, undef, undef, undef, undef, undef, undef, undef, undef, undef, undef, undef, undef, undef, undef, undef, undef, undef, undef, undef, undef, undef, undef, undef, undef, undef, undef, undef, undef, undef, undef, undef, undef, undef, undef, undef, undef, undef, undef, undef, undef, undef, undef, undef, undef, undef, undef, undef, undef, undef, undef, undef, undef, undef, undef, undef, undef, undef, undef, undef, undef, undef, undef, undef, undef], []⟩ := by rw [← hfr]; kernel_rfl
  clear hfr
  subst hdf
  generalize α 13 = nd5 at hO ⊢
  clear α
  subst hX9_4
  have hN : Own w0 u [row (B1) 155 #[.iface 203 (.pointer (some ⟨nd5, 0, none⟩)), .int .i32 0], row (cx) 191 XC, row (cc) 182 CC, row (nb) 51 #[.int .i32 0, .int .u32 0, .int .u32 (j : Int)], row (xqa) 27 #[.pointer (some ⟨cx, 0, none⟩)], row (xqc) 202 #[.pointer none, .int .u32 0, .int .u32 (i : Int), .int .u32 4294967295, .int .u32 4294967295, .bool false], row (nd5) 206 #[.int .u32 0, .int .u32 (i : Int), .bool false, .bool false, .bool false], row (pb) 176 PC, row (sb) 199 (full symZ (symL (bump st i)) c), row (xqb) 25 #[.pointer (some ⟨pb, 0, none⟩)]] X := hO.back HL.out HX.out [0, 1, 7] (by decide) (by decide)
  clear hO HL HX
  have hO := hN
  clear hN
  obtain ⟨c9_0_0, c9_0_1, lt9_0, y9_0, -⟩ := hO.k2 0 rfl
  obtain ⟨c9_3_0, c9_3_1, c9_3_2, lt9_3, y9_3, -⟩ := hO.k3 3 rfl
  obtain ⟨c9_4_0, lt9_4, y9_4, -⟩ := hO.k1 4 rfl
  obtain ⟨c9_5_0, c9_5_1, c9_5_2, c9_5_3, c9_5_4, c9_5_5, lt9_5, y9_5, -⟩ := hO.k6 5 rfl
  obtain ⟨c9_6_0, c9_6_1, c9_6_2, c9_6_3, c9_6_4, lt9_6, y9_6, -⟩ := hO.k5 6 rfl
  obtain ⟨c9_9_0, lt9_9, y9_9, -⟩ := hO.k1 9 rfl
  have HO := Lib.hid hO
  clear hO
  have gw9_0_0 : u.cell? ⟨0, 0, none⟩ = some (.int .u32 4294967295) := Base.cell_below HO.out.below (Base.block_of_cell hg0) hg0
  have gw9_0_1 : u.cell? ⟨0, 1, none⟩ = some (.int .u32 4294967295) := Base.cell_below HO.out.below (Base.block_of_cell hg1) hg1
  have gl9_0 : 0 < u.heap.size := Base.block_of_cell gw9_0_0
  go_wp2_with (first | (with_reducible refine Own.stay (fn := Tryd.f19) ?_) | fail)
  try with_reducible refine Own.Stay.mk ?_
  have hO := HO.out
  clear HO gw9_0_0 gw9_0_1 gl9_0 c9_0_0 c9_0_1 lt9_0 y9_0 c9_3_0 c9_3_1 c9_3_2 lt9_3 y9_3 c9_4_0 lt9_4 y9_4 c9_5_0 c9_5_1 c9_5_2 c9_5_3 c9_5_4 c9_5_5 lt9_5 y9_5 c9_6_0 c9_6_1 c9_6_2 c9_6_3 c9_6_4 lt9_6 y9_6 c9_9_0 lt9_9 y9_9
  have z9_0_0 : u.cell? ⟨B1, 0, none⟩ = some (.iface 203 (.pointer (some ⟨nd5, 0, none⟩))) := hO.cell 0 rfl 0 rfl
  have z9_0_1 : u.cell? ⟨B1, 1, none⟩ = some (.int .i32 0) := hO.cell 0 rfl 1 rfl
  refine bodyPost_ret (v := .agg #[.iface 203 (.pointer (some ⟨nd5, 0, none⟩)), .int .i32 0]) ?_ rfl ⟨nd5, rfl, hO.sub [7, 8, 1, 2, 3, 4, 9, 5, 6] (by decide)⟩
  simp [results, Tryd.results19, go_sem, z9_0_0, z9_0_1]
def nfrIPost (pb : Nat) (PC : Array Value) (sb c : Nat) (st : List Sy) (n cx : Nat) (XC : Array Value) (cc : Nat) (CC : Array Value) (nb xqa xqb xqc : Nat) (kd : Int) (i j : Nat) (w0 : World) (X : Nat → Obj → Prop) (e : Ending) (w' : World) : Prop :=
  e = .returned (.tuple #[.int .u32 (i : Int), .bool true]) ∧ Own w0 w' [row (pb) 176 PC, row (sb) 199 (full symZ (symL (bump st i)) c), row (cx) 191 XC, row (cc) 182 CC, row (nb) 51 #[.int .i32 0, .int .u32 0, .int .u32 (j : Int)], row (xqa) 27 #[.pointer (some ⟨cx, 0, none⟩)], row (xqb) 25 #[.pointer (some ⟨pb, 0, none⟩)], row (xqc) 202 #[.pointer none, .int .u32 0, .int .u32 (i : Int), .int .u32 4294967295, .int .u32 4294967295, .bool false]] X
set_option maxRecDepth 100000 in
set_option maxHeartbeats 1000000 in
theorem nfrI (pb : Nat) (PC : Array Value) (sb c : Nat) (st : List Sy) (n cx : Nat) (XC : Array Value) (cc : Nat) (CC : Array Value) (nb xqa xqb xqc : Nat) (kd : Int) (i j : Nat) (w0 w : World) (X : Nat → Obj → Prop) (hO : Own w0 w [row (pb) 176 PC, row (sb) 199 (full symZ (symL st) c), row (cx) 191 XC, row (cc) 182 CC, row (nb) 51 #[.int .i32 0, .int .u32 0, .int .u32 (j : Int)], row (xqa) 27 #[.pointer (some ⟨cx, 0, none⟩)], row (xqb) 25 #[.pointer (some ⟨pb, 0, none⟩)], row (xqc) 202 #[.pointer none, .int .u32 0, .int .u32 (i : Int), .int .u32 4294967295, .int .u32 4294967295, .bool false]] X) (hk350 : PC[350]? = some (.bool false)) (hk32 : PC[32]? = some (.bool false)) (hk105 : PC[105]? = some (.pointer none)) (hk106 : PC[106]? = some (.slice (some ⟨sb, 0, none⟩) n (n + c))) (hn : st.length = n) (hnb : n ≤ 4000000) (hu : ∃ s, st[i]? = some s ∧ s.uc < 4294967295) (hxk : XC[1]? = some (.int .u8 kd)) (hxc : XC[2]? = some (.pointer (some ⟨cc, 0, none⟩))) (hk0 : (kd == 0) = false) (hcn : CC[1]? = some (.pointer (some ⟨nb, 0, none⟩))) (hg0 : w0.cell? ⟨0, 0, none⟩ = some (.int .u32 4294967295)) (hg1 : w0.cell? ⟨0, 1, none⟩ = some (.int .u32 4294967295)) (hnf : XC[39]? = some (.func (Fn.func 19) #[] #[.pointer (some ⟨xqa, 0, none⟩), .pointer (some ⟨xqb, 0, none⟩), .pointer (some ⟨xqc, 0, none⟩)])) :
    Calls Tryd.prog 13 #[.pointer (some ⟨cx, 0, none⟩)] w (nfrIPost pb PC sb c st n cx XC cc CC nb xqa xqb xqc kd i j w0 X) := by
  go_enter Tryd.func13, Tryd.ntmps13
  obtain ⟨ix9, hix9, hax9, hjx9⟩ := hO.ix
  have ix9_0 : ix9 pb = 0 := hjx9 0 _ _ rfl
  have ix9_1 : ix9 sb = 1 := hjx9 1 _ _ rfl
  have ix9_2 : ix9 cx = 2 := hjx9 2 _ _ rfl
  have ix9_3 : ix9 cc = 3 := hjx9 3 _ _ rfl
  have ix9_4 : ix9 nb = 4 := hjx9 4 _ _ rfl
  have ix9_5 : ix9 xqa = 5 := hjx9 5 _ _ rfl
  have ix9_6 : ix9 xqb = 6 := hjx9 6 _ _ rfl
  have ix9_7 : ix9 xqc = 7 := hjx9 7 _ _ rfl
  clear hjx9
  have c9_0_32 : w.cell? ⟨pb, 32, none⟩ = some (.bool false) := hO.cell 0 rfl (32) (hk32)
  have c9_0_105 : w.cell? ⟨pb, 105, none⟩ = some (.pointer none) := hO.cell 0 rfl (105) (hk105)
  have c9_0_106 : w.cell? ⟨pb, 106, none⟩ = some (.slice (some ⟨sb, 0, none⟩) n (n + c)) := hO.cell 0 rfl (106) (hk106)
  have c9_0_350 : w.cell? ⟨pb, 350, none⟩ = some (.bool false) := hO.cell 0 rfl (350) (hk350)
  have lt9_0 : pb < w.heap.size := hO.lt 0 rfl
  have y9_0 : ∀ o, w.frozen? ⟨pb, o, none⟩ = false := hO.free 0 rfl
  have c9_2_1 : w.cell? ⟨cx, 1, none⟩ = some (.int .u8 kd) := hO.cell 2 rfl (1) (hxk)
  have c9_2_2 : w.cell? ⟨cx, 2, none⟩ = some (.pointer (some ⟨cc, 0, none⟩)) := hO.cell 2 rfl (2) (hxc)
  have c9_2_39 : w.cell? ⟨cx, 39, none⟩ = some (.func (Fn.func 19) #[] #[.pointer (some ⟨xqa, 0, none⟩), .pointer (some ⟨xqb, 0, none⟩), .pointer (some ⟨xqc, 0, none⟩)]) := hO.cell 2 rfl (39) (hnf)
  have lt9_2 : cx < w.heap.size := hO.lt 2 rfl
  have y9_2 : ∀ o, w.frozen? ⟨cx, o, none⟩ = false := hO.free 2 rfl
  have c9_3_1 : w.cell? ⟨cc, 1, none⟩ = some (.pointer (some ⟨nb, 0, none⟩)) := hO.cell 3 rfl (1) (hcn)
  have lt9_3 : cc < w.heap.size := hO.lt 3 rfl
  have y9_3 : ∀ o, w.frozen? ⟨cc, o, none⟩ = false := hO.free 3 rfl
  obtain ⟨c9_4_0, c9_4_1, c9_4_2, lt9_4, y9_4, -⟩ := hO.k3 4 rfl
  obtain ⟨c9_5_0, lt9_5, y9_5, -⟩ := hO.k1 5 rfl
  obtain ⟨c9_6_0, lt9_6, y9_6, -⟩ := hO.k1 6 rfl
  obtain ⟨c9_7_0, c9_7_1, c9_7_2, c9_7_3, c9_7_4, c9_7_5, lt9_7, y9_7, -⟩ := hO.k6 7 rfl
  have HO := Lib.hid hO
  clear hO
  go_wp2_with (first | (with_reducible refine Own.stay (fn := Tryd.f13) ?_) | fail)
  try with_reducible refine Own.Stay.mk ?_
  have hO := HO.out
  clear HO hix9 hax9 ix9_0 ix9_1 ix9_2 ix9_3 ix9_4 ix9_5 ix9_6 ix9_7 ix9 c9_0_32 c9_0_105 c9_0_106 c9_0_350 lt9_0 y9_0 c9_2_1 c9_2_2 c9_2_39 lt9_2 y9_2 c9_3_1 lt9_3 y9_3 c9_4_0 c9_4_1 c9_4_2 lt9_4 y9_4 c9_5_0 lt9_5 y9_5 c9_6_0 lt9_6 y9_6 c9_7_0 c9_7_1 c9_7_2 c9_7_3 c9_7_4 c9_7_5 lt9_7 y9_7
  have hL := hO.apart
  have hX := hO.apartX
  have HL := Lib.hid hL
  have HX := Lib.hid hX
  clear hL hX
  have hP9 := hO.pick [0, 1, 2, 3, 4, 5, 6, 7] (by decide)
  have T9 := nameI pb PC sb c st n cx XC cc CC nb xqa xqb xqc kd i j _ _ _ hP9 hk350 hk32 hk105 hk106 hn hnb hu hxk hxc hk0 hcn hg0 hg1
  refine Calls.mono T9 ?_
  clear hP9 T9
  rintro e u1 ⟨nd2, rfl, hQ⟩
  have hN : Own w0 u1 [row (pb) 176 PC, row (sb) 199 (full symZ (symL (bump st i)) c), row (cx) 191 XC, row (cc) 182 CC, row (nb) 51 #[.int .i32 0, .int .u32 0, .int .u32 (j : Int)], row (xqa) 27 #[.pointer (some ⟨cx, 0, none⟩)], row (xqb) 25 #[.pointer (some ⟨pb, 0, none⟩)], row (xqc) 202 #[.pointer none, .int .u32 0, .int .u32 (i : Int), .int .u32 4294967295, .int .u32 4294967295, .bool false], row (nd2) 206 #[.int .u32 0, .int .u32 (i : Int), .bool false, .bool false, .bool false]] X := hQ.back HL.out HX.out [] (by decide) (by decide)
  clear hQ HL HX hO
  have hO := hN
  clear hN
  obtain ⟨c9_4_0, c9_4_1, c9_4_2, lt9_4, y9_4, -⟩ := hO.k3 4 rfl
  obtain ⟨c9_5_0, lt9_5, y9_5, -⟩ := hO.k1 5 rfl
  obtain ⟨c9_6_0, lt9_6, y9_6, -⟩ := hO.k1 6 rfl
  obtain ⟨c9_7_0, c9_7_1, c9_7_2, c9_7_3, c9_7_4, c9_7_5, lt9_7, y9_7, -⟩ := hO.k6 7 rfl
  obtain ⟨c9_8_0, c9_8_1, c9_8_2, c9_8_3, c9_8_4, lt9_8, y9_8, -⟩ := hO.k5 8 rfl
  have HO := Lib.hid hO
  clear hO
  go_wp2_with (first | (with_reducible refine Own.stay (fn := Tryd.f13) ?_) | fail)
  try with_reducible refine Own.Stay.mk ?_
  have hO := HO.out
  clear HO c9_4_0 c9_4_1 c9_4_2 lt9_4 y9_4 c9_5_0 lt9_5 y9_5 c9_6_0 lt9_6 y9_6 c9_7_0 c9_7_1 c9_7_2 c9_7_3 c9_7_4 c9_7_5 lt9_7 y9_7 c9_8_0 c9_8_1 c9_8_2 c9_8_3 c9_8_4 lt9_8 y9_8
  refine bodyPost_ret (v := .tuple #[.int .u32 (i : Int), .bool true]) ?_ rfl ⟨rfl, hO.sub [0, 1, 2, 3, 4, 5, 6, 7] (by decide)⟩
  simp [results, Tryd.results13, go_sem]
def rNO1E (pb : Nat) (PC : Array Value) (sb : Nat) (c : Nat) (st : List Sy) (cx : Nat) (XC : Array Value) (cc : Nat) (CC : Array Value) (nb : Nat) (xqa : Nat) (xqb : Nat) (i : Nat) : Nat → Rega.Atoms → Value
  | 0, α => .pointer (some ⟨pb, 0, none⟩)
  | 1, α => .pointer (some ⟨cx, 0, none⟩)
  | 2, α => .pointer (some ⟨cx, 0, none⟩)
  | 3, α => .pointer (some ⟨cx, 2, none⟩)
  | 4, α => .pointer (some ⟨cc, 0, none⟩)
  | 5, α => .pointer (some ⟨cc, 0, none⟩)
  | 6, α => .pointer (some ⟨cc, 1, none⟩)
  | 7, α => .pointer (some ⟨nb, 0, none⟩)
  | 8, α => .pointer (some ⟨nb, 0, none⟩)
  | 9, α => .pointer (some ⟨nb, 1, none⟩)
  | 10, α => .agg #[.int .u32 0, .int .u32 (i : Int)]
  | 11, α => .tuple #[]
  | _, _ => undef
def rNO1Anc : Nat → List Nat
  | 2 => [1]
  | 3 => [1, 2]
  | 4 => [1, 2, 3]
  | 5 => [1, 2, 3, 4]
  | 6 => [1, 2, 3, 4, 5]
  | 7 => [1, 2, 3, 4, 5, 6]
  | 8 => [1, 2, 3, 4, 5, 6, 7]
  | 9 => [1, 2, 3, 4, 5, 6, 7, 8]
  | 10 => [1, 2, 3, 4, 5, 6, 7, 8, 9]
  | 11 => [0, 1, 2, 3, 4, 5, 6, 7, 8, 9, 10]
  | _ => []
def rNO1Trn : Nat → List Nat
  | 11 => [1999]
  | _ => []
def rNO1Cnt : List (Nat × Nat) := []
def rNO1T1999 (pb : Nat) (PC : Array Value) (sb : Nat) (c : Nat) (st : List Sy) (cx : Nat) (XC : Array Value) (cc : Nat) (CC : Array Value) (nb : Nat) (xqa : Nat) (xqb : Nat) (i : Nat) (L9 : Nat → Bool) (α : Rega.Atoms) : Rw := if L9 11 = true then row (sb) 199 (full symZ (symL (bump st i)) c) else row (sb) 199 (full symZ (symL st) c)
def rNO1R (pb : Nat) (PC : Array Value) (sb : Nat) (c : Nat) (st : List Sy) (cx : Nat) (XC : Array Value) (cc : Nat) (CC : Array Value) (nb : Nat) (xqa : Nat) (xqb : Nat) (i : Nat) (L9 : Nat → Bool) (α : Rega.Atoms) (ix9 : Nat) : Rw := if ix9 = 999 then row (pb) 176 PC else if ix9 = 1999 then rNO1T1999 pb PC sb c st cx XC cc CC nb xqa xqb i L9 α else if ix9 = 2999 then row (cx) 191 XC else if ix9 = 3999 then row (cc) 182 CC else if ix9 = 4999 then row (nb) 51 #[.int .i32 0, .int .u32 0, .int .u32 (i : Int)] else if ix9 = 5999 then row (xqa) 27 #[.pointer (some ⟨cx, 0, none⟩)] else if ix9 = 6999 then row (xqb) 25 #[.pointer (some ⟨pb, 0, none⟩)] else (0, .map #[] 0)
theorem rNO1_he (pb : Nat) (PC : Array Value) (sb : Nat) (c : Nat) (st : List Sy) (cx : Nat) (XC : Array Value) (cc : Nat) (CC : Array Value) (nb : Nat) (xqa : Nat) (xqb : Nat) (i : Nat) : ∀ kk α α', (∀ j, (j % 1000 = kk ∨ j % 1000 ∈ rNO1Anc kk) → α j = α' j) → rNO1E pb PC sb c st cx XC cc CC nb xqa xqb i kk α = rNO1E pb PC sb c st cx XC cc CC nb xqa xqb i kk α' := by
  intro kk α α' h
  match kk with
  | 0 => rfl
  | 1 => rfl
  | 2 => rfl
  | 3 => rfl
  | 4 => rfl
  | 5 => rfl
  | 6 => rfl
  | 7 => rfl
  | 8 => rfl
  | 9 => rfl
  | 10 => rfl
  | 11 => rfl
  | n + 12 => rfl
theorem rNO1_st (pb : Nat) (PC : Array Value) (sb : Nat) (c : Nat) (st : List Sy) (cx : Nat) (XC : Array Value) (cc : Nat) (CC : Array Value) (nb : Nat) (xqa : Nat) (xqb : Nat) (i : Nat) : Stable rNO1Cnt 7 rNO1Anc rNO1Trn (rNO1R pb PC sb c st cx XC cc CC nb xqa xqb i) := by
  intro k9 L9 α α' ix9 hk hcl hα hact ht
  have hp := act_places hact
  replace hp : ix9 ∈ [999, 1999, 2999, 3999, 4999, 5999, 6999] := hp
  simp only [List.mem_cons, List.not_mem_nil, or_false] at hp
  rcases hp with rfl | rfl | rfl | rfl | rfl | rfl | rfl
  · rfl
  · show rNO1T1999 pb PC sb c st cx XC cc CC nb xqa xqb i (Rega.ran L9 k9) α' = rNO1T1999 pb PC sb c st cx XC cc CC nb xqa xqb i L9 α
    unfold rNO1T1999
    have n11 : 11 ≠ k9 := fun e => ht (by rw [← e]; decide)
    rw [ran_ne n11]
  · rfl
  · rfl
  · rfl
  · rfl
  · rfl
def rNO2E (cx : Nat) (XC : Array Value) (cc : Nat) (CC : Array Value) (nb : Nat) (xqa : Nat) (i : Nat) (B1 : Nat) : Nat → Rega.Atoms → Value
  | 0, α => .pointer (some ⟨cx, 0, none⟩)
  | 1, α => .pointer (some ⟨cx, 0, none⟩)
  | 2, α => .pointer (some ⟨cx, 2, none⟩)
  | 3, α => .pointer (some ⟨cc, 0, none⟩)
  | 4, α => .pointer (some ⟨cc, 0, none⟩)
  | 5, α => .pointer (some ⟨cc, 1, none⟩)
  | 6, α => .pointer (some ⟨nb, 0, none⟩)
  | 7, α => .pointer (some ⟨nb, 0, none⟩)
  | 8, α => .pointer (some ⟨nb, 0, none⟩)
  | 9, α => .agg #[.int .i32 0]
  | 10, α => .pointer (some ⟨cx, 0, none⟩)
  | 11, α => .pointer (some ⟨cx, 0, none⟩)
  | 12, α => .pointer (some ⟨cx, 2, none⟩)
  | 13, α => .pointer (some ⟨cc, 0, none⟩)
  | 14, α => .pointer (some ⟨cc, 0, none⟩)
  | 15, α => .pointer (some ⟨cc, 1, none⟩)
  | 16, α => .pointer (some ⟨nb, 0, none⟩)
  | 17, α => .pointer (some ⟨nb, 0, none⟩)
  | 18, α => .pointer (some ⟨nb, 1, none⟩)
  | 19, α => .agg #[.int .u32 0, .int .u32 (i : Int)]
  | 20, α => .agg #[.int .u32 0, .int .u32 (i : Int), .bool false, .bool false, .bool false]
  | 21, α => .pointer (some ⟨α 21, 0, none⟩)
  | 22, α => .iface 203 (.pointer (some ⟨α 21, 0, none⟩))
  | 23, α => .agg #[.iface 203 (.pointer (some ⟨α 21, 0, none⟩)), .int .i32 0]
  | 24, α => undef
  | _, _ => undef
def rNO2Anc : Nat → List Nat
  | 1 => [0]
  | 2 => [0, 1]
  | 3 => [0, 1, 2]
  | 4 => [0, 1, 2, 3]
  | 5 => [0, 1, 2, 3, 4]
  | 6 => [0, 1, 2, 3, 4, 5]
  | 7 => [0, 1, 2, 3, 4, 5, 6]
  | 8 => [0, 1, 2, 3, 4, 5, 6, 7]
  | 9 => [0, 1, 2, 3, 4, 5, 6, 7, 8]
  | 11 => [10]
  | 12 => [10, 11]
  | 13 => [10, 11, 12]
  | 14 => [10, 11, 12, 13]
  | 15 => [10, 11, 12, 13, 14]
  | 16 => [10, 11, 12, 13, 14, 15]
  | 17 => [10, 11, 12, 13, 14, 15, 16]
  | 18 => [10, 11, 12, 13, 14, 15, 16, 17]
  | 19 => [10, 11, 12, 13, 14, 15, 16, 17, 18]
  | 20 => [10, 11, 12, 13, 14, 15, 16, 17, 18, 19]
  | 21 => [10, 11, 12, 13, 14, 15, 16, 17, 18, 19, 20]
  | 22 => [10, 11, 12, 13, 14, 15, 16, 17, 18, 19, 20, 21]
  | 23 => [0, 1, 2, 3, 4, 5, 6, 7, 8, 9, 10, 11, 12, 13, 14, 15, 16, 17, 18, 19, 20, 21, 22]
  | 24 => [0, 1, 2, 3, 4, 5, 6, 7, 8, 9, 10, 11, 12, 13, 14, 15, 16, 17, 18, 19, 20, 21, 22, 23]
  | _ => []
def rNO2Trn : Nat → List Nat
  | 24 => [4999]
  | _ => []
def rNO2Cnt : List (Nat × Nat) := [(21, 1)]
def rNO2T4999 (cx : Nat) (XC : Array Value) (cc : Nat) (CC : Array Value) (nb : Nat) (xqa : Nat) (i : Nat) (B1 : Nat) (L9 : Nat → Bool) (α : Rega.Atoms) : Rw := if L9 24 = true then row (B1) 155 #[.iface 203 (.pointer (some ⟨α 21, 0, none⟩)), .int .i32 0] else row (B1) 155 #[.nilIface, .int .i32 0]
def rNO2R (cx : Nat) (XC : Array Value) (cc : Nat) (CC : Array Value) (nb : Nat) (xqa : Nat) (i : Nat) (B1 : Nat) (L9 : Nat → Bool) (α : Rega.Atoms) (ix9 : Nat) : Rw := if ix9 = 999 then row (cx) 191 XC else if ix9 = 1999 then row (cc) 182 CC else if ix9 = 2999 then row (nb) 51 #[.int .i32 0, .int .u32 0, .int .u32 (i : Int)] else if ix9 = 3999 then row (xqa) 27 #[.pointer (some ⟨cx, 0, none⟩)] else if ix9 = 4999 then rNO2T4999 cx XC cc CC nb xqa i B1 L9 α else if ix9 = 21 then row (α 21) 206 #[.int .u32 0, .int .u32 (i : Int), .bool false, .bool false, .bool false] else (0, .map #[] 0)
theorem rNO2_he (cx : Nat) (XC : Array Value) (cc : Nat) (CC : Array Value) (nb : Nat) (xqa : Nat) (i : Nat) (B1 : Nat) : ∀ kk α α', (∀ j, (j % 1000 = kk ∨ j % 1000 ∈ rNO2Anc kk) → α j = α' j) → rNO2E cx XC cc CC nb xqa i B1 kk α = rNO2E cx XC cc CC nb xqa i B1 kk α' := by
  intro kk α α' h
  match kk with
  | 0 => rfl
  | 1 => rfl
  | 2 => rfl
  | 3 => rfl
  | 4 => rfl
  | 5 => rfl
  | 6 => rfl
  | 7 => rfl
  | 8 => rfl
  | 9 => rfl
  | 10 => rfl
  | 11 => rfl
  | 12 => rfl
  | 13 => rfl
  | 14 => rfl
  | 15 => rfl
  | 16 => rfl
  | 17 => rfl
  | 18 => rfl
  | 19 => rfl
  | 20 => rfl
  | 21 => simp only [rNO2E, h 21 (Or.inl rfl)]
  | 22 => simp only [rNO2E, h 21 (Or.inr (by decide))]
  | 23 => simp only [rNO2E, h 21 (Or.inr (by decide))]
  | 24 => rfl
  | n + 25 => rfl
theorem rNO2_st (cx : Nat) (XC : Array Value) (cc : Nat) (CC : Array Value) (nb : Nat) (xqa : Nat) (i : Nat) (B1 : Nat) : Stable rNO2Cnt 5 rNO2Anc rNO2Trn (rNO2R cx XC cc CC nb xqa i B1) := by
  intro k9 L9 α α' ix9 hk hcl hα hact ht
  have hp := act_places hact
  replace hp : ix9 ∈ [999, 1999, 2999, 3999, 4999, 21] := hp
  simp only [List.mem_cons, List.not_mem_nil, or_false] at hp
  rcases hp with rfl | rfl | rfl | rfl | rfl | rfl
  · rfl
  · rfl
  · rfl
  · rfl
  · show rNO2T4999 cx XC cc CC nb xqa i B1 (Rega.ran L9 k9) α' = rNO2T4999 cx XC cc CC nb xqa i B1 L9 α
    unfold rNO2T4999
    have n24 : 24 ≠ k9 := fun e => ht (by rw [← e]; decide)
    rw [ran_ne n24]
    by_cases e24 : L9 24 = true
    · first | rw [if_pos e24, if_pos e24] | rw [if_pos e24]
      try simp only [hα 21 (ne_ran hk (hcl 24 e24 21 (by decide)))]
    first | rw [if_neg e24, if_neg e24] | rw [if_neg e24]
  · have e0 : L9 21 = true := act_lt hact (by decide)
    show row (α' 21) 206 #[.int .u32 0, .int .u32 (i : Int), .bool false, .bool false, .bool false] = row (α 21) 206 #[.int .u32 0, .int .u32 (i : Int), .bool false, .bool false, .bool false]
    simp only [hα 21 (ne_ran hk e0)]
def nameOPost (pb : Nat) (PC : Array Value) (sb c : Nat) (st : List Sy) (n cx : Nat) (XC : Array Value) (cc : Nat) (CC : Array Value) (nb xqa xqb xqc : Nat) (kd : Int) (i : Nat) (w0 : World) (X : Nat → Obj → Prop) (e : Ending) (w' : World) : Prop :=
  ∃ b : Nat, e = .returned (.agg #[.iface 203 (.pointer (some ⟨b, 0, none⟩)), .int .i32 0]) ∧ Own w0 w' [row (pb) 176 PC, row (sb) 199 (full symZ (symL (bump st i)) c), row (cx) 191 XC, row (cc) 182 CC, row (nb) 51 #[.int .i32 0, .int .u32 0, .int .u32 (i : Int)], row (xqa) 27 #[.pointer (some ⟨cx, 0, none⟩)], row (xqb) 25 #[.pointer (some ⟨pb, 0, none⟩)], row (xqc) 202 #[.pointer none, .int .u32 4294967295, .int .u32 4294967295, .int .u32 4294967295, .int .u32 4294967295, .bool false], row (b) 206 #[.int .u32 0, .int .u32 (i : Int), .bool false, .bool false, .bool false]] X
set_option maxRecDepth 100000 in
set_option maxHeartbeats 1000000 in
theorem nameO (pb : Nat) (PC : Array Value) (sb c : Nat) (st : List Sy) (n cx : Nat) (XC : Array Value) (cc : Nat) (CC : Array Value) (nb xqa xqb xqc : Nat) (kd : Int) (i : Nat) (w0 w : World) (X : Nat → Obj → Prop) (hO : Own w0 w [row (pb) 176 PC, row (sb) 199 (full symZ (symL st) c), row (cx) 191 XC, row (cc) 182 CC, row (nb) 51 #[.int .i32 0, .int .u32 0, .int .u32 (i : Int)], row (xqa) 27 #[.pointer (some ⟨cx, 0, none⟩)], row (xqb) 25 #[.pointer (some ⟨pb, 0, none⟩)], row (xqc) 202 #[.pointer none, .int .u32 4294967295, .int .u32 4294967295, .int .u32 4294967295, .int .u32 4294967295, .bool false]] X) (hk350 : PC[350]? = some (.bool false)) (hk32 : PC[32]? = some (.bool false)) (hk105 : PC[105]? = some (.pointer none)) (hk106 : PC[106]? = some (.slice (some ⟨sb, 0, none⟩) n (n + c))) (hn : st.length = n) (hnb : n ≤ 4000000) (hu : ∃ s, st[i]? = some s ∧ s.uc < 4294967295) (hxk : XC[1]? = some (.int .u8 kd)) (hxc : XC[2]? = some (.pointer (some ⟨cc, 0, none⟩))) (hk0 : (kd == 0) = false) (hcn : CC[1]? = some (.pointer (some ⟨nb, 0, none⟩))) (hg0 : w0.cell? ⟨0, 0, none⟩ = some (.int .u32 4294967295)) (hg1 : w0.cell? ⟨0, 1, none⟩ = some (.int .u32 4294967295)) :
    Calls Tryd.prog 19 #[.pointer (some ⟨xqa, 0, none⟩), .pointer (some ⟨xqb, 0, none⟩), .pointer (some ⟨xqc, 0, none⟩)] w (nameOPost pb PC sb c st n cx XC cc CC nb xqa xqb xqc kd i w0 X) := by
  go_enter Tryd.func19, Tryd.ntmps19
  obtain ⟨ix9, hix9, hax9, hjx9⟩ := hO.ix
  have ix9_0 : ix9 pb = 0 := hjx9 0 _ _ rfl
  have ix9_1 : ix9 sb = 1 := hjx9 1 _ _ rfl
  have ix9_2 : ix9 cx = 2 := hjx9 2 _ _ rfl
  have ix9_3 : ix9 cc = 3 := hjx9 3 _ _ rfl
  have ix9_4 : ix9 nb = 4 := hjx9 4 _ _ rfl
  have ix9_5 : ix9 xqa = 5 := hjx9 5 _ _ rfl
  have ix9_6 : ix9 xqb = 6 := hjx9 6 _ _ rfl
  have ix9_7 : ix9 xqc = 7 := hjx9 7 _ _ rfl
  clear hjx9
  have c9_0_32 : w.cell? ⟨pb, 32, none⟩ = some (.bool false) := hO.cell 0 rfl (32) (hk32)
  have c9_0_105 : w.cell? ⟨pb, 105, none⟩ = some (.pointer none) := hO.cell 0 rfl (105) (hk105)
  have c9_0_106 : w.cell? ⟨pb, 106, none⟩ = some (.slice (some ⟨sb, 0, none⟩) n (n + c)) := hO.cell 0 rfl (106) (hk106)
  have c9_0_350 : w.cell? ⟨pb, 350, none⟩ = some (.bool false) := hO.cell 0 rfl (350) (hk350)
  have lt9_0 : pb < w.heap.size := hO.lt 0 rfl
  have y9_0 : ∀ o, w.frozen? ⟨pb, o, none⟩ = false := hO.free 0 rfl
  have c9_2_1 : w.cell? ⟨cx, 1, none⟩ = some (.int .u8 kd) := hO.cell 2 rfl (1) (hxk)
  have c9_2_2 : w.cell? ⟨cx, 2, none⟩ = some (.pointer (some ⟨cc, 0, none⟩)) := hO.cell 2 rfl (2) (hxc)
  have lt9_2 : cx < w.heap.size := hO.lt 2 rfl
  have y9_2 : ∀ o, w.frozen? ⟨cx, o, none⟩ = false := hO.free 2 rfl
  have c9_3_1 : w.cell? ⟨cc, 1, none⟩ = some (.pointer (some ⟨nb, 0, none⟩)) := hO.cell 3 rfl (1) (hcn)
  have lt9_3 : cc < w.heap.size := hO.lt 3 rfl
  have y9_3 : ∀ o, w.frozen? ⟨cc, o, none⟩ = false := hO.free 3 rfl
  obtain ⟨c9_4_0, c9_4_1, c9_4_2, lt9_4, y9_4, -⟩ := hO.k3 4 rfl
  obtain ⟨c9_5_0, lt9_5, y9_5, -⟩ := hO.k1 5 rfl
  obtain ⟨c9_6_0, lt9_6, y9_6, -⟩ := hO.k1 6 rfl
  obtain ⟨c9_7_0, c9_7_1, c9_7_2, c9_7_3, c9_7_4, c9_7_5, lt9_7, y9_7, -⟩ := hO.k6 7 rfl
  have HO := Lib.hid hO
  clear hO
  have gw9_0_0 : w.cell? ⟨0, 0, none⟩ = some (.int .u32 4294967295) := Base.cell_below HO.out.below (Base.block_of_cell hg0) hg0
  have gw9_0_1 : w.cell? ⟨0, 1, none⟩ = some (.int .u32 4294967295) := Base.cell_below HO.out.below (Base.block_of_cell hg1) hg1
  have gl9_0 : 0 < w.heap.size := Base.block_of_cell gw9_0_0
  go_wp2_with (first | (with_reducible refine Own.stay (fn := Tryd.f19) ?_) | fail)
  try with_reducible refine Own.Stay.mk ?_
  have hO := HO.out
  clear HO hix9 hax9 ix9_0 ix9_1 ix9_2 ix9_3 ix9_4 ix9_5 ix9_6 ix9_7 ix9 gw9_0_0 gw9_0_1 gl9_0 c9_0_32 c9_0_105 c9_0_106 c9_0_350 lt9_0 y9_0 c9_2_1 c9_2_2 lt9_2 y9_2 c9_3_1 lt9_3 y9_3 c9_4_0 c9_4_1 c9_4_2 lt9_4 y9_4 c9_5_0 lt9_5 y9_5 c9_6_0 lt9_6 y9_6 c9_7_0 c9_7_1 c9_7_2 c9_7_3 c9_7_4 c9_7_5 lt9_7 y9_7
  generalize hW : World.alloc _ _ = W2
  have hN : Own w0 W2 [row (w.heap.size) 155 #[.nilIface, .int .i32 0], row (pb) 176 PC, row (sb) 199 (full symZ (symL st) c), row (cx) 191 XC, row (cc) 182 CC, row (nb) 51 #[.int .i32 0, .int .u32 0, .int .u32 (i : Int)], row (xqa) 27 #[.pointer (some ⟨cx, 0, none⟩)], row (xqb) 25 #[.pointer (some ⟨pb, 0, none⟩)], row (xqc) 202 #[.pointer none, .int .u32 4294967295, .int .u32 4294967295, .int .u32 4294967295, .int .u32 4294967295, .bool false]] X := by
    rw [← hW]
    exact (hO).alloc' _ (w.heap.size) (by simp)
  clear hW hO
  generalize w.heap.size = B1 at hN ⊢
  have hO := hN
  clear hN
  have hL := hO.apart
  have hX := hO.apartX
  have HL := Lib.hid hL
  have HX := Lib.hid hX
  clear hL hX
  have hP9 := hO.pick [1, 2, 3, 4, 5, 6, 7] (by decide)
  generalize hX9_3 : Own.Rest _ _ X = X9_3 at hP9
  replace hP9 : Own w0 W2 [row (pb) 176 PC, row (sb) 199 (full symZ (symL st) c), row (cx) 191 XC, row (cc) 182 CC, row (nb) 51 #[.int .i32 0, .int .u32 0, .int .u32 (i : Int)], row (xqa) 27 #[.pointer (some ⟨cx, 0, none⟩)], row (xqb) 25 #[.pointer (some ⟨pb, 0, none⟩)]] X9_3 := hP9
  clear hO
  have hO := hP9
  clear hP9
  have st9 := rNO1_st pb PC sb c st cx XC cc CC nb xqa xqb i
  let R9 := rNO1R pb PC sb c st cx XC cc CC nb xqa xqb i
  refine wp_region_own (e := rNO1E pb PC sb c st cx XC cc CC nb xqa xqb i) (anc := rNO1Anc) (G := (fun L9 α u9 => OwnF w0 u9 (act rNO1Cnt 7 L9) (rNO1R pb PC sb c st cx XC cc CC nb xqa xqb i L9 α) X9_3)) (by kernel_rfl) (by kernel_rfl) (by kernel_rfl) (by kernel_rfl) (rNO1_he pb PC sb c st cx XC cc CC nb xqa xqb i) ?_ (RunsAll.all ?_) ?_
  · have hp : ∀ i, act rNO1Cnt 7 (fun _ => false) i → i ∈ [999, 1999, 2999, 3999, 4999, 5999, 6999] := by
      intro i hi
      have h9 : i % 1000 = 999 := by
        by_cases h : i % 1000 = 999
        · exact h
        · exact absurd (act_lt hi h) (by simp)
      unfold act at hi
      rw [if_pos h9] at hi
      simp only [List.mem_cons, List.not_mem_nil, or_false]
      omega
    refine hO.drew.family (fun i hi => ?_) (fun i j hi hj hij => ?_)
    · have := hp i hi
      simp only [List.mem_cons, List.not_mem_nil, or_false] at this
      rcases this with rfl | rfl | rfl | rfl | rfl | rfl | rfl <;> rfl
    · have h1 := hp i hi
      have h2 := hp j hj
      simp only [List.mem_cons, List.not_mem_nil, or_false] at h1 h2
      omega
  · refine ⟨?_, ?_, ?_, ?_, ?_, ?_, ?_, ?_, ?_, ?_, ?_, ?_, trivial⟩
    · intro L9 α a9 u9 K9 hL hcl hA hG hS h0 hK
      replace hL : L9 0 = false := hL
      have q1 : a9.tmps[1]? = some (.pointer (some ⟨xqb, 0, none⟩)) := (h0 1 (by kernel_rfl)).trans rfl
      have s1 := Rega.eval_of q1
      have e0 : R9 L9 α 6999 = row (xqb) 25 #[.pointer (some ⟨pb, 0, none⟩)] := rfl
      have hr := hG.rowAt 6999 (act_base 6999 rfl) e0
      have c0 : u9.cell? ⟨xqb, 0, none⟩ = some (.pointer (some ⟨pb, 0, none⟩)) := hr.cell rfl
      clear hr e0
      go_simp
      exact hK _ α _ (fun _ _ => rfl) rfl (step_same (st9) hL hcl rfl rfl hG)
    · intro L9 α a9 u9 K9 hL hcl hA hG hS h0 hK
      replace hL : L9 1 = false := hL
      have q0 : a9.tmps[0]? = some (.pointer (some ⟨xqa, 0, none⟩)) := (h0 0 (by kernel_rfl)).trans rfl
      have s0 := Rega.eval_of q0
      have e0 : R9 L9 α 5999 = row (xqa) 27 #[.pointer (some ⟨cx, 0, none⟩)] := rfl
      have hr := hG.rowAt 5999 (act_base 5999 rfl) e0
      have c0 : u9.cell? ⟨xqa, 0, none⟩ = some (.pointer (some ⟨cx, 0, none⟩)) := hr.cell rfl
      clear hr e0
      go_simp
      exact hK _ α _ (fun _ _ => rfl) rfl (step_same (st9) hL hcl rfl rfl hG)
    · intro L9 α a9 u9 K9 hL hcl hA hG hS h0 hK
      replace hL : L9 2 = false := hL
      have q157 : a9.tmps[157]? = some (.pointer (some ⟨cx, 0, none⟩)) := hS 1 157 (by decide) rfl (by show 157 < 192; decide)
      have s157 := Rega.eval_of q157
      go_simp
      exact hK _ α _ (fun _ _ => rfl) rfl (step_same (st9) hL hcl rfl rfl hG)
    · intro L9 α a9 u9 K9 hL hcl hA hG hS h0 hK
      replace hL : L9 3 = false := hL
      have q158 : a9.tmps[158]? = some (.pointer (some ⟨cx, 0, none⟩)) := hS 2 158 (by decide) rfl (by show 158 < 192; decide)
      have s158 := Rega.eval_of q158
      go_simp
      exact hK _ α _ (fun _ _ => rfl) rfl (step_same (st9) hL hcl rfl rfl hG)
    · intro L9 α a9 u9 K9 hL hcl hA hG hS h0 hK
      replace hL : L9 4 = false := hL
      have q159 : a9.tmps[159]? = some (.pointer (some ⟨cx, 2, none⟩)) := hS 3 159 (by decide) rfl (by show 159 < 192; decide)
      have s159 := Rega.eval_of q159
      have e0 : R9 L9 α 2999 = row (cx) 191 XC := rfl
      have hr := hG.rowAt 2999 (act_base 2999 rfl) e0
      have c0 : u9.cell? ⟨cx, 2, none⟩ = some (.pointer (some ⟨cc, 0, none⟩)) := hr.cell (hxc)
      clear hr e0
      go_simp
      exact hK _ α _ (fun _ _ => rfl) rfl (step_same (st9) hL hcl rfl rfl hG)
    · intro L9 α a9 u9 K9 hL hcl hA hG hS h0 hK
      replace hL : L9 5 = false := hL
      have q160 : a9.tmps[160]? = some (.pointer (some ⟨cc, 0, none⟩)) := hS 4 160 (by decide) rfl (by show 160 < 192; decide)
      have s160 := Rega.eval_of q160
      go_simp
      exact hK _ α _ (fun _ _ => rfl) rfl (step_same (st9) hL hcl rfl rfl hG)
    · intro L9 α a9 u9 K9 hL hcl hA hG hS h0 hK
      replace hL : L9 6 = false := hL
      have q161 : a9.tmps[161]? = some (.pointer (some ⟨cc, 0, none⟩)) := hS 5 161 (by decide) rfl (by show 161 < 192; decide)
      have s161 := Rega.eval_of q161
      go_simp
      exact hK _ α _ (fun _ _ => rfl) rfl (step_same (st9) hL hcl rfl rfl hG)
    · intro L9 α a9 u9 K9 hL hcl hA hG hS h0 hK
      replace hL : L9 7 = false := hL
      have q162 : a9.tmps[162]? = some (.pointer (some ⟨cc, 1, none⟩)) := hS 6 162 (by decide) rfl (by show 162 < 192; decide)
      have s162 := Rega.eval_of q162
      have e0 : R9 L9 α 3999 = row (cc) 182 CC := rfl
      have hr := hG.rowAt 3999 (act_base 3999 rfl) e0
      have c0 : u9.cell? ⟨cc, 1, none⟩ = some (.pointer (some ⟨nb, 0, none⟩)) := hr.cell (hcn)
      clear hr e0
      go_simp
      exact hK _ α _ (fun _ _ => rfl) rfl (step_same (st9) hL hcl rfl rfl hG)
    · intro L9 α a9 u9 K9 hL hcl hA hG hS h0 hK
      replace hL : L9 8 = false := hL
      have q163 : a9.tmps[163]? = some (.pointer (some ⟨nb, 0, none⟩)) := hS 7 163 (by decide) rfl (by show 163 < 192; decide)
      have s163 := Rega.eval_of q163
      go_simp
      exact hK _ α _ (fun _ _ => rfl) rfl (step_same (st9) hL hcl rfl rfl hG)
    · intro L9 α a9 u9 K9 hL hcl hA hG hS h0 hK
      replace hL : L9 9 = false := hL
      have q164 : a9.tmps[164]? = some (.pointer (some ⟨nb, 0, none⟩)) := hS 8 164 (by decide) rfl (by show 164 < 192; decide)
      have s164 := Rega.eval_of q164
      go_simp
      exact hK _ α _ (fun _ _ => rfl) rfl (step_same (st9) hL hcl rfl rfl hG)
    · intro L9 α a9 u9 K9 hL hcl hA hG hS h0 hK
      replace hL : L9 10 = false := hL
      have q165 : a9.tmps[165]? = some (.pointer (some ⟨nb, 1, none⟩)) := hS 9 165 (by decide) rfl (by show 165 < 192; decide)
      have s165 := Rega.eval_of q165
      have e0 : R9 L9 α 4999 = row (nb) 51 #[.int .i32 0, .int .u32 0, .int .u32 (i : Int)] := rfl
      have hr := hG.rowAt 4999 (act_base 4999 rfl) e0
      have c0 : u9.cell? ⟨nb, 1, none⟩ = some (.int .u32 0) := hr.cell rfl
      have c1 : u9.cell? ⟨nb, 2, none⟩ = some (.int .u32 (i : Int)) := hr.cell rfl
      clear hr e0
      go_simp
      exact hK _ α _ (fun _ _ => rfl) rfl (step_same (st9) hL hcl rfl rfl hG)
    · intro L9 α a9 u9 K9 hL hcl hA hG hS h0 hK
      replace hL : L9 11 = false := hL
      have q156 : a9.tmps[156]? = some (.pointer (some ⟨pb, 0, none⟩)) := hS 0 156 (by decide) rfl (by show 156 < 192; decide)
      have s156 := Rega.eval_of q156
      have q166 : a9.tmps[166]? = some (.agg #[.int .u32 0, .int .u32 (i : Int)]) := hS 10 166 (by decide) rfl (by show 166 < 192; decide)
      have s166 := Rega.eval_of q166
      go_simp
      have e0 : R9 L9 α 999 = row (pb) 176 PC := rfl
      have e1 : R9 L9 α 1999 = row (sb) 199 (full symZ (symL st) c) := by
        show rNO1T1999 pb PC sb c st cx XC cc CC nb xqa xqb i L9 α = _
        unfold rNO1T1999
        rw [if_neg (by rw [hL]; decide)]
      have hM : ∀ i, i ∈ [999, 1999] → act rNO1Cnt 7 L9 i := by
        intro i hi
        simp only [List.mem_cons, List.not_mem_nil, or_false] at hi
        rcases hi with rfl | rfl
        · exact act_base 999 rfl
        · exact act_base 1999 rfl
      have hP : Own w0 u9 [row (pb) 176 PC, row (sb) 199 (full symZ (symL st) c)] _ := (hG.pick [999, 1999] (by decide) hM).conv (by
        show [R9 L9 α 999, R9 L9 α 1999] = _
        rw [e0, e1])
      clear e0 e1 hM
      refine Calls.mono (useG pb PC sb c st n 0 i _ _ _ hP hk350 hk32 hk105 hk106 hn hnb hu) ?_
      rintro e9 u1 ⟨rfl, hQ⟩
      obtain ⟨α', hα'⟩ : ∃ α' : Rega.Atoms, α' = α := ⟨_, rfl⟩
      have f0 : R9 (Rega.ran L9 11) α' 999 = row (pb) 176 PC := rfl
      have f1 : R9 (Rega.ran L9 11) α' 1999 = row (sb) 199 (full symZ (symL (bump st i)) c) := by
        show rNO1T1999 pb PC sb c st cx XC cc CC nb xqa xqb i (Rega.ran L9 11) α' = _
        unfold rNO1T1999
        rw [if_pos (show Rega.ran L9 11 11 = true from rfl)]
      have hα : ∀ j, j % 1000 ≠ 11 → α' j = α j := fun j hj => by rw [hα']
      skip
      refine hK _ α' _ hα ?_ (step_call (st9) hL hcl hα [999, 1999] [999, 1999] (by decide) (by decide) (by decide) (M := _) ?_ hG hQ)
      · rfl
      · show [R9 (Rega.ran L9 11) α' 999, R9 (Rega.ran L9 11) α' 1999] = _
        rw [f0, f1]
  clear st9
  intro α u hG
  have e0 : R9 (fun k => decide (k < 12)) α 999 = row (pb) 176 PC := rfl
  have e1 : R9 (fun k => decide (k < 12)) α 1999 = row (sb) 199 (full symZ (symL (bump st i)) c) := by
    show rNO1T1999 pb PC sb c st cx XC cc CC nb xqa xqb i (fun k => decide (k < 12)) α = _
    unfold rNO1T1999
    rw [if_pos (by decide)]
  have e2 : R9 (fun k => decide (k < 12)) α 2999 = row (cx) 191 XC := rfl
  have e3 : R9 (fun k => decide (k < 12)) α 3999 = row (cc) 182 CC := rfl
  have e4 : R9 (fun k => decide (k < 12)) α 4999 = row (nb) 51 #[.int .i32 0, .int .u32 0, .int .u32 (i : Int)] := rfl
  have e5 : R9 (fun k => decide (k < 12)) α 5999 = row (xqa) 27 #[.pointer (some ⟨cx, 0, none⟩)] := rfl
  have e6 : R9 (fun k => decide (k < 12)) α 6999 = row (xqb) 25 #[.pointer (some ⟨pb, 0, none⟩)] := rfl
  have hO : Own w0 u [row (pb) 176 PC, row (sb) 199 (full symZ (symL (bump st i)) c), row (cx) 191 XC, row (cc) 182 CC, row (nb) 51 #[.int .i32 0, .int .u32 0, .int .u32 (i : Int)], row (xqa) 27 #[.pointer (some ⟨cx, 0, none⟩)], row (xqb) 25 #[.pointer (some ⟨pb, 0, none⟩)]] X9_3 := (hG.list [999, 1999, 2999, 3999, 4999, 5999, 6999] (by decide) (act_all (by decide))).conv (by
    show [R9 (fun k => decide (k < 12)) α 999, R9 (fun k => decide (k < 12)) α 1999, R9 (fun k => decide (k < 12)) α 2999, R9 (fun k => decide (k < 12)) α 3999, R9 (fun k => decide (k < 12)) α 4999, R9 (fun k => decide (k < 12)) α 5999, R9 (fun k => decide (k < 12)) α 6999] = _
    rw [e0, e1, e2, e3, e4, e5, e6])
  clear hG e0 e1 e2 e3 e4 e5 e6 R9
  generalize hfr : Rega.frameAt _ _ _ _ _ = fr
  have hdf : fr = ⟨#[.pointer (some ⟨xqa, 0, none⟩), .pointer (some ⟨xqb, 0, none⟩), .pointer (some ⟨xqc, 0, none⟩), .pointer (some ⟨B1, 0, none⟩), undef, undef, .pointer (some ⟨cx, 0, none⟩), .pointer (some ⟨cx, 0, none⟩), .pointer (some ⟨cx, 1, none⟩), .int .u8 kd, .bool false, undef, undef, undef, undef, undef, undef, undef, undef, undef, undef, undef, undef, undef, undef, undef, undef, undef, undef, undef, undef, undef, undef, undef, undef, undef, undef, undef, undef, undef, undef, undef, undef, undef, undef, undef, undef, undef, undef, undef, undef, undef, undef, undef, undef, undef, undef, undef, undef, undef, undef, undef, undef, undef, undef, undef, undef, undef, undef, undef, undef, undef, undef, undef, undef, undef, undef, undef, undef, undef, undef, undef, undef, undef, undef, undef, undef, undef, undef, undef, undef, undef, undef, undef, undef, undef, .pointer (some ⟨xqc, 1, none⟩), .agg #[.int .u32 4294967295, .int .u32 4294967295], .agg #[.int .u32 4294967295, .int .u32 4294967295], .bool false, undef, undef, undef, undef, undef, undef, undef, undef, undef, undef, undef, undef, undef, undef, undef, undef, undef, undef, undef, undef, .pointer (some ⟨cx, 0, none⟩), .pointer (some ⟨cx, 0, none⟩), .pointer (some ⟨cx, 2, none⟩), .pointer (some ⟨cc, 0, none⟩), .pointer (some ⟨cc, 0, none⟩), .pointer (some ⟨cc, 1, none⟩), .pointer (some ⟨nb, 0, none⟩), .bool false, undef, undef, undef, undef, undef, undef, undef, undef, undef, undef, undef, undef, undef, undef, undef, undef, undef, undef, undef, undef, undef, undef, undef, undef, undef, undef, undef, undef, .pointer (some ⟨pb, 0, none⟩), .pointer (some ⟨cx, 0, none⟩), .pointer (some ⟨cx, 0, none⟩), .pointer (some ⟨cx, 2, none⟩), .pointer (some ⟨cc, 0, none⟩), .pointer (some ⟨cc, 0, none⟩), .pointer (some ⟨cc, 1, none⟩), .pointer (some ⟨nb, 0, none⟩), .pointer (some ⟨nb, 0, none⟩), .pointer (some ⟨nb, 1, none⟩), .agg #[.int .u32 0, .int .u32 (i : Int)], .tuple #[], undef, undef, undef, undef, undef, undef, undef, undef, undef, undef, undef, undef, undef, undef, undef, undef, undef, undef, undef, undef, undef, undef, undef, undef], []⟩ := by rw [← hfr]; kernel_rfl
  clear hfr
  subst hdf
  clear α
  subst hX9_3
  have hN : Own w0 u [row (pb) 176 PC, row (sb) 199 (full symZ (symL (bump st i)) c), row (cx) 191 XC, row (cc) 182 CC, row (nb) 51 #[.int .i32 0, .int .u32 0, .int .u32 (i : Int)], row (xqa) 27 #[.pointer (some ⟨cx, 0, none⟩)], row (xqb) 25 #[.pointer (some ⟨pb, 0, none⟩)], row (B1) 155 #[.nilIface, .int .i32 0], row (xqc) 202 #[.pointer none, .int .u32 4294967295, .int .u32 4294967295, .int .u32 4294967295, .int .u32 4294967295, .bool false]] X := hO.back HL.out HX.out [0, 8] (by decide) (by decide)
  clear hO HL HX
  have hO := hN
  clear hN
  obtain ⟨c9_4_0, c9_4_1, c9_4_2, lt9_4, y9_4, -⟩ := hO.k3 4 rfl
  obtain ⟨c9_5_0, lt9_5, y9_5, -⟩ := hO.k1 5 rfl
  obtain ⟨c9_6_0, lt9_6, y9_6, -⟩ := hO.k1 6 rfl
  obtain ⟨c9_7_0, c9_7_1, lt9_7, y9_7, -⟩ := hO.k2 7 rfl
  obtain ⟨c9_8_0, c9_8_1, c9_8_2, c9_8_3, c9_8_4, c9_8_5, lt9_8, y9_8, -⟩ := hO.k6 8 rfl
  have HO := Lib.hid hO
  clear hO
  have gw9_0_0 : u.cell? ⟨0, 0, none⟩ = some (.int .u32 4294967295) := Base.cell_below HO.out.below (Base.block_of_cell hg0) hg0
  have gw9_0_1 : u.cell? ⟨0, 1, none⟩ = some (.int .u32 4294967295) := Base.cell_below HO.out.below (Base.block_of_cell hg1) hg1
  have gl9_0 : 0 < u.heap.size := Base.block_of_cell gw9_0_0
  go_wp2_with (first | (with_reducible refine Own.stay (fn := Tryd.f19) ?_) | fail)
  try with_reducible refine Own.Stay.mk ?_
  have hO := HO.out
  clear HO gw9_0_0 gw9_0_1 gl9_0 c9_4_0 c9_4_1 c9_4_2 lt9_4 y9_4 c9_5_0 lt9_5 y9_5 c9_6_0 lt9_6 y9_6 c9_7_0 c9_7_1 lt9_7 y9_7 c9_8_0 c9_8_1 c9_8_2 c9_8_3 c9_8_4 c9_8_5 lt9_8 y9_8
  have hL := hO.apart
  have hX := hO.apartX
  have HL := Lib.hid hL
  have HX := Lib.hid hX
  clear hL hX
  have hP9 := hO.pick [2, 3, 4, 5, 7] (by decide)
  generalize hX9_4 : Own.Rest _ _ X = X9_4 at hP9
  replace hP9 : Own w0 u [row (cx) 191 XC, row (cc) 182 CC, row (nb) 51 #[.int .i32 0, .int .u32 0, .int .u32 (i : Int)], row (xqa) 27 #[.pointer (some ⟨cx, 0, none⟩)], row (B1) 155 #[.nilIface, .int .i32 0]] X9_4 := hP9
  clear hO
  have hO := hP9
  clear hP9
  have st9 := rNO2_st cx XC cc CC nb xqa i B1
  let R9 := rNO2R cx XC cc CC nb xqa i B1
  refine wp_region_own (e := rNO2E cx XC cc CC nb xqa i B1) (anc := rNO2Anc) (G := (fun L9 α u9 => OwnF w0 u9 (act rNO2Cnt 5 L9) (rNO2R cx XC cc CC nb xqa i B1 L9 α) X9_4)) (by kernel_rfl) (by kernel_rfl) (by kernel_rfl) (by kernel_rfl) (rNO2_he cx XC cc CC nb xqa i B1) ?_ (RunsAll.all ?_) ?_
  · have hp : ∀ i, act rNO2Cnt 5 (fun _ => false) i → i ∈ [999, 1999, 2999, 3999, 4999] := by
      intro i hi
      have h9 : i % 1000 = 999 := by
        by_cases h : i % 1000 = 999
        · exact h
        · exact absurd (act_lt hi h) (by simp)
      unfold act at hi
      rw [if_pos h9] at hi
      simp only [List.mem_cons, List.not_mem_nil, or_false]
      omega
    refine hO.drew.family (fun i hi => ?_) (fun i j hi hj hij => ?_)
    · have := hp i hi
      simp only [List.mem_cons, List.not_mem_nil, or_false] at this
      rcases this with rfl | rfl | rfl | rfl | rfl <;> rfl
    · have h1 := hp i hi
      have h2 := hp j hj
      simp only [List.mem_cons, List.not_mem_nil, or_false] at h1 h2
      omega
  · refine ⟨?_, ?_, ?_, ?_, ?_, ?_, ?_, ?_, ?_, ?_, ?_, ?_, ?_, ?_, ?_, ?_, ?_, ?_, ?_, ?_, ?_, ?_, ?_, ?_, ?_, trivial⟩
    · intro L9 α a9 u9 K9 hL hcl hA hG hS h0 hK
      replace hL : L9 0 = false := hL
      have q0 : a9.tmps[0]? = some (.pointer (some ⟨xqa, 0, none⟩)) := (h0 0 (by kernel_rfl)).trans rfl
      have s0 := Rega.eval_of q0
      have e0 : R9 L9 α 3999 = row (xqa) 27 #[.pointer (some ⟨cx, 0, none⟩)] := rfl
      have hr := hG.rowAt 3999 (act_base 3999 rfl) e0
      have c0 : u9.cell? ⟨xqa, 0, none⟩ = some (.pointer (some ⟨cx, 0, none⟩)) := hr.cell rfl
      clear hr e0
      go_simp
      exact hK _ α _ (fun _ _ => rfl) rfl (step_same (st9) hL hcl rfl rfl hG)
    · intro L9 α a9 u9 K9 hL hcl hA hG hS h0 hK
      replace hL : L9 1 = false := hL
      have q168 : a9.tmps[168]? = some (.pointer (some ⟨cx, 0, none⟩)) := hS 0 168 (by decide) rfl (by show 168 < 192; decide)
      have s168 := Rega.eval_of q168
      go_simp
      exact hK _ α _ (fun _ _ => rfl) rfl (step_same (st9) hL hcl rfl rfl hG)
    · intro L9 α a9 u9 K9 hL hcl hA hG hS h0 hK
      replace hL : L9 2 = false := hL
      have q169 : a9.tmps[169]? = some (.pointer (some ⟨cx, 0, none⟩)) := hS 1 169 (by decide) rfl (by show 169 < 192; decide)
      have s169 := Rega.eval_of q169
      go_simp
      exact hK _ α _ (fun _ _ => rfl) rfl (step_same (st9) hL hcl rfl rfl hG)
    · intro L9 α a9 u9 K9 hL hcl hA hG hS h0 hK
      replace hL : L9 3 = false := hL
      have q170 : a9.tmps[170]? = some (.pointer (some ⟨cx, 2, none⟩)) := hS 2 170 (by decide) rfl (by show 170 < 192; decide)
      have s170 := Rega.eval_of q170
      have e0 : R9 L9 α 999 = row (cx) 191 XC := rfl
      have hr := hG.rowAt 999 (act_base 999 rfl) e0
      have c0 : u9.cell? ⟨cx, 2, none⟩ = some (.pointer (some ⟨cc, 0, none⟩)) := hr.cell (hxc)
      clear hr e0
      go_simp
      exact hK _ α _ (fun _ _ => rfl) rfl (step_same (st9) hL hcl rfl rfl hG)
    · intro L9 α a9 u9 K9 hL hcl hA hG hS h0 hK
      replace hL : L9 4 = false := hL
      have q171 : a9.tmps[171]? = some (.pointer (some ⟨cc, 0, none⟩)) := hS 3 171 (by decide) rfl (by show 171 < 192; decide)
      have s171 := Rega.eval_of q171
      go_simp
      exact hK _ α _ (fun _ _ => rfl) rfl (step_same (st9) hL hcl rfl rfl hG)
    · intro L9 α a9 u9 K9 hL hcl hA hG hS h0 hK
      replace hL : L9 5 = false := hL
      have q172 : a9.tmps[172]? = some (.pointer (some ⟨cc, 0, none⟩)) := hS 4 172 (by decide) rfl (by show 172 < 192; decide)
      have s172 := Rega.eval_of q172
      go_simp
      exact hK _ α _ (fun _ _ => rfl) rfl (step_same (st9) hL hcl rfl rfl hG)
    · intro L9 α a9 u9 K9 hL hcl hA hG hS h0 hK
      replace hL : L9 6 = false := hL
      have q173 : a9.tmps[173]? = some (.pointer (some ⟨cc, 1, none⟩)) := hS 5 173 (by decide) rfl (by show 173 < 192; decide)
      have s173 := Rega.eval_of q173
      have e0 : R9 L9 α 1999 = row (cc) 182 CC := rfl
      have hr := hG.rowAt 1999 (act_base 1999 rfl) e0
      have c0 : u9.cell? ⟨cc, 1, none⟩ = some (.pointer (some ⟨nb, 0, none⟩)) := hr.cell (hcn)
      clear hr e0
      go_simp
      exact hK _ α _ (fun _ _ => rfl) rfl (step_same (st9) hL hcl rfl rfl hG)
    · intro L9 α a9 u9 K9 hL hcl hA hG hS h0 hK
      replace hL : L9 7 = false := hL
      have q174 : a9.tmps[174]? = some (.pointer (some ⟨nb, 0, none⟩)) := hS 6 174 (by decide) rfl (by show 174 < 192; decide)
      have s174 := Rega.eval_of q174
      go_simp
      exact hK _ α _ (fun _ _ => rfl) rfl (step_same (st9) hL hcl rfl rfl hG)
    · intro L9 α a9 u9 K9 hL hcl hA hG hS h0 hK
      replace hL : L9 8 = false := hL
      have q175 : a9.tmps[175]? = some (.pointer (some ⟨nb, 0, none⟩)) := hS 7 175 (by decide) rfl (by show 175 < 192; decide)
      have s175 := Rega.eval_of q175
      go_simp
      exact hK _ α _ (fun _ _ => rfl) rfl (step_same (st9) hL hcl rfl rfl hG)
    · intro L9 α a9 u9 K9 hL hcl hA hG hS h0 hK
      replace hL : L9 9 = false := hL
      have q176 : a9.tmps[176]? = some (.pointer (some ⟨nb, 0, none⟩)) := hS 8 176 (by decide) rfl (by show 176 < 192; decide)
      have s176 := Rega.eval_of q176
      have e0 : R9 L9 α 2999 = row (nb) 51 #[.int .i32 0, .int .u32 0, .int .u32 (i : Int)] := rfl
      have hr := hG.rowAt 2999 (act_base 2999 rfl) e0
      have c0 : u9.cell? ⟨nb, 0, none⟩ = some (.int .i32 0) := hr.cell rfl
      clear hr e0
      go_simp
      exact hK _ α _ (fun _ _ => rfl) rfl (step_same (st9) hL hcl rfl rfl hG)
    · intro L9 α a9 u9 K9 hL hcl hA hG hS h0 hK
      replace hL : L9 10 = false := hL
      have q0 : a9.tmps[0]? = some (.pointer (some ⟨xqa, 0, none⟩)) := (h0 0 (by kernel_rfl)).trans rfl
      have s0 := Rega.eval_of q0
      have e0 : R9 L9 α 3999 = row (xqa) 27 #[.pointer (some ⟨cx, 0, none⟩)] := rfl
      have hr := hG.rowAt 3999 (act_base 3999 rfl) e0
      have c0 : u9.cell? ⟨xqa, 0, none⟩ = some (.pointer (some ⟨cx, 0, none⟩)) := hr.cell rfl
      clear hr e0
      go_simp
      exact hK _ α _ (fun _ _ => rfl) rfl (step_same (st9) hL hcl rfl rfl hG)
    · intro L9 α a9 u9 K9 hL hcl hA hG hS h0 hK
      replace hL : L9 11 = false := hL
      have q178 : a9.tmps[178]? = some (.pointer (some ⟨cx, 0, none⟩)) := hS 10 178 (by decide) rfl (by show 178 < 192; decide)
      have s178 := Rega.eval_of q178
      go_simp
      exact hK _ α _ (fun _ _ => rfl) rfl (step_same (st9) hL hcl rfl rfl hG)
    · intro L9 α a9 u9 K9 hL hcl hA hG hS h0 hK
      replace hL : L9 12 = false := hL
      have q179 : a9.tmps[179]? = some (.pointer (some ⟨cx, 0, none⟩)) := hS 11 179 (by decide) rfl (by show 179 < 192; decide)
      have s179 := Rega.eval_of q179
      go_simp
      exact hK _ α _ (fun _ _ => rfl) rfl (step_same (st9) hL hcl rfl rfl hG)
    · intro L9 α a9 u9 K9 hL hcl hA hG hS h0 hK
      replace hL : L9 13 = false := hL
      have q180 : a9.tmps[180]? = some (.pointer (some ⟨cx, 2, none⟩)) := hS 12 180 (by decide) rfl (by show 180 < 192; decide)
      have s180 := Rega.eval_of q180
      have e0 : R9 L9 α 999 = row (cx) 191 XC := rfl
      have hr := hG.rowAt 999 (act_base 999 rfl) e0
      have c0 : u9.cell? ⟨cx, 2, none⟩ = some (.pointer (some ⟨cc, 0, none⟩)) := hr.cell (hxc)
      clear hr e0
      go_simp
      exact hK _ α _ (fun _ _ => rfl) rfl (step_same (st9) hL hcl rfl rfl hG)
    · intro L9 α a9 u9 K9 hL hcl hA hG hS h0 hK
      replace hL : L9 14 = false := hL
      have q181 : a9.tmps[181]? = some (.pointer (some ⟨cc, 0, none⟩)) := hS 13 181 (by decide) rfl (by show 181 < 192; decide)
      have s181 := Rega.eval_of q181
      go_simp
      exact hK _ α _ (fun _ _ => rfl) rfl (step_same (st9) hL hcl rfl rfl hG)
    · intro L9 α a9 u9 K9 hL hcl hA hG hS h0 hK
      replace hL : L9 15 = false := hL
      have q182 : a9.tmps[182]? = some (.pointer (some ⟨cc, 0, none⟩)) := hS 14 182 (by decide) rfl (by show 182 < 192; decide)
      have s182 := Rega.eval_of q182
      go_simp
      exact hK _ α _ (fun _ _ => rfl) rfl (step_same (st9) hL hcl rfl rfl hG)
    · intro L9 α a9 u9 K9 hL hcl hA hG hS h0 hK
      replace hL : L9 16 = false := hL
      have q183 : a9.tmps[183]? = some (.pointer (some ⟨cc, 1, none⟩)) := hS 15 183 (by decide) rfl (by show 183 < 192; decide)
      have s183 := Rega.eval_of q183
      have e0 : R9 L9 α 1999 = row (cc) 182 CC := rfl
      have hr := hG.rowAt 1999 (act_base 1999 rfl) e0
      have c0 : u9.cell? ⟨cc, 1, none⟩ = some (.pointer (some ⟨nb, 0, none⟩)) := hr.cell (hcn)
      clear hr e0
      go_simp
      exact hK _ α _ (fun _ _ => rfl) rfl (step_same (st9) hL hcl rfl rfl hG)
    · intro L9 α a9 u9 K9 hL hcl hA hG hS h0 hK
      replace hL : L9 17 = false := hL
      have q184 : a9.tmps[184]? = some (.pointer (some ⟨nb, 0, none⟩)) := hS 16 184 (by decide) rfl (by show 184 < 192; decide)
      have s184 := Rega.eval_of q184
      go_simp
      exact hK _ α _ (fun _ _ => rfl) rfl (step_same (st9) hL hcl rfl rfl hG)
    · intro L9 α a9 u9 K9 hL hcl hA hG hS h0 hK
      replace hL : L9 18 = false := hL
      have q185 : a9.tmps[185]? = some (.pointer (some ⟨nb, 0, none⟩)) := hS 17 185 (by decide) rfl (by show 185 < 192; decide)
      have s185 := Rega.eval_of q185
      go_simp
      exact hK _ α _ (fun _ _ => rfl) rfl (step_same (st9) hL hcl rfl rfl hG)
    · intro L9 α a9 u9 K9 hL hcl hA hG hS h0 hK
      replace hL : L9 19 = false := hL
      have q186 : a9.tmps[186]? = some (.pointer (some ⟨nb, 1, none⟩)) := hS 18 186 (by decide) rfl (by show 186 < 192; decide)
      have s186 := Rega.eval_of q186
      have e0 : R9 L9 α 2999 = row (nb) 51 #[.int .i32 0, .int .u32 0, .int .u32 (i : Int)] := rfl
      have hr := hG.rowAt 2999 (act_base 2999 rfl) e0
      have c0 : u9.cell? ⟨nb, 1, none⟩ = some (.int .u32 0) := hr.cell rfl
      have c1 : u9.cell? ⟨nb, 2, none⟩ = some (.int .u32 (i : Int)) := hr.cell rfl
      clear hr e0
      go_simp
      exact hK _ α _ (fun _ _ => rfl) rfl (step_same (st9) hL hcl rfl rfl hG)
    · intro L9 α a9 u9 K9 hL hcl hA hG hS h0 hK
      replace hL : L9 20 = false := hL
      have q187 : a9.tmps[187]? = some (.agg #[.int .u32 0, .int .u32 (i : Int)]) := hS 19 187 (by decide) rfl (by show 187 < 192; decide)
      have s187 := Rega.eval_of q187
      go_simp
      exact hK _ α _ (fun _ _ => rfl) rfl (step_same (st9) hL hcl rfl rfl hG)
    · intro L9 α a9 u9 K9 hL hcl hA hG hS h0 hK
      replace hL : L9 21 = false := hL
      have q188 : a9.tmps[188]? = some (.agg #[.int .u32 0, .int .u32 (i : Int), .bool false, .bool false, .bool false]) := hS 20 188 (by decide) rfl (by show 188 < 192; decide)
      have s188 := Rega.eval_of q188
      go_simp
      exact hK _ (fun j => if j = 21 then u9.heap.size else α j) _ (fun j hj => if_neg (fun e => hj (by rw [e]))) rfl (step_alloc (st9) hL hcl rfl rfl (by decide) _ rfl hG)
    · intro L9 α a9 u9 K9 hL hcl hA hG hS h0 hK
      replace hL : L9 22 = false := hL
      have q189 : a9.tmps[189]? = some (.pointer (some ⟨α 21, 0, none⟩)) := hS 21 189 (by decide) rfl (by show 189 < 192; decide)
      have s189 := Rega.eval_of q189
      go_simp
      exact hK _ α _ (fun _ _ => rfl) rfl (step_same (st9) hL hcl rfl rfl hG)
    · intro L9 α a9 u9 K9 hL hcl hA hG hS h0 hK
      replace hL : L9 23 = false := hL
      have q177 : a9.tmps[177]? = some (.agg #[.int .i32 0]) := hS 9 177 (by decide) rfl (by show 177 < 192; decide)
      have s177 := Rega.eval_of q177
      have q190 : a9.tmps[190]? = some (.iface 203 (.pointer (some ⟨α 21, 0, none⟩))) := hS 22 190 (by decide) rfl (by show 190 < 192; decide)
      have s190 := Rega.eval_of q190
      go_simp
      exact hK _ α _ (fun _ _ => rfl) rfl (step_same (st9) hL hcl rfl rfl hG)
    · intro L9 α a9 u9 K9 hL hcl hA hG hS h0 hK
      replace hL : L9 24 = false := hL
      have q3 : a9.tmps[3]? = some (.pointer (some ⟨B1, 0, none⟩)) := (h0 3 (by kernel_rfl)).trans rfl
      have s3 := Rega.eval_of q3
      have q191 : a9.tmps[191]? = some (.agg #[.iface 203 (.pointer (some ⟨α 21, 0, none⟩)), .int .i32 0]) := hS 23 191 (by decide) rfl (by show 191 < 192; decide)
      have s191 := Rega.eval_of q191
      have e0 : R9 L9 α 4999 = row (B1) 155 #[.nilIface, .int .i32 0] := by
        show rNO2T4999 cx XC cc CC nb xqa i B1 L9 α = _
        unfold rNO2T4999
        rw [if_neg (by rw [hL]; decide)]
      have hr := hG.rowAt 4999 (act_base 4999 rfl) e0
      have c0 : u9.cell? ⟨B1, 0, none⟩ = some (.nilIface) := hr.cell rfl
      have y0 : u9.frozen? ⟨B1, 0, none⟩ = false := hr.free (0)
      have c1 : u9.cell? ⟨B1, 1, none⟩ = some (.int .i32 0) := hr.cell rfl
      have y1 : u9.frozen? ⟨B1, 1, none⟩ = false := hr.free (1)
      clear hr
      have E0 := Lib.hid e0
      clear e0
      go_simp
      have e1 : R9 (Rega.ran L9 24) α 4999 = row (B1) 155 #[.iface 203 (.pointer (some ⟨α 21, 0, none⟩)), .int .i32 0] := by
        show rNO2T4999 cx XC cc CC nb xqa i B1 (Rega.ran L9 24) α = _
        unfold rNO2T4999
        rw [if_pos (show Rega.ran L9 24 24 = true from rfl)]
      exact hK _ α _ (fun _ _ => rfl) rfl (step_sets (st9) hL hcl rfl 4999 rfl (act_base 4999 rfl) E0.out (0) [.iface 203 (.pointer (some ⟨α 21, 0, none⟩)), .int .i32 0] (e1.trans rfl) hG)
  clear st9
  intro α u hG
  have e0 : R9 (fun k => decide (k < 25)) α 999 = row (cx) 191 XC := rfl
  have e1 : R9 (fun k => decide (k < 25)) α 1999 = row (cc) 182 CC := rfl
  have e2 : R9 (fun k => decide (k < 25)) α 2999 = row (nb) 51 #[.int .i32 0, .int .u32 0, .int .u32 (i : Int)] := rfl
  have e3 : R9 (fun k => decide (k < 25)) α 3999 = row (xqa) 27 #[.pointer (some ⟨cx, 0, none⟩)] := rfl
  have e4 : R9 (fun k => decide (k < 25)) α 4999 = row (B1) 155 #[.iface 203 (.pointer (some ⟨α 21, 0, none⟩)), .int .i32 0] := by
    show rNO2T4999 cx XC cc CC nb xqa i B1 (fun k => decide (k < 25)) α = _
    unfold rNO2T4999
    rw [if_pos (by decide)]
  have e5 : R9 (fun k => decide (k < 25)) α 21 = row (α 21) 206 #[.int .u32 0, .int .u32 (i : Int), .bool false, .bool false, .bool false] := rfl
  have hO : Own w0 u [row (cx) 191 XC, row (cc) 182 CC, row (nb) 51 #[.int .i32 0, .int .u32 0, .int .u32 (i : Int)], row (xqa) 27 #[.pointer (some ⟨cx, 0, none⟩)], row (B1) 155 #[.iface 203 (.pointer (some ⟨α 21, 0, none⟩)), .int .i32 0], row (α 21) 206 #[.int .u32 0, .int .u32 (i : Int), .bool false, .bool false, .bool false]] X9_4 := (hG.list [999, 1999, 2999, 3999, 4999, 21] (by decide) (act_all (by decide))).conv (by
    show [R9 (fun k => decide (k < 25)) α 999, R9 (fun k => decide (k < 25)) α 1999, R9 (fun k => decide (k < 25)) α 2999, R9 (fun k => decide (k < 25)) α 3999, R9 (fun k => decide (k < 25)) α 4999, R9 (fun k => decide (k < 25)) α 21] = _
    rw [e0, e1, e2, e3, e4, e5])
  clear hG e0 e1 e2 e3 e4 e5 R9
  generalize hfr : Rega.frameAt _ _ _ _ _ = fr
  have hdf : fr = ⟨#[.pointer (some ⟨xqa, 0, none⟩), .pointer (some ⟨xqb, 0, none⟩), .pointer (some ⟨xqc, 0, none⟩), .pointer (some ⟨B1, 0, none⟩), undef, undef, .pointer (some ⟨cx, 0, none⟩), .pointer (some ⟨cx, 0, none⟩), .pointer (some ⟨cx, 1, none⟩), .int .u8 kd, .bool false, undef, undef, undef, undef, undef, undef, undef, undef, undef, undef, undef, undef, undef, undef, undef, undef, undef, undef, undef, undef, undef, undef, undef, undef, undef, undef, undef, undef, undef, undef, undef, undef, undef, undef, undef, undef, undef, undef, undef, undef, undef, undef, undef, undef, undef, undef, undef, undef, undef, undef, undef, undef, undef, undef, undef, undef, undef, undef, undef, undef, undef, undef, undef, undef, undef, undef, undef, undef, undef, undef, undef, undef, undef, undef, undef, undef, undef, undef, undef, undef, undef, undef, undef, undef, undef, .pointer (some ⟨xqc, 1, none⟩), .agg #[.int .u32 4294967295, .int .u32 4294967295], .agg #[.int .u32 4294967295, .int .u32 4294967295], .bool false, undef, undef, undef, undef, undef, undef, undef, undef, undef, undef, undef, undef, undef, undef, undef, undef, undef, undef, undef, undef, .pointer (some ⟨cx, 0, none⟩), .pointer (some ⟨cx, 0, none⟩), .pointer (some ⟨cx, 2, none⟩), .pointer (some ⟨cc, 0, none⟩), .pointer (some ⟨cc, 0, none⟩), .pointer (some ⟨cc, 1, none⟩), .pointer (some ⟨nb, 0, none⟩), .bool false, undef, undef, undef, undef, undef, undef, undef, undef, undef, undef, undef, undef, undef, undef, undef, undef, undef, undef, undef, undef, undef, undef, undef, undef, undef, undef, undef, undef, .pointer (some ⟨pb, 0, none⟩), .pointer (some ⟨cx, 0, none⟩), .pointer (some ⟨cx, 0, none⟩), .pointer (some ⟨cx, 2, none⟩), .pointer (some ⟨cc, 0, none⟩), .pointer (some ⟨cc, 0, none⟩), .pointer (some ⟨cc, 1, none⟩), .pointer (some ⟨nb, 0, none⟩), .pointer (some ⟨nb, 0, none⟩), .pointer (some ⟨nb, 1, none⟩), .agg #[.int .u32 0, .int .u32 (i : Int)], .tuple #[], .pointer (some ⟨cx, 0, none⟩), .pointer (some ⟨cx, 0, none⟩), .pointer (some ⟨cx, 2, none⟩), .pointer (some ⟨cc, 0, none⟩), .pointer (some ⟨cc, 0, none⟩), .pointer (some ⟨cc, 1, none⟩), .pointer (some ⟨nb, 0, none⟩), .pointer (some ⟨nb, 0, none⟩), .pointer (some ⟨nb, 0, none⟩), .agg #[.int .i32 0], .pointer (some ⟨cx, 0, none⟩), .pointer (some ⟨cx, 0, none⟩), .pointer (some ⟨cx, 2, none⟩), .pointer (some ⟨cc, 0, none⟩), .pointer (some ⟨cc, 0, none⟩), .pointer (some ⟨cc, 1, none⟩), .pointer (some ⟨nb, 0, none⟩), .pointer (some ⟨nb, 0, none⟩), .pointer (some ⟨nb, 1, none⟩), .agg #[.int .u32 0, .int .u32 (i : Int)], .agg #[.int .u32 0, .int .u32 (i : Int), .bool false, .bool false, .bool false], .pointer (some ⟨α 21, 0, none⟩), .iface 203 (.pointer (some ⟨α 21, 0, none⟩)), .agg #[.iface 203 (.pointer (some ⟨α 21, 0, none⟩)), .int .i32 0]], []⟩ := by rw [← hfr]; kernel_rfl
  clear hfr
  subst hdf
  generalize α 21 = nd5 at hO ⊢
  clear α
  subst hX9_4
  have hN : Own w0 u [row (cx) 191 XC, row (cc) 182 CC, row (nb) 51 #[.int .i32 0, .int .u32 0, .int .u32 (i : Int)], row (xqa) 27 #[.pointer (some ⟨cx, 0, none⟩)], row (B1) 155 #[.iface 203 (.pointer (some ⟨nd5, 0, none⟩)), .int .i32 0], row (nd5) 206 #[.int .u32 0, .int .u32 (i : Int), .bool false, .bool false, .bool false], row (pb) 176 PC, row (sb) 199 (full symZ (symL (bump st i)) c), row (xqb) 25 #[.pointer (some ⟨pb, 0, none⟩)], row (xqc) 202 #[.pointer none, .int .u32 4294967295, .int .u32 4294967295, .int .u32 4294967295, .int .u32 4294967295, .bool false]] X := hO.back HL.out HX.out [0, 1, 6, 8] (by decide) (by decide)
  clear hO HL HX
  have hO := hN
  clear hN
  obtain ⟨c9_2_0, c9_2_1, c9_2_2, lt9_2, y9_2, -⟩ := hO.k3 2 rfl
  obtain ⟨c9_3_0, lt9_3, y9_3, -⟩ := hO.k1 3 rfl
  obtain ⟨c9_4_0, c9_4_1, lt9_4, y9_4, -⟩ := hO.k2 4 rfl
  obtain ⟨c9_5_0, c9_5_1, c9_5_2, c9_5_3, c9_5_4, lt9_5, y9_5, -⟩ := hO.k5 5 rfl
  obtain ⟨c9_8_0, lt9_8, y9_8, -⟩ := hO.k1 8 rfl
  obtain ⟨c9_9_0, c9_9_1, c9_9_2, c9_9_3, c9_9_4, c9_9_5, lt9_9, y9_9, -⟩ := hO.k6 9 rfl
  have HO := Lib.hid hO
  clear hO
  have gw9_0_0 : u.cell? ⟨0, 0, none⟩ = some (.int .u32 4294967295) := Base.cell_below HO.out.below (Base.block_of_cell hg0) hg0
  have gw9_0_1 : u.cell? ⟨0, 1, none⟩ = some (.int .u32 4294967295) := Base.cell_below HO.out.below (Base.block_of_cell hg1) hg1
  have gl9_0 : 0 < u.heap.size := Base.block_of_cell gw9_0_0
  go_wp2_with (first | (with_reducible refine Own.stay (fn := Tryd.f19) ?_) | fail)
  try with_reducible refine Own.Stay.mk ?_
  have hO := HO.out
  clear HO gw9_0_0 gw9_0_1 gl9_0 c9_2_0 c9_2_1 c9_2_2 lt9_2 y9_2 c9_3_0 lt9_3 y9_3 c9_4_0 c9_4_1 lt9_4 y9_4 c9_5_0 c9_5_1 c9_5_2 c9_5_3 c9_5_4 lt9_5 y9_5 c9_8_0 lt9_8 y9_8 c9_9_0 c9_9_1 c9_9_2 c9_9_3 c9_9_4 c9_9_5 lt9_9 y9_9
  have z9_4_0 : u.cell? ⟨B1, 0, none⟩ = some (.iface 203 (.pointer (some ⟨nd5, 0, none⟩))) := hO.cell 4 rfl 0 rfl
  have z9_4_1 : u.cell? ⟨B1, 1, none⟩ = some (.int .i32 0) := hO.cell 4 rfl 1 rfl
  refine bodyPost_ret (v := .agg #[.iface 203 (.pointer (some ⟨nd5, 0, none⟩)), .int .i32 0]) ?_ rfl ⟨nd5, rfl, hO.sub [6, 7, 0, 1, 2, 3, 8, 9, 5] (by decide)⟩
  simp [results, Tryd.results19, go_sem, z9_4_0, z9_4_1]
def nfrOPost (pb : Nat) (PC : Array Value) (sb c : Nat) (st : List Sy) (n cx : Nat) (XC : Array Value) (cc : Nat) (CC : Array Value) (nb xqa xqb xqc : Nat) (kd : Int) (i : Nat) (w0 : World) (X : Nat → Obj → Prop) (e : Ending) (w' : World) : Prop :=
  e = .returned (.tuple #[.int .u32 (i : Int), .bool true]) ∧ Own w0 w' [row (pb) 176 PC, row (sb) 199 (full symZ (symL (bump st i)) c), row (cx) 191 XC, row (cc) 182 CC, row (nb) 51 #[.int .i32 0, .int .u32 0, .int .u32 (i : Int)], row (xqa) 27 #[.pointer (some ⟨cx, 0, none⟩)], row (xqb) 25 #[.pointer (some ⟨pb, 0, none⟩)], row (xqc) 202 #[.pointer none, .int .u32 4294967295, .int .u32 4294967295, .int .u32 4294967295, .int .u32 4294967295, .bool false]] X
set_option maxRecDepth 100000 in
set_option maxHeartbeats 1000000 in
theorem nfrO (pb : Nat) (PC : Array Value) (sb c : Nat) (st : List Sy) (n cx : Nat) (XC : Array Value) (cc : Nat) (CC : Array Value) (nb xqa xqb xqc : Nat) (kd : Int) (i : Nat) (w0 w : World) (X : Nat → Obj → Prop) (hO : Own w0 w [row (pb) 176 PC, row (sb) 199 (full symZ (symL st) c), row (cx) 191 XC, row (cc) 182 CC, row (nb) 51 #[.int .i32 0, .int .u32 0, .int .u32 (i : Int)], row (xqa) 27 #[.pointer (some ⟨cx, 0, none⟩)], row (xqb) 25 #[.pointer (some ⟨pb, 0, none⟩)], row (xqc) 202 #[.pointer none, .int .u32 4294967295, .int .u32 4294967295, .int .u32 4294967295, .int .u32 4294967295, .bool false]] X) (hk350 : PC[350]? = some (.bool false)) (hk32 : PC[32]? = some (.bool false)) (hk105 : PC[105]? = some (.pointer none)) (hk106 : PC[106]? = some (.slice (some ⟨sb, 0, none⟩) n (n + c))) (hn : st.length = n) (hnb : n ≤ 4000000) (hu : ∃ s, st[i]? = some s ∧ s.uc < 4294967295) (hxk : XC[1]? = some (.int .u8 kd)) (hxc : XC[2]? = some (.pointer (some ⟨cc, 0, none⟩))) (hk0 : (kd == 0) = false) (hcn : CC[1]? = some (.pointer (some ⟨nb, 0, none⟩))) (hg0 : w0.cell? ⟨0, 0, none⟩ = some (.int .u32 4294967295)) (hg1 : w0.cell? ⟨0, 1, none⟩ = some (.int .u32 4294967295)) (hnf : XC[39]? = some (.func (Fn.func 19) #[] #[.pointer (some ⟨xqa, 0, none⟩), .pointer (some ⟨xqb, 0, none⟩), .pointer (some ⟨xqc, 0, none⟩)])) :
    Calls Tryd.prog 13 #[.pointer (some ⟨cx, 0, none⟩)] w (nfrOPost pb PC sb c st n cx XC cc CC nb xqa xqb xqc kd i w0 X) := by
  go_enter Tryd.func13, Tryd.ntmps13
  obtain ⟨ix9, hix9, hax9, hjx9⟩ := hO.ix
  have ix9_0 : ix9 pb = 0 := hjx9 0 _ _ rfl
  have ix9_1 : ix9 sb = 1 := hjx9 1 _ _ rfl
  have ix9_2 : ix9 cx = 2 := hjx9 2 _ _ rfl
  have ix9_3 : ix9 cc = 3 := hjx9 3 _ _ rfl
  have ix9_4 : ix9 nb = 4 := hjx9 4 _ _ rfl
  have ix9_5 : ix9 xqa = 5 := hjx9 5 _ _ rfl
  have ix9_6 : ix9 xqb = 6 := hjx9 6 _ _ rfl
  have ix9_7 : ix9 xqc = 7 := hjx9 7 _ _ rfl
  clear hjx9
  have c9_0_32 : w.cell? ⟨pb, 32, none⟩ = some (.bool false) := hO.cell 0 rfl (32) (hk32)
  have c9_0_105 : w.cell? ⟨pb, 105, none⟩ = some (.pointer none) := hO.cell 0 rfl (105) (hk105)
  have c9_0_106 : w.cell? ⟨pb, 106, none⟩ = some (.slice (some ⟨sb, 0, none⟩) n (n + c)) := hO.cell 0 rfl (106) (hk106)
  have c9_0_350 : w.cell? ⟨pb, 350, none⟩ = some (.bool false) := hO.cell 0 rfl (350) (hk350)
  have lt9_0 : pb < w.heap.size := hO.lt 0 rfl
  have y9_0 : ∀ o, w.frozen? ⟨pb, o, none⟩ = false := hO.free 0 rfl
  have c9_2_1 : w.cell? ⟨cx, 1, none⟩ = some (.int .u8 kd) := hO.cell 2 rfl (1) (hxk)
  have c9_2_2 : w.cell? ⟨cx, 2, none⟩ = some (.pointer (some ⟨cc, 0, none⟩)) := hO.cell 2 rfl (2) (hxc)
  have c9_2_39 : w.cell? ⟨cx, 39, none⟩ = some (.func (Fn.func 19) #[] #[.pointer (some ⟨xqa, 0, none⟩), .pointer (some ⟨xqb, 0, none⟩), .pointer (some ⟨xqc, 0, none⟩)]) := hO.cell 2 rfl (39) (hnf)
  have lt9_2 : cx < w.heap.size := hO.lt 2 rfl
  have y9_2 : ∀ o, w.frozen? ⟨cx, o, none⟩ = false := hO.free 2 rfl
  have c9_3_1 : w.cell? ⟨cc, 1, none⟩ = some (.pointer (some ⟨nb, 0, none⟩)) := hO.cell 3 rfl (1) (hcn)
  have lt9_3 : cc < w.heap.size := hO.lt 3 rfl
  have y9_3 : ∀ o, w.frozen? ⟨cc, o, none⟩ = false := hO.free 3 rfl
  obtain ⟨c9_4_0, c9_4_1, c9_4_2, lt9_4, y9_4, -⟩ := hO.k3 4 rfl
  obtain ⟨c9_5_0, lt9_5, y9_5, -⟩ := hO.k1 5 rfl
  obtain ⟨c9_6_0, lt9_6, y9_6, -⟩ := hO.k1 6 rfl
  obtain ⟨c9_7_0, c9_7_1, c9_7_2, c9_7_3, c9_7_4, c9_7_5, lt9_7, y9_7, -⟩ := hO.k6 7 rfl
  have HO := Lib.hid hO
  clear hO
  go_wp2_with (first | (with_reducible refine Own.stay (fn := Tryd.f13) ?_) | fail)
  try with_reducible refine Own.Stay.mk ?_
  have hO := HO.out
  clear HO hix9 hax9 ix9_0 ix9_1 ix9_2 ix9_3 ix9_4 ix9_5 ix9_6 ix9_7 ix9 c9_0_32 c9_0_105 c9_0_106 c9_0_350 lt9_0 y9_0 c9_2_1 c9_2_2 c9_2_39 lt9_2 y9_2 c9_3_1 lt9_3 y9_3 c9_4_0 c9_4_1 c9_4_2 lt9_4 y9_4 c9_5_0 lt9_5 y9_5 c9_6_0 lt9_6 y9_6 c9_7_0 c9_7_1 c9_7_2 c9_7_3 c9_7_4 c9_7_5 lt9_7 y9_7
  have hL := hO.apart
  have hX := hO.apartX
  have HL := Lib.hid hL
  have HX := Lib.hid hX
  clear hL hX
  have hP9 := hO.pick [0, 1, 2, 3, 4, 5, 6, 7] (by decide)
  have T9 := nameO pb PC sb c st n cx XC cc CC nb xqa xqb xqc kd i _ _ _ hP9 hk350 hk32 hk105 hk106 hn hnb hu hxk hxc hk0 hcn hg0 hg1
  refine Calls.mono T9 ?_
  clear hP9 T9
  rintro e u1 ⟨nd2, rfl, hQ⟩
  have hN : Own w0 u1 [row (pb) 176 PC, row (sb) 199 (full symZ (symL (bump st i)) c), row (cx) 191 XC, row (cc) 182 CC, row (nb) 51 #[.int .i32 0, .int .u32 0, .int .u32 (i : Int)], row (xqa) 27 #[.pointer (some ⟨cx, 0, none⟩)], row (xqb) 25 #[.pointer (some ⟨pb, 0, none⟩)], row (xqc) 202 #[.pointer none, .int .u32 4294967295, .int .u32 4294967295, .int .u32 4294967295, .int .u32 4294967295, .bool false], row (nd2) 206 #[.int .u32 0, .int .u32 (i : Int), .bool false, .bool false, .bool false]] X := hQ.back HL.out HX.out [] (by decide) (by decide)
  clear hQ HL HX hO
  have hO := hN
  clear hN
  obtain ⟨c9_4_0, c9_4_1, c9_4_2, lt9_4, y9_4, -⟩ := hO.k3 4 rfl
  obtain ⟨c9_5_0, lt9_5, y9_5, -⟩ := hO.k1 5 rfl
  obtain ⟨c9_6_0, lt9_6, y9_6, -⟩ := hO.k1 6 rfl
  obtain ⟨c9_7_0, c9_7_1, c9_7_2, c9_7_3, c9_7_4, c9_7_5, lt9_7, y9_7, -⟩ := hO.k6 7 rfl
  obtain ⟨c9_8_0, c9_8_1, c9_8_2, c9_8_3, c9_8_4, lt9_8, y9_8, -⟩ := hO.k5 8 rfl
  have HO := Lib.hid hO
  clear hO
  go_wp2_with (first | (with_reducible refine Own.stay (fn := Tryd.f13) ?_) | fail)
  try with_reducible refine Own.Stay.mk ?_
  have hO := HO.out
  clear HO c9_4_0 c9_4_1 c9_4_2 lt9_4 y9_4 c9_5_0 lt9_5 y9_5 c9_6_0 lt9_6 y9_6 c9_7_0 c9_7_1 c9_7_2 c9_7_3 c9_7_4 c9_7_5 lt9_7 y9_7 c9_8_0 c9_8_1 c9_8_2 c9_8_3 c9_8_4 lt9_8 y9_8
  refine bodyPost_ret (v := .tuple #[.int .u32 (i : Int), .bool true]) ?_ rfl ⟨rfl, hO.sub [0, 1, 2, 3, 4, 5, 6, 7] (by decide)⟩
  simp [results, Tryd.results13, go_sem]
def rND11E (cx : Nat) (XC : Array Value) (cc : Nat) (CC : Array Value) (xqa : Nat) : Nat → Rega.Atoms → Value
  | 0, α => .pointer (some ⟨cx, 0, none⟩)
  | 1, α => .pointer (some ⟨cx, 0, none⟩)
  | 2, α => .pointer (some ⟨cx, 2, none⟩)
  | 3, α => .pointer (some ⟨cc, 0, none⟩)
  | 4, α => .pointer (some ⟨cx, 0, none⟩)
  | 5, α => .pointer (some ⟨cx, 0, none⟩)
  | 6, α => .pointer (some ⟨cx, 6, none⟩)
  | 7, α => .pointer (some ⟨cc, 0, none⟩)
  | 8, α => .pointer (some ⟨cc, 1, none⟩)
  | 9, α => undef
  | _, _ => undef
def rND11Anc : Nat → List Nat
  | 1 => [0]
  | 2 => [0, 1]
  | 3 => [0, 1, 2]
  | 5 => [4]
  | 6 => [4, 5]
  | 7 => [0, 1, 2, 3, 4, 5, 6]
  | 8 => [0, 1, 2, 3, 4, 5, 6, 7]
  | 9 => [0, 1, 2, 3, 4, 5, 6, 7, 8]
  | _ => []
def rND11Trn : Nat → List Nat
  | 9 => [1999]
  | _ => []
def rND11Cnt : List (Nat × Nat) := []
def rND11T1999 (cx : Nat) (XC : Array Value) (cc : Nat) (CC : Array Value) (xqa : Nat) (L9 : Nat → Bool) (α : Rega.Atoms) : Rw := if L9 9 = true then row (cc) 182 (CC.setIfInBounds 1 (.pointer (some ⟨cx, 6, none⟩))) else row (cc) 182 CC
def rND11R (cx : Nat) (XC : Array Value) (cc : Nat) (CC : Array Value) (xqa : Nat) (L9 : Nat → Bool) (α : Rega.Atoms) (ix9 : Nat) : Rw := if ix9 = 999 then row (cx) 191 XC else if ix9 = 1999 then rND11T1999 cx XC cc CC xqa L9 α else if ix9 = 2999 then row (xqa) 27 #[.pointer (some ⟨cx, 0, none⟩)] else (0, .map #[] 0)
theorem rND11_he (cx : Nat) (XC : Array Value) (cc : Nat) (CC : Array Value) (xqa : Nat) : ∀ kk α α', (∀ j, (j % 1000 = kk ∨ j % 1000 ∈ rND11Anc kk) → α j = α' j) → rND11E cx XC cc CC xqa kk α = rND11E cx XC cc CC xqa kk α' := by
  intro kk α α' h
  match kk with
  | 0 => rfl
  | 1 => rfl
  | 2 => rfl
  | 3 => rfl
  | 4 => rfl
  | 5 => rfl
  | 6 => rfl
  | 7 => rfl
  | 8 => rfl
  | 9 => rfl
  | n + 10 => rfl
theorem rND11_st (cx : Nat) (XC : Array Value) (cc : Nat) (CC : Array Value) (xqa : Nat) : Stable rND11Cnt 3 rND11Anc rND11Trn (rND11R cx XC cc CC xqa) := by
  intro k9 L9 α α' ix9 hk hcl hα hact ht
  have hp := act_places hact
  replace hp : ix9 ∈ [999, 1999, 2999] := hp
  simp only [List.mem_cons, List.not_mem_nil, or_false] at hp
  rcases hp with rfl | rfl | rfl
  · rfl
  · show rND11T1999 cx XC cc CC xqa (Rega.ran L9 k9) α' = rND11T1999 cx XC cc CC xqa L9 α
    unfold rND11T1999
    have n9 : 9 ≠ k9 := fun e => ht (by rw [← e]; decide)
    rw [ran_ne n9]
  · rfl
def rND12E (pb : Nat) (PC : Array Value) (sb : Nat) (c : Nat) (st : List Sy) (cx : Nat) (XC : Array Value) (cc : Nat) (CC : Array Value) (xqa : Nat) (xqb : Nat) (i : Nat) : Nat → Rega.Atoms → Value
  | 0, α => .pointer (some ⟨pb, 0, none⟩)
  | 1, α => .pointer (some ⟨cx, 0, none⟩)
  | 2, α => .pointer (some ⟨cx, 0, none⟩)
  | 3, α => .pointer (some ⟨cx, 2, none⟩)
  | 4, α => .pointer (some ⟨cc, 0, none⟩)
  | 5, α => .pointer (some ⟨cc, 0, none⟩)
  | 6, α => .pointer (some ⟨cc, 1, none⟩)
  | 7, α => .pointer (some ⟨cx, 6, none⟩)
  | 8, α => .pointer (some ⟨cx, 6, none⟩)
  | 9, α => .pointer (some ⟨cx, 7, none⟩)
  | 10, α => .agg #[.int .u32 0, .int .u32 (i : Int)]
  | 11, α => .tuple #[]
  | _, _ => undef
def rND12Anc : Nat → List Nat
  | 2 => [1]
  | 3 => [1, 2]
  | 4 => [1, 2, 3]
  | 5 => [1, 2, 3, 4]
  | 6 => [1, 2, 3, 4, 5]
  | 7 => [1, 2, 3, 4, 5, 6]
  | 8 => [1, 2, 3, 4, 5, 6, 7]
  | 9 => [1, 2, 3, 4, 5, 6, 7, 8]
  | 10 => [1, 2, 3, 4, 5, 6, 7, 8, 9]
  | 11 => [0, 1, 2, 3, 4, 5, 6, 7, 8, 9, 10]
  | _ => []
def rND12Trn : Nat → List Nat
  | 11 => [4999]
  | _ => []
def rND12Cnt : List (Nat × Nat) := []
def rND12T4999 (pb : Nat) (PC : Array Value) (sb : Nat) (c : Nat) (st : List Sy) (cx : Nat) (XC : Array Value) (cc : Nat) (CC : Array Value) (xqa : Nat) (xqb : Nat) (i : Nat) (L9 : Nat → Bool) (α : Rega.Atoms) : Rw := if L9 11 = true then row (sb) 199 (full symZ (symL (bump st i)) c) else row (sb) 199 (full symZ (symL st) c)
def rND12R (pb : Nat) (PC : Array Value) (sb : Nat) (c : Nat) (st : List Sy) (cx : Nat) (XC : Array Value) (cc : Nat) (CC : Array Value) (xqa : Nat) (xqb : Nat) (i : Nat) (L9 : Nat → Bool) (α : Rega.Atoms) (ix9 : Nat) : Rw := if ix9 = 999 then row (cx) 191 XC else if ix9 = 1999 then row (cc) 182 (CC.setIfInBounds 1 (.pointer (some ⟨cx, 6, none⟩))) else if ix9 = 2999 then row (xqa) 27 #[.pointer (some ⟨cx, 0, none⟩)] else if ix9 = 3999 then row (pb) 176 PC else if ix9 = 4999 then rND12T4999 pb PC sb c st cx XC cc CC xqa xqb i L9 α else if ix9 = 5999 then row (xqb) 25 #[.pointer (some ⟨pb, 0, none⟩)] else (0, .map #[] 0)
theorem rND12_he (pb : Nat) (PC : Array Value) (sb : Nat) (c : Nat) (st : List Sy) (cx : Nat) (XC : Array Value) (cc : Nat) (CC : Array Value) (xqa : Nat) (xqb : Nat) (i : Nat) : ∀ kk α α', (∀ j, (j % 1000 = kk ∨ j % 1000 ∈ rND12Anc kk) → α j = α' j) → rND12E pb PC sb c st cx XC cc CC xqa xqb i kk α = rND12E pb PC sb c st cx XC cc CC xqa xqb i kk α' := by
  intro kk α α' h
  match kk with
  | 0 => rfl
  | 1 => rfl
  | 2 => rfl
  | 3 => rfl
  | 4 => rfl
  | 5 => rfl
  | 6 => rfl
  | 7 => rfl
  | 8 => rfl
  | 9 => rfl
  | 10 => rfl
  | 11 => rfl
  | n + 12 => rfl
theorem rND12_st (pb : Nat) (PC : Array Value) (sb : Nat) (c : Nat) (st : List Sy) (cx : Nat) (XC : Array Value) (cc : Nat) (CC : Array Value) (xqa : Nat) (xqb : Nat) (i : Nat) : Stable rND12Cnt 6 rND12Anc rND12Trn (rND12R pb PC sb c st cx XC cc CC xqa xqb i) := by
  intro k9 L9 α α' ix9 hk hcl hα hact ht
  have hp := act_places hact
  replace hp : ix9 ∈ [999, 1999, 2999, 3999, 4999, 5999] := hp
  simp only [List.mem_cons, List.not_mem_nil, or_false] at hp
  rcases hp with rfl | rfl | rfl | rfl | rfl | rfl
  · rfl
  · rfl
  · rfl
  · rfl
  · show rND12T4999 pb PC sb c st cx XC cc CC xqa xqb i (Rega.ran L9 k9) α' = rND12T4999 pb PC sb c st cx XC cc CC xqa xqb i L9 α
    unfold rND12T4999
    have n11 : 11 ≠ k9 := fun e => ht (by rw [← e]; decide)
    rw [ran_ne n11]
  · rfl
def rND13E (cx : Nat) (XC : Array Value) (cc : Nat) (CC : Array Value) (xqa : Nat) (i : Nat) (B1 : Nat) : Nat → Rega.Atoms → Value
  | 0, α => .pointer (some ⟨cx, 0, none⟩)
  | 1, α => .pointer (some ⟨cx, 0, none⟩)
  | 2, α => .pointer (some ⟨cx, 2, none⟩)
  | 3, α => .pointer (some ⟨cc, 0, none⟩)
  | 4, α => .pointer (some ⟨cc, 0, none⟩)
  | 5, α => .pointer (some ⟨cc, 1, none⟩)
  | 6, α => .pointer (some ⟨cx, 6, none⟩)
  | 7, α => .pointer (some ⟨cx, 6, none⟩)
  | 8, α => .pointer (some ⟨cx, 6, none⟩)
  | 9, α => .agg #[.int .i32 0]
  | 10, α => .pointer (some ⟨cx, 0, none⟩)
  | 11, α => .pointer (some ⟨cx, 0, none⟩)
  | 12, α => .pointer (some ⟨cx, 2, none⟩)
  | 13, α => .pointer (some ⟨cc, 0, none⟩)
  | 14, α => .pointer (some ⟨cc, 0, none⟩)
  | 15, α => .pointer (some ⟨cc, 1, none⟩)
  | 16, α => .pointer (some ⟨cx, 6, none⟩)
  | 17, α => .pointer (some ⟨cx, 6, none⟩)
  | 18, α => .pointer (some ⟨cx, 7, none⟩)
  | 19, α => .agg #[.int .u32 0, .int .u32 (i : Int)]
  | 20, α => .agg #[.int .u32 0, .int .u32 (i : Int), .bool false, .bool false, .bool false]
  | 21, α => .pointer (some ⟨α 21, 0, none⟩)
  | 22, α => .iface 203 (.pointer (some ⟨α 21, 0, none⟩))
  | 23, α => .agg #[.iface 203 (.pointer (some ⟨α 21, 0, none⟩)), .int .i32 0]
  | 24, α => undef
  | _, _ => undef
def rND13Anc : Nat → List Nat
  | 1 => [0]
  | 2 => [0, 1]
  | 3 => [0, 1, 2]
  | 4 => [0, 1, 2, 3]
  | 5 => [0, 1, 2, 3, 4]
  | 6 => [0, 1, 2, 3, 4, 5]
  | 7 => [0, 1, 2, 3, 4, 5, 6]
  | 8 => [0, 1, 2, 3, 4, 5, 6, 7]
  | 9 => [0, 1, 2, 3, 4, 5, 6, 7, 8]
  | 11 => [10]
  | 12 => [10, 11]
  | 13 => [10, 11, 12]
  | 14 => [10, 11, 12, 13]
  | 15 => [10, 11, 12, 13, 14]
  | 16 => [10, 11, 12, 13, 14, 15]
  | 17 => [10, 11, 12, 13, 14, 15, 16]
  | 18 => [10, 11, 12, 13, 14, 15, 16, 17]
  | 19 => [10, 11, 12, 13, 14, 15, 16, 17, 18]
  | 20 => [10, 11, 12, 13, 14, 15, 16, 17, 18, 19]
  | 21 => [10, 11, 12, 13, 14, 15, 16, 17, 18, 19, 20]
  | 22 => [10, 11, 12, 13, 14, 15, 16, 17, 18, 19, 20, 21]
  | 23 => [0, 1, 2, 3, 4, 5, 6, 7, 8, 9, 10, 11, 12, 13, 14, 15, 16, 17, 18, 19, 20, 21, 22]
  | 24 => [0, 1, 2, 3, 4, 5, 6, 7, 8, 9, 10, 11, 12, 13, 14, 15, 16, 17, 18, 19, 20, 21, 22, 23]
  | _ => []
def rND13Trn : Nat → List Nat
  | 24 => [3999]
  | _ => []
def rND13Cnt : List (Nat × Nat) := [(21, 1)]
def rND13T3999 (cx : Nat) (XC : Array Value) (cc : Nat) (CC : Array Value) (xqa : Nat) (i : Nat) (B1 : Nat) (L9 : Nat → Bool) (α : Rega.Atoms) : Rw := if L9 24 = true then row (B1) 155 #[.iface 203 (.pointer (some ⟨α 21, 0, none⟩)), .int .i32 0] else row (B1) 155 #[.nilIface, .int .i32 0]
def rND13R (cx : Nat) (XC : Array Value) (cc : Nat) (CC : Array Value) (xqa : Nat) (i : Nat) (B1 : Nat) (L9 : Nat → Bool) (α : Rega.Atoms) (ix9 : Nat) : Rw := if ix9 = 999 then row (cx) 191 XC else if ix9 = 1999 then row (cc) 182 (CC.setIfInBounds 1 (.pointer (some ⟨cx, 6, none⟩))) else if ix9 = 2999 then row (xqa) 27 #[.pointer (some ⟨cx, 0, none⟩)] else if ix9 = 3999 then rND13T3999 cx XC cc CC xqa i B1 L9 α else if ix9 = 21 then row (α 21) 206 #[.int .u32 0, .int .u32 (i : Int), .bool false, .bool false, .bool false] else (0, .map #[] 0)
theorem rND13_he (cx : Nat) (XC : Array Value) (cc : Nat) (CC : Array Value) (xqa : Nat) (i : Nat) (B1 : Nat) : ∀ kk α α', (∀ j, (j % 1000 = kk ∨ j % 1000 ∈ rND13Anc kk) → α j = α' j) → rND13E cx XC cc CC xqa i B1 kk α = rND13E cx XC cc CC xqa i B1 kk α' := by
  intro kk α α' h
  match kk with
  | 0 => rfl
  | 1 => rfl
  | 2 => rfl
  | 3 => rfl
  | 4 => rfl
  | 5 => rfl
  | 6 => rfl
  | 7 => rfl
  | 8 => rfl
  | 9 => rfl
  | 10 => rfl
  | 11 => rfl
  | 12 => rfl
  | 13 => rfl
  | 14 => rfl
  | 15 => rfl
  | 16 => rfl
  | 17 => rfl
  | 18 => rfl
  | 19 => rfl
  | 20 => rfl
  | 21 => simp only [rND13E, h 21 (Or.inl rfl)]
  | 22 => simp only [rND13E, h 21 (Or.inr (by decide))]
  | 23 => simp only [rND13E, h 21 (Or.inr (by decide))]
  | 24 => rfl
  | n + 25 => rfl
theorem rND13_st (cx : Nat) (XC : Array Value) (cc : Nat) (CC : Array Value) (xqa : Nat) (i : Nat) (B1 : Nat) : Stable rND13Cnt 4 rND13Anc rND13Trn (rND13R cx XC cc CC xqa i B1) := by
  intro k9 L9 α α' ix9 hk hcl hα hact ht
  have hp := act_places hact
  replace hp : ix9 ∈ [999, 1999, 2999, 3999, 21] := hp
  simp only [List.mem_cons, List.not_mem_nil, or_false] at hp
  rcases hp with rfl | rfl | rfl | rfl | rfl
  · rfl
  · rfl
  · rfl
  · show rND13T3999 cx XC cc CC xqa i B1 (Rega.ran L9 k9) α' = rND13T3999 cx XC cc CC xqa i B1 L9 α
    unfold rND13T3999
    have n24 : 24 ≠ k9 := fun e => ht (by rw [← e]; decide)
    rw [ran_ne n24]
    by_cases e24 : L9 24 = true
    · first | rw [if_pos e24, if_pos e24] | rw [if_pos e24]
      try simp only [hα 21 (ne_ran hk (hcl 24 e24 21 (by decide)))]
    first | rw [if_neg e24, if_neg e24] | rw [if_neg e24]
  · have e0 : L9 21 = true := act_lt hact (by decide)
    show row (α' 21) 206 #[.int .u32 0, .int .u32 (i : Int), .bool false, .bool false, .bool false] = row (α 21) 206 #[.int .u32 0, .int .u32 (i : Int), .bool false, .bool false, .bool false]
    simp only [hα 21 (ne_ran hk e0)]
def nameD1Post (pb : Nat) (PC : Array Value) (sb c : Nat) (st : List Sy) (n cx : Nat) (XC : Array Value) (cc : Nat) (CC : Array Value) (xqa xqb xqc i : Nat) (w0 : World) (X : Nat → Obj → Prop) (e : Ending) (w' : World) : Prop :=
  ∃ b : Nat, e = .returned (.agg #[.iface 203 (.pointer (some ⟨b, 0, none⟩)), .int .i32 0]) ∧ Own w0 w' [row (pb) 176 PC, row (sb) 199 (full symZ (symL (bump st i)) c), row (cx) 191 XC, row (cc) 182 (CC.setIfInBounds 1 (.pointer (some ⟨cx, 6, none⟩))), row (xqa) 27 #[.pointer (some ⟨cx, 0, none⟩)], row (xqb) 25 #[.pointer (some ⟨pb, 0, none⟩)], row (xqc) 202 #[.pointer none, .int .u32 4294967295, .int .u32 4294967295, .int .u32 4294967295, .int .u32 4294967295, .bool false], row (b) 206 #[.int .u32 0, .int .u32 (i : Int), .bool false, .bool false, .bool false]] X
set_option maxRecDepth 100000 in
set_option maxHeartbeats 1000000 in
theorem nameD1 (pb : Nat) (PC : Array Value) (sb c : Nat) (st : List Sy) (n cx : Nat) (XC : Array Value) (cc : Nat) (CC : Array Value) (xqa xqb xqc i : Nat) (w0 w : World) (X : Nat → Obj → Prop) (hO : Own w0 w [row (pb) 176 PC, row (sb) 199 (full symZ (symL st) c), row (cx) 191 XC, row (cc) 182 CC, row (xqa) 27 #[.pointer (some ⟨cx, 0, none⟩)], row (xqb) 25 #[.pointer (some ⟨pb, 0, none⟩)], row (xqc) 202 #[.pointer none, .int .u32 4294967295, .int .u32 4294967295, .int .u32 4294967295, .int .u32 4294967295, .bool false]] X) (hk350 : PC[350]? = some (.bool false)) (hk32 : PC[32]? = some (.bool false)) (hk105 : PC[105]? = some (.pointer none)) (hk106 : PC[106]? = some (.slice (some ⟨sb, 0, none⟩) n (n + c))) (hn : st.length = n) (hnb : n ≤ 4000000) (hu : ∃ s, st[i]? = some s ∧ s.uc < 4294967295) (hxk : XC[1]? = some (.int .u8 3)) (hxc : XC[2]? = some (.pointer (some ⟨cc, 0, none⟩))) (hcn : CC[1]? = some (.pointer none)) (hd0 : XC[6]? = some (.int .i32 0)) (hd1 : XC[7]? = some (.int .u32 0)) (hd2 : XC[8]? = some (.int .u32 (i : Int))) (hg0 : w0.cell? ⟨0, 0, none⟩ = some (.int .u32 4294967295)) (hg1 : w0.cell? ⟨0, 1, none⟩ = some (.int .u32 4294967295)) :
    Calls Tryd.prog 19 #[.pointer (some ⟨xqa, 0, none⟩), .pointer (some ⟨xqb, 0, none⟩), .pointer (some ⟨xqc, 0, none⟩)] w (nameD1Post pb PC sb c st n cx XC cc CC xqa xqb xqc i w0 X) := by
  go_enter Tryd.func19, Tryd.ntmps19
  obtain ⟨ix9, hix9, hax9, hjx9⟩ := hO.ix
  have ix9_0 : ix9 pb = 0 := hjx9 0 _ _ rfl
  have ix9_1 : ix9 sb = 1 := hjx9 1 _ _ rfl
  have ix9_2 : ix9 cx = 2 := hjx9 2 _ _ rfl
  have ix9_3 : ix9 cc = 3 := hjx9 3 _ _ rfl
  have ix9_4 : ix9 xqa = 4 := hjx9 4 _ _ rfl
  have ix9_5 : ix9 xqb = 5 := hjx9 5 _ _ rfl
  have ix9_6 : ix9 xqc = 6 := hjx9 6 _ _ rfl
  clear hjx9
  have c9_0_32 : w.cell? ⟨pb, 32, none⟩ = some (.bool false) := hO.cell 0 rfl (32) (hk32)
  have c9_0_105 : w.cell? ⟨pb, 105, none⟩ = some (.pointer none) := hO.cell 0 rfl (105) (hk105)
  have c9_0_106 : w.cell? ⟨pb, 106, none⟩ = some (.slice (some ⟨sb, 0, none⟩) n (n + c)) := hO.cell 0 rfl (106) (hk106)
  have c9_0_350 : w.cell? ⟨pb, 350, none⟩ = some (.bool false) := hO.cell 0 rfl (350) (hk350)
  have lt9_0 : pb < w.heap.size := hO.lt 0 rfl
  have y9_0 : ∀ o, w.frozen? ⟨pb, o, none⟩ = false := hO.free 0 rfl
  have c9_2_1 : w.cell? ⟨cx, 1, none⟩ = some (.int .u8 3) := hO.cell 2 rfl (1) (hxk)
  have c9_2_2 : w.cell? ⟨cx, 2, none⟩ = some (.pointer (some ⟨cc, 0, none⟩)) := hO.cell 2 rfl (2) (hxc)
  have c9_2_6 : w.cell? ⟨cx, 6, none⟩ = some (.int .i32 0) := hO.cell 2 rfl (6) (hd0)
  have c9_2_7 : w.cell? ⟨cx, 7, none⟩ = some (.int .u32 0) := hO.cell 2 rfl (7) (hd1)
  have c9_2_8 : w.cell? ⟨cx, 8, none⟩ = some (.int .u32 (i : Int)) := hO.cell 2 rfl (8) (hd2)
  have lt9_2 : cx < w.heap.size := hO.lt 2 rfl
  have y9_2 : ∀ o, w.frozen? ⟨cx, o, none⟩ = false := hO.free 2 rfl
  have c9_3_1 : w.cell? ⟨cc, 1, none⟩ = some (.pointer none) := hO.cell 3 rfl (1) (hcn)
  have lt9_3 : cc < w.heap.size := hO.lt 3 rfl
  have y9_3 : ∀ o, w.frozen? ⟨cc, o, none⟩ = false := hO.free 3 rfl
  obtain ⟨c9_4_0, lt9_4, y9_4, -⟩ := hO.k1 4 rfl
  obtain ⟨c9_5_0, lt9_5, y9_5, -⟩ := hO.k1 5 rfl
  obtain ⟨c9_6_0, c9_6_1, c9_6_2, c9_6_3, c9_6_4, c9_6_5, lt9_6, y9_6, -⟩ := hO.k6 6 rfl
  have HO := Lib.hid hO
  clear hO
  have gw9_0_0 : w.cell? ⟨0, 0, none⟩ = some (.int .u32 4294967295) := Base.cell_below HO.out.below (Base.block_of_cell hg0) hg0
  have gw9_0_1 : w.cell? ⟨0, 1, none⟩ = some (.int .u32 4294967295) := Base.cell_below HO.out.below (Base.block_of_cell hg1) hg1
  have gl9_0 : 0 < w.heap.size := Base.block_of_cell gw9_0_0
  go_wp2_with (first | (with_reducible refine Own.stay (fn := Tryd.f19) ?_) | fail)
  try with_reducible refine Own.Stay.mk ?_
  have hO := HO.out
  clear HO hix9 hax9 ix9_0 ix9_1 ix9_2 ix9_3 ix9_4 ix9_5 ix9_6 ix9 gw9_0_0 gw9_0_1 gl9_0 c9_0_32 c9_0_105 c9_0_106 c9_0_350 lt9_0 y9_0 c9_2_1 c9_2_2 c9_2_6 c9_2_7 c9_2_8 lt9_2 y9_2 c9_3_1 lt9_3 y9_3 c9_4_0 lt9_4 y9_4 c9_5_0 lt9_5 y9_5 c9_6_0 c9_6_1 c9_6_2 c9_6_3 c9_6_4 c9_6_5 lt9_6 y9_6
  generalize hW : World.alloc _ _ = W2
  have hN : Own w0 W2 [row (w.heap.size) 155 #[.nilIface, .int .i32 0], row (pb) 176 PC, row (sb) 199 (full symZ (symL st) c), row (cx) 191 XC, row (cc) 182 CC, row (xqa) 27 #[.pointer (some ⟨cx, 0, none⟩)], row (xqb) 25 #[.pointer (some ⟨pb, 0, none⟩)], row (xqc) 202 #[.pointer none, .int .u32 4294967295, .int .u32 4294967295, .int .u32 4294967295, .int .u32 4294967295, .bool false]] X := by
    rw [← hW]
    exact (hO).alloc' _ (w.heap.size) (by simp)
  clear hW hO
  generalize w.heap.size = B1 at hN ⊢
  have hO := hN
  clear hN
  have hL := hO.apart
  have hX := hO.apartX
  have HL := Lib.hid hL
  have HX := Lib.hid hX
  clear hL hX
  have hP9 := hO.pick [3, 4, 5] (by decide)
  generalize hX9_3 : Own.Rest _ _ X = X9_3 at hP9
  replace hP9 : Own w0 W2 [row (cx) 191 XC, row (cc) 182 CC, row (xqa) 27 #[.pointer (some ⟨cx, 0, none⟩)]] X9_3 := hP9
  clear hO
  have hO := hP9
  clear hP9
  have st9 := rND11_st cx XC cc CC xqa
  let R9 := rND11R cx XC cc CC xqa
  refine wp_region_own (e := rND11E cx XC cc CC xqa) (anc := rND11Anc) (G := (fun L9 α u9 => OwnF w0 u9 (act rND11Cnt 3 L9) (rND11R cx XC cc CC xqa L9 α) X9_3)) (by kernel_rfl) (by kernel_rfl) (by kernel_rfl) (by kernel_rfl) (rND11_he cx XC cc CC xqa) ?_ (RunsAll.all ?_) ?_
  · have hp : ∀ i, act rND11Cnt 3 (fun _ => false) i → i ∈ [999, 1999, 2999] := by
      intro i hi
      have h9 : i % 1000 = 999 := by
        by_cases h : i % 1000 = 999
        · exact h
        · exact absurd (act_lt hi h) (by simp)
      unfold act at hi
      rw [if_pos h9] at hi
      simp only [List.mem_cons, List.not_mem_nil, or_false]
      omega
    refine hO.drew.family (fun i hi => ?_) (fun i j hi hj hij => ?_)
    · have := hp i hi
      simp only [List.mem_cons, List.not_mem_nil, or_false] at this
      rcases this with rfl | rfl | rfl <;> rfl
    · have h1 := hp i hi
      have h2 := hp j hj
      simp only [List.mem_cons, List.not_mem_nil, or_false] at h1 h2
      omega
  · refine ⟨?_, ?_, ?_, ?_, ?_, ?_, ?_, ?_, ?_, ?_, trivial⟩
    · intro L9 α a9 u9 K9 hL hcl hA hG hS h0 hK
      replace hL : L9 0 = false := hL
      have q0 : a9.tmps[0]? = some (.pointer (some ⟨xqa, 0, none⟩)) := (h0 0 (by kernel_rfl)).trans rfl
      have s0 := Rega.eval_of q0
      have e0 : R9 L9 α 2999 = row (xqa) 27 #[.pointer (some ⟨cx, 0, none⟩)] := rfl
      have hr := hG.rowAt 2999 (act_base 2999 rfl) e0
      have c0 : u9.cell? ⟨xqa, 0, none⟩ = some (.pointer (some ⟨cx, 0, none⟩)) := hr.cell rfl
      clear hr e0
      go_simp
      exact hK _ α _ (fun _ _ => rfl) rfl (step_same (st9) hL hcl rfl rfl hG)
    · intro L9 α a9 u9 K9 hL hcl hA hG hS h0 hK
      replace hL : L9 1 = false := hL
      have q133 : a9.tmps[133]? = some (.pointer (some ⟨cx, 0, none⟩)) := hS 0 133 (by decide) rfl (by show 133 < 192; decide)
      have s133 := Rega.eval_of q133
      go_simp
      exact hK _ α _ (fun _ _ => rfl) rfl (step_same (st9) hL hcl rfl rfl hG)
    · intro L9 α a9 u9 K9 hL hcl hA hG hS h0 hK
      replace hL : L9 2 = false := hL
      have q134 : a9.tmps[134]? = some (.pointer (some ⟨cx, 0, none⟩)) := hS 1 134 (by decide) rfl (by show 134 < 192; decide)
      have s134 := Rega.eval_of q134
      go_simp
      exact hK _ α _ (fun _ _ => rfl) rfl (step_same (st9) hL hcl rfl rfl hG)
    · intro L9 α a9 u9 K9 hL hcl hA hG hS h0 hK
      replace hL : L9 3 = false := hL
      have q135 : a9.tmps[135]? = some (.pointer (some ⟨cx, 2, none⟩)) := hS 2 135 (by decide) rfl (by show 135 < 192; decide)
      have s135 := Rega.eval_of q135
      have e0 : R9 L9 α 999 = row (cx) 191 XC := rfl
      have hr := hG.rowAt 999 (act_base 999 rfl) e0
      have c0 : u9.cell? ⟨cx, 2, none⟩ = some (.pointer (some ⟨cc, 0, none⟩)) := hr.cell (hxc)
      clear hr e0
      go_simp
      exact hK _ α _ (fun _ _ => rfl) rfl (step_same (st9) hL hcl rfl rfl hG)
    · intro L9 α a9 u9 K9 hL hcl hA hG hS h0 hK
      replace hL : L9 4 = false := hL
      have q0 : a9.tmps[0]? = some (.pointer (some ⟨xqa, 0, none⟩)) := (h0 0 (by kernel_rfl)).trans rfl
      have s0 := Rega.eval_of q0
      have e0 : R9 L9 α 2999 = row (xqa) 27 #[.pointer (some ⟨cx, 0, none⟩)] := rfl
      have hr := hG.rowAt 2999 (act_base 2999 rfl) e0
      have c0 : u9.cell? ⟨xqa, 0, none⟩ = some (.pointer (some ⟨cx, 0, none⟩)) := hr.cell rfl
      clear hr e0
      go_simp
      exact hK _ α _ (fun _ _ => rfl) rfl (step_same (st9) hL hcl rfl rfl hG)
    · intro L9 α a9 u9 K9 hL hcl hA hG hS h0 hK
      replace hL : L9 5 = false := hL
      have q137 : a9.tmps[137]? = some (.pointer (some ⟨cx, 0, none⟩)) := hS 4 137 (by decide) rfl (by show 137 < 192; decide)
      have s137 := Rega.eval_of q137
      go_simp
      exact hK _ α _ (fun _ _ => rfl) rfl (step_same (st9) hL hcl rfl rfl hG)
    · intro L9 α a9 u9 K9 hL hcl hA hG hS h0 hK
      replace hL : L9 6 = false := hL
      have q138 : a9.tmps[138]? = some (.pointer (some ⟨cx, 0, none⟩)) := hS 5 138 (by decide) rfl (by show 138 < 192; decide)
      have s138 := Rega.eval_of q138
      go_simp
      exact hK _ α _ (fun _ _ => rfl) rfl (step_same (st9) hL hcl rfl rfl hG)
    · intro L9 α a9 u9 K9 hL hcl hA hG hS h0 hK
      replace hL : L9 7 = false := hL
      have q136 : a9.tmps[136]? = some (.pointer (some ⟨cc, 0, none⟩)) := hS 3 136 (by decide) rfl (by show 136 < 192; decide)
      have s136 := Rega.eval_of q136
      go_simp
      exact hK _ α _ (fun _ _ => rfl) rfl (step_same (st9) hL hcl rfl rfl hG)
    · intro L9 α a9 u9 K9 hL hcl hA hG hS h0 hK
      replace hL : L9 8 = false := hL
      have q140 : a9.tmps[140]? = some (.pointer (some ⟨cc, 0, none⟩)) := hS 7 140 (by decide) rfl (by show 140 < 192; decide)
      have s140 := Rega.eval_of q140
      go_simp
      exact hK _ α _ (fun _ _ => rfl) rfl (step_same (st9) hL hcl rfl rfl hG)
    · intro L9 α a9 u9 K9 hL hcl hA hG hS h0 hK
      replace hL : L9 9 = false := hL
      have q141 : a9.tmps[141]? = some (.pointer (some ⟨cc, 1, none⟩)) := hS 8 141 (by decide) rfl (by show 141 < 192; decide)
      have s141 := Rega.eval_of q141
      have q139 : a9.tmps[139]? = some (.pointer (some ⟨cx, 6, none⟩)) := hS 6 139 (by decide) rfl (by show 139 < 192; decide)
      have s139 := Rega.eval_of q139
      have e0 : R9 L9 α 1999 = row (cc) 182 CC := by
        show rND11T1999 cx XC cc CC xqa L9 α = _
        unfold rND11T1999
        rw [if_neg (by rw [hL]; decide)]
      have hr := hG.rowAt 1999 (act_base 1999 rfl) e0
      have c0 : u9.cell? ⟨cc, 1, none⟩ = some (.pointer none) := hr.cell (hcn)
      have y0 : u9.frozen? ⟨cc, 1, none⟩ = false := hr.free (1)
      clear hr
      have E0 := Lib.hid e0
      clear e0
      go_simp
      have e1 : R9 (Rega.ran L9 9) α 1999 = row (cc) 182 (CC.setIfInBounds 1 (.pointer (some ⟨cx, 6, none⟩))) := by
        show rND11T1999 cx XC cc CC xqa (Rega.ran L9 9) α = _
        unfold rND11T1999
        rw [if_pos (show Rega.ran L9 9 9 = true from rfl)]
      exact hK _ α _ (fun _ _ => rfl) rfl (step_sets (st9) hL hcl rfl 1999 rfl (act_base 1999 rfl) E0.out (1) [.pointer (some ⟨cx, 6, none⟩)] (e1.trans rfl) hG)
  clear st9
  intro α u hG
  have e0 : R9 (fun k => decide (k < 10)) α 999 = row (cx) 191 XC := rfl
  have e1 : R9 (fun k => decide (k < 10)) α 1999 = row (cc) 182 (CC.setIfInBounds 1 (.pointer (some ⟨cx, 6, none⟩))) := by
    show rND11T1999 cx XC cc CC xqa (fun k => decide (k < 10)) α = _
    unfold rND11T1999
    rw [if_pos (by decide)]
  have e2 : R9 (fun k => decide (k < 10)) α 2999 = row (xqa) 27 #[.pointer (some ⟨cx, 0, none⟩)] := rfl
  have hO : Own w0 u [row (cx) 191 XC, row (cc) 182 (CC.setIfInBounds 1 (.pointer (some ⟨cx, 6, none⟩))), row (xqa) 27 #[.pointer (some ⟨cx, 0, none⟩)]] X9_3 := (hG.list [999, 1999, 2999] (by decide) (act_all (by decide))).conv (by
    show [R9 (fun k => decide (k < 10)) α 999, R9 (fun k => decide (k < 10)) α 1999, R9 (fun k => decide (k < 10)) α 2999] = _
    rw [e0, e1, e2])
  clear hG e0 e1 e2 R9
  generalize hfr : Rega.frameAt _ _ _ _ _ = fr
  have hdf : fr = ⟨#[.pointer (some ⟨xqa, 0, none⟩), .pointer (some ⟨xqb, 0, none⟩), .pointer (some ⟨xqc, 0, none⟩), .pointer (some ⟨B1, 0, none⟩), undef, undef, .pointer (some ⟨cx, 0, none⟩), .pointer (some ⟨cx, 0, none⟩), .pointer (some ⟨cx, 1, none⟩), .int .u8 3, .bool false, undef, undef, undef, undef, undef, undef, undef, undef, undef, undef, undef, undef, undef, undef, undef, undef, undef, undef, undef, undef, undef, undef, undef, undef, undef, undef, undef, undef, undef, undef, undef, undef, undef, undef, undef, undef, undef, undef, undef, undef, undef, undef, undef, undef, undef, undef, undef, undef, undef, undef, undef, undef, undef, undef, undef, undef, undef, undef, undef, undef, undef, undef, undef, undef, undef, undef, undef, undef, undef, undef, undef, undef, undef, undef, undef, undef, undef, undef, undef, undef, undef, undef, undef, undef, undef, .pointer (some ⟨xqc, 1, none⟩), .agg #[.int .u32 4294967295, .int .u32 4294967295], .agg #[.int .u32 4294967295, .int .u32 4294967295], .bool false, undef, undef, undef, undef, undef, undef, undef, undef, undef, undef, undef, undef, undef, undef, undef, undef, undef, undef, undef, undef, .pointer (some ⟨cx, 0, none⟩), .pointer (some ⟨cx, 0, none⟩), .pointer (some ⟨cx, 2, none⟩), .pointer (some ⟨cc, 0, none⟩), .pointer (some ⟨cc, 0, none⟩), .pointer (some ⟨cc, 1, none⟩), .pointer none, .bool true, .pointer (some ⟨cx, 0, none⟩), .pointer (some ⟨cx, 0, none⟩), .pointer (some ⟨cx, 1, none⟩), .int .u8 3, .bool true, .pointer (some ⟨cx, 0, none⟩), .pointer (some ⟨cx, 0, none⟩), .pointer (some ⟨cx, 2, none⟩), .pointer (some ⟨cc, 0, none⟩), .pointer (some ⟨cx, 0, none⟩), .pointer (some ⟨cx, 0, none⟩), .pointer (some ⟨cx, 6, none⟩), .pointer (some ⟨cc, 0, none⟩), .pointer (some ⟨cc, 1, none⟩), undef, undef, undef, undef, undef, undef, undef, undef, undef, undef, undef, undef, undef, undef, undef, undef, undef, undef, undef, undef, undef, undef, undef, undef, undef, undef, undef, undef, undef, undef, undef, undef, undef, undef, undef, undef, undef, undef, undef, undef, undef, undef, undef, undef, undef, undef, undef, undef, undef, undef], []⟩ := by rw [← hfr]; kernel_rfl
  clear hfr
  subst hdf
  clear α
  subst hX9_3
  have hN : Own w0 u [row (cx) 191 XC, row (cc) 182 (CC.setIfInBounds 1 (.pointer (some ⟨cx, 6, none⟩))), row (xqa) 27 #[.pointer (some ⟨cx, 0, none⟩)], row (B1) 155 #[.nilIface, .int .i32 0], row (pb) 176 PC, row (sb) 199 (full symZ (symL st) c), row (xqb) 25 #[.pointer (some ⟨pb, 0, none⟩)], row (xqc) 202 #[.pointer none, .int .u32 4294967295, .int .u32 4294967295, .int .u32 4294967295, .int .u32 4294967295, .bool false]] X := hO.back HL.out HX.out [0, 1, 2, 6, 7] (by decide) (by decide)
  clear hO HL HX
  have hO := hN
  clear hN
  obtain ⟨c9_2_0, lt9_2, y9_2, -⟩ := hO.k1 2 rfl
  obtain ⟨c9_3_0, c9_3_1, lt9_3, y9_3, -⟩ := hO.k2 3 rfl
  obtain ⟨c9_6_0, lt9_6, y9_6, -⟩ := hO.k1 6 rfl
  obtain ⟨c9_7_0, c9_7_1, c9_7_2, c9_7_3, c9_7_4, c9_7_5, lt9_7, y9_7, -⟩ := hO.k6 7 rfl
  have HO := Lib.hid hO
  clear hO
  have gw9_0_0 : u.cell? ⟨0, 0, none⟩ = some (.int .u32 4294967295) := Base.cell_below HO.out.below (Base.block_of_cell hg0) hg0
  have gw9_0_1 : u.cell? ⟨0, 1, none⟩ = some (.int .u32 4294967295) := Base.cell_below HO.out.below (Base.block_of_cell hg1) hg1
  have gl9_0 : 0 < u.heap.size := Base.block_of_cell gw9_0_0
  go_wp2_with (first | (with_reducible refine Own.stay (fn := Tryd.f19) ?_) | fail)
  try with_reducible refine Own.Stay.mk ?_
  have hO := HO.out
  clear HO gw9_0_0 gw9_0_1 gl9_0 c9_2_0 lt9_2 y9_2 c9_3_0 c9_3_1 lt9_3 y9_3 c9_6_0 lt9_6 y9_6 c9_7_0 c9_7_1 c9_7_2 c9_7_3 c9_7_4 c9_7_5 lt9_7 y9_7
  have hL := hO.apart
  have hX := hO.apartX
  have HL := Lib.hid hL
  have HX := Lib.hid hX
  clear hL hX
  have hP9 := hO.pick [0, 1, 2, 4, 5, 6] (by decide)
  generalize hX9_4 : Own.Rest _ _ X = X9_4 at hP9
  replace hP9 : Own w0 u [row (cx) 191 XC, row (cc) 182 (CC.setIfInBounds 1 (.pointer (some ⟨cx, 6, none⟩))), row (xqa) 27 #[.pointer (some ⟨cx, 0, none⟩)], row (pb) 176 PC, row (sb) 199 (full symZ (symL st) c), row (xqb) 25 #[.pointer (some ⟨pb, 0, none⟩)]] X9_4 := hP9
  clear hO
  have hO := hP9
  clear hP9
  have st9 := rND12_st pb PC sb c st cx XC cc CC xqa xqb i
  let R9 := rND12R pb PC sb c st cx XC cc CC xqa xqb i
  refine wp_region_own (e := rND12E pb PC sb c st cx XC cc CC xqa xqb i) (anc := rND12Anc) (G := (fun L9 α u9 => OwnF w0 u9 (act rND12Cnt 6 L9) (rND12R pb PC sb c st cx XC cc CC xqa xqb i L9 α) X9_4)) (by kernel_rfl) (by kernel_rfl) (by kernel_rfl) (by kernel_rfl) (rND12_he pb PC sb c st cx XC cc CC xqa xqb i) ?_ (RunsAll.all ?_) ?_
  · have hp : ∀ i, act rND12Cnt 6 (fun _ => false) i → i ∈ [999, 1999, 2999, 3999, 4999, 5999] := by
      intro i hi
      have h9 : i % 1000 = 999 := by
        by_cases h : i % 1000 = 999
        · exact h
        · exact absurd (act_lt hi h) (by simp)
      unfold act at hi
      rw [if_pos h9] at hi
      simp only [List.mem_cons, List.not_mem_nil, or_false]
      omega
    refine hO.drew.family (fun i hi => ?_) (fun i j hi hj hij => ?_)
    · have := hp i hi
      simp only [List.mem_cons, List.not_mem_nil, or_false] at this
      rcases this with rfl | rfl | rfl | rfl | rfl | rfl <;> rfl
    · have h1 := hp i hi
      have h2 := hp j hj
      simp only [List.mem_cons, List.not_mem_nil, or_false] at h1 h2
      omega
  · refine ⟨?_, ?_, ?_, ?_, ?_, ?_, ?_, ?_, ?_, ?_, ?_, ?_, trivial⟩
    · intro L9 α a9 u9 K9 hL hcl hA hG hS h0 hK
      replace hL : L9 0 = false := hL
      have q1 : a9.tmps[1]? = some (.pointer (some ⟨xqb, 0, none⟩)) := (h0 1 (by kernel_rfl)).trans rfl
      have s1 := Rega.eval_of q1
      have e0 : R9 L9 α 5999 = row (xqb) 25 #[.pointer (some ⟨pb, 0, none⟩)] := rfl
      have hr := hG.rowAt 5999 (act_base 5999 rfl) e0
      have c0 : u9.cell? ⟨xqb, 0, none⟩ = some (.pointer (some ⟨pb, 0, none⟩)) := hr.cell rfl
      clear hr e0
      go_simp
      exact hK _ α _ (fun _ _ => rfl) rfl (step_same (st9) hL hcl rfl rfl hG)
    · intro L9 α a9 u9 K9 hL hcl hA hG hS h0 hK
      replace hL : L9 1 = false := hL
      have q0 : a9.tmps[0]? = some (.pointer (some ⟨xqa, 0, none⟩)) := (h0 0 (by kernel_rfl)).trans rfl
      have s0 := Rega.eval_of q0
      have e0 : R9 L9 α 2999 = row (xqa) 27 #[.pointer (some ⟨cx, 0, none⟩)] := rfl
      have hr := hG.rowAt 2999 (act_base 2999 rfl) e0
      have c0 : u9.cell? ⟨xqa, 0, none⟩ = some (.pointer (some ⟨cx, 0, none⟩)) := hr.cell rfl
      clear hr e0
      go_simp
      exact hK _ α _ (fun _ _ => rfl) rfl (step_same (st9) hL hcl rfl rfl hG)
    · intro L9 α a9 u9 K9 hL hcl hA hG hS h0 hK
      replace hL : L9 2 = false := hL
      have q157 : a9.tmps[157]? = some (.pointer (some ⟨cx, 0, none⟩)) := hS 1 157 (by decide) rfl (by show 157 < 192; decide)
      have s157 := Rega.eval_of q157
      go_simp
      exact hK _ α _ (fun _ _ => rfl) rfl (step_same (st9) hL hcl rfl rfl hG)
    · intro L9 α a9 u9 K9 hL hcl hA hG hS h0 hK
      replace hL : L9 3 = false := hL
      have q158 : a9.tmps[158]? = some (.pointer (some ⟨cx, 0, none⟩)) := hS 2 158 (by decide) rfl (by show 158 < 192; decide)
      have s158 := Rega.eval_of q158
      go_simp
      exact hK _ α _ (fun _ _ => rfl) rfl (step_same (st9) hL hcl rfl rfl hG)
    · intro L9 α a9 u9 K9 hL hcl hA hG hS h0 hK
      replace hL : L9 4 = false := hL
      have q159 : a9.tmps[159]? = some (.pointer (some ⟨cx, 2, none⟩)) := hS 3 159 (by decide) rfl (by show 159 < 192; decide)
      have s159 := Rega.eval_of q159
      have e0 : R9 L9 α 999 = row (cx) 191 XC := rfl
      have hr := hG.rowAt 999 (act_base 999 rfl) e0
      have c0 : u9.cell? ⟨cx, 2, none⟩ = some (.pointer (some ⟨cc, 0, none⟩)) := hr.cell (hxc)
      clear hr e0
      go_simp
      exact hK _ α _ (fun _ _ => rfl) rfl (step_same (st9) hL hcl rfl rfl hG)
    · intro L9 α a9 u9 K9 hL hcl hA hG hS h0 hK
      replace hL : L9 5 = false := hL
      have q160 : a9.tmps[160]? = some (.pointer (some ⟨cc, 0, none⟩)) := hS 4 160 (by decide) rfl (by show 160 < 192; decide)
      have s160 := Rega.eval_of q160
      go_simp
      exact hK _ α _ (fun _ _ => rfl) rfl (step_same (st9) hL hcl rfl rfl hG)
    · intro L9 α a9 u9 K9 hL hcl hA hG hS h0 hK
      replace hL : L9 6 = false := hL
      have q161 : a9.tmps[161]? = some (.pointer (some ⟨cc, 0, none⟩)) := hS 5 161 (by decide) rfl (by show 161 < 192; decide)
      have s161 := Rega.eval_of q161
      go_simp
      exact hK _ α _ (fun _ _ => rfl) rfl (step_same (st9) hL hcl rfl rfl hG)
    · intro L9 α a9 u9 K9 hL hcl hA hG hS h0 hK
      replace hL : L9 7 = false := hL
      have q162 : a9.tmps[162]? = some (.pointer (some ⟨cc, 1, none⟩)) := hS 6 162 (by decide) rfl (by show 162 < 192; decide)
      have s162 := Rega.eval_of q162
      have e0 : R9 L9 α 1999 = row (cc) 182 (CC.setIfInBounds 1 (.pointer (some ⟨cx, 6, none⟩))) := rfl
      have hr := hG.rowAt 1999 (act_base 1999 rfl) e0
      have c0 : u9.cell? ⟨cc, 1, none⟩ = some (.pointer (some ⟨cx, 6, none⟩)) := hr.cell ((get_set hcn _))
      clear hr e0
      go_simp
      exact hK _ α _ (fun _ _ => rfl) rfl (step_same (st9) hL hcl rfl rfl hG)
    · intro L9 α a9 u9 K9 hL hcl hA hG hS h0 hK
      replace hL : L9 8 = false := hL
      have q163 : a9.tmps[163]? = some (.pointer (some ⟨cx, 6, none⟩)) := hS 7 163 (by decide) rfl (by show 163 < 192; decide)
      have s163 := Rega.eval_of q163
      go_simp
      exact hK _ α _ (fun _ _ => rfl) rfl (step_same (st9) hL hcl rfl rfl hG)
    · intro L9 α a9 u9 K9 hL hcl hA hG hS h0 hK
      replace hL : L9 9 = false := hL
      have q164 : a9.tmps[164]? = some (.pointer (some ⟨cx, 6, none⟩)) := hS 8 164 (by decide) rfl (by show 164 < 192; decide)
      have s164 := Rega.eval_of q164
      go_simp
      exact hK _ α _ (fun _ _ => rfl) rfl (step_same (st9) hL hcl rfl rfl hG)
    · intro L9 α a9 u9 K9 hL hcl hA hG hS h0 hK
      replace hL : L9 10 = false := hL
      have q165 : a9.tmps[165]? = some (.pointer (some ⟨cx, 7, none⟩)) := hS 9 165 (by decide) rfl (by show 165 < 192; decide)
      have s165 := Rega.eval_of q165
      have e0 : R9 L9 α 999 = row (cx) 191 XC := rfl
      have hr := hG.rowAt 999 (act_base 999 rfl) e0
      have c0 : u9.cell? ⟨cx, 7, none⟩ = some (.int .u32 0) := hr.cell (hd1)
      have c1 : u9.cell? ⟨cx, 8, none⟩ = some (.int .u32 (i : Int)) := hr.cell (hd2)
      clear hr e0
      go_simp
      exact hK _ α _ (fun _ _ => rfl) rfl (step_same (st9) hL hcl rfl rfl hG)
    · intro L9 α a9 u9 K9 hL hcl hA hG hS h0 hK
      replace hL : L9 11 = false := hL
      have q156 : a9.tmps[156]? = some (.pointer (some ⟨pb, 0, none⟩)) := hS 0 156 (by decide) rfl (by show 156 < 192; decide)
      have s156 := Rega.eval_of q156
      have q166 : a9.tmps[166]? = some (.agg #[.int .u32 0, .int .u32 (i : Int)]) := hS 10 166 (by decide) rfl (by show 166 < 192; decide)
      have s166 := Rega.eval_of q166
      go_simp
      have e0 : R9 L9 α 3999 = row (pb) 176 PC := rfl
      have e1 : R9 L9 α 4999 = row (sb) 199 (full symZ (symL st) c) := by
        show rND12T4999 pb PC sb c st cx XC cc CC xqa xqb i L9 α = _
        unfold rND12T4999
        rw [if_neg (by rw [hL]; decide)]
      have hM : ∀ i, i ∈ [3999, 4999] → act rND12Cnt 6 L9 i := by
        intro i hi
        simp only [List.mem_cons, List.not_mem_nil, or_false] at hi
        rcases hi with rfl | rfl
        · exact act_base 3999 rfl
        · exact act_base 4999 rfl
      have hP : Own w0 u9 [row (pb) 176 PC, row (sb) 199 (full symZ (symL st) c)] _ := (hG.pick [3999, 4999] (by decide) hM).conv (by
        show [R9 L9 α 3999, R9 L9 α 4999] = _
        rw [e0, e1])
      clear e0 e1 hM
      refine Calls.mono (useG pb PC sb c st n 0 i _ _ _ hP hk350 hk32 hk105 hk106 hn hnb hu) ?_
      rintro e9 u1 ⟨rfl, hQ⟩
      obtain ⟨α', hα'⟩ : ∃ α' : Rega.Atoms, α' = α := ⟨_, rfl⟩
      have f0 : R9 (Rega.ran L9 11) α' 3999 = row (pb) 176 PC := rfl
      have f1 : R9 (Rega.ran L9 11) α' 4999 = row (sb) 199 (full symZ (symL (bump st i)) c) := by
        show rND12T4999 pb PC sb c st cx XC cc CC xqa xqb i (Rega.ran L9 11) α' = _
        unfold rND12T4999
        rw [if_pos (show Rega.ran L9 11 11 = true from rfl)]
      have hα : ∀ j, j % 1000 ≠ 11 → α' j = α j := fun j hj => by rw [hα']
      skip
      refine hK _ α' _ hα ?_ (step_call (st9) hL hcl hα [3999, 4999] [3999, 4999] (by decide) (by decide) (by decide) (M := _) ?_ hG hQ)
      · rfl
      · show [R9 (Rega.ran L9 11) α' 3999, R9 (Rega.ran L9 11) α' 4999] = _
        rw [f0, f1]
  clear st9
  intro α u hG
  have e0 : R9 (fun k => decide (k < 12)) α 999 = row (cx) 191 XC := rfl
  have e1 : R9 (fun k => decide (k < 12)) α 1999 = row (cc) 182 (CC.setIfInBounds 1 (.pointer (some ⟨cx, 6, none⟩))) := rfl
  have e2 : R9 (fun k => decide (k < 12)) α 2999 = row (xqa) 27 #[.pointer (some ⟨cx, 0, none⟩)] := rfl
  have e3 : R9 (fun k => decide (k < 12)) α 3999 = row (pb) 176 PC := rfl
  have e4 : R9 (fun k => decide (k < 12)) α 4999 = row (sb) 199 (full symZ (symL (bump st i)) c) := by
    show rND12T4999 pb PC sb c st cx XC cc CC xqa xqb i (fun k => decide (k < 12)) α = _
    unfold rND12T4999
    rw [if_pos (by decide)]
  have e5 : R9 (fun k => decide (k < 12)) α 5999 = row (xqb) 25 #[.pointer (some ⟨pb, 0, none⟩)] := rfl
  have hO : Own w0 u [row (cx) 191 XC, row (cc) 182 (CC.setIfInBounds 1 (.pointer (some ⟨cx, 6, none⟩))), row (xqa) 27 #[.pointer (some ⟨cx, 0, none⟩)], row (pb) 176 PC, row (sb) 199 (full symZ (symL (bump st i)) c), row (xqb) 25 #[.pointer (some ⟨pb, 0, none⟩)]] X9_4 := (hG.list [999, 1999, 2999, 3999, 4999, 5999] (by decide) (act_all (by decide))).conv (by
    show [R9 (fun k => decide (k < 12)) α 999, R9 (fun k => decide (k < 12)) α 1999, R9 (fun k => decide (k < 12)) α 2999, R9 (fun k => decide (k < 12)) α 3999, R9 (fun k => decide (k < 12)) α 4999, R9 (fun k => decide (k < 12)) α 5999] = _
    rw [e0, e1, e2, e3, e4, e5])
  clear hG e0 e1 e2 e3 e4 e5 R9
  generalize hfr : Rega.frameAt _ _ _ _ _ = fr
  have hdf : fr = ⟨#[.pointer (some ⟨xqa, 0, none⟩), .pointer (some ⟨xqb, 0, none⟩), .pointer (some ⟨xqc, 0, none⟩), .pointer (some ⟨B1, 0, none⟩), undef, undef, .pointer (some ⟨cx, 0, none⟩), .pointer (some ⟨cx, 0, none⟩), .pointer (some ⟨cx, 1, none⟩), .int .u8 3, .bool false, undef, undef, undef, undef, undef, undef, undef, undef, undef, undef, undef, undef, undef, undef, undef, undef, undef, undef, undef, undef, undef, undef, undef, undef, undef, undef, undef, undef, undef, undef, undef, undef, undef, undef, undef, undef, undef, undef, undef, undef, undef, undef, undef, undef, undef, undef, undef, undef, undef, undef, undef, undef, undef, undef, undef, undef, undef, undef, undef, undef, undef, undef, undef, undef, undef, undef, undef, undef, undef, undef, undef, undef, undef, undef, undef, undef, undef, undef, undef, undef, undef, undef, undef, undef, undef, .pointer (some ⟨xqc, 1, none⟩), .agg #[.int .u32 4294967295, .int .u32 4294967295], .agg #[.int .u32 4294967295, .int .u32 4294967295], .bool false, undef, undef, undef, undef, undef, undef, undef, undef, undef, undef, undef, undef, undef, undef, undef, undef, undef, undef, undef, undef, .pointer (some ⟨cx, 0, none⟩), .pointer (some ⟨cx, 0, none⟩), .pointer (some ⟨cx, 2, none⟩), .pointer (some ⟨cc, 0, none⟩), .pointer (some ⟨cc, 0, none⟩), .pointer (some ⟨cc, 1, none⟩), .pointer none, .bool true, .pointer (some ⟨cx, 0, none⟩), .pointer (some ⟨cx, 0, none⟩), .pointer (some ⟨cx, 1, none⟩), .int .u8 3, .bool true, .pointer (some ⟨cx, 0, none⟩), .pointer (some ⟨cx, 0, none⟩), .pointer (some ⟨cx, 2, none⟩), .pointer (some ⟨cc, 0, none⟩), .pointer (some ⟨cx, 0, none⟩), .pointer (some ⟨cx, 0, none⟩), .pointer (some ⟨cx, 6, none⟩), .pointer (some ⟨cc, 0, none⟩), .pointer (some ⟨cc, 1, none⟩), undef, undef, undef, undef, undef, undef, undef, undef, undef, undef, undef, undef, undef, undef, .pointer (some ⟨pb, 0, none⟩), .pointer (some ⟨cx, 0, none⟩), .pointer (some ⟨cx, 0, none⟩), .pointer (some ⟨cx, 2, none⟩), .pointer (some ⟨cc, 0, none⟩), .pointer (some ⟨cc, 0, none⟩), .pointer (some ⟨cc, 1, none⟩), .pointer (some ⟨cx, 6, none⟩), .pointer (some ⟨cx, 6, none⟩), .pointer (some ⟨cx, 7, none⟩), .agg #[.int .u32 0, .int .u32 (i : Int)], .tuple #[], undef, undef, undef, undef, undef, undef, undef, undef, undef, undef, undef, undef, undef, undef, undef, undef, undef, undef, undef, undef, undef, undef, undef, undef], []⟩ := by rw [← hfr]; kernel_rfl
  clear hfr
  subst hdf
  clear α
  subst hX9_4
  have hN : Own w0 u [row (cx) 191 XC, row (cc) 182 (CC.setIfInBounds 1 (.pointer (some ⟨cx, 6, none⟩))), row (xqa) 27 #[.pointer (some ⟨cx, 0, none⟩)], row (pb) 176 PC, row (sb) 199 (full symZ (symL (bump st i)) c), row (xqb) 25 #[.pointer (some ⟨pb, 0, none⟩)], row (B1) 155 #[.nilIface, .int .i32 0], row (xqc) 202 #[.pointer none, .int .u32 4294967295, .int .u32 4294967295, .int .u32 4294967295, .int .u32 4294967295, .bool false]] X := hO.back HL.out HX.out [3, 7] (by decide) (by decide)
  clear hO HL HX
  have hO := hN
  clear hN
  obtain ⟨c9_2_0, lt9_2, y9_2, -⟩ := hO.k1 2 rfl
  obtain ⟨c9_5_0, lt9_5, y9_5, -⟩ := hO.k1 5 rfl
  obtain ⟨c9_6_0, c9_6_1, lt9_6, y9_6, -⟩ := hO.k2 6 rfl
  obtain ⟨c9_7_0, c9_7_1, c9_7_2, c9_7_3, c9_7_4, c9_7_5, lt9_7, y9_7, -⟩ := hO.k6 7 rfl
  have HO := Lib.hid hO
  clear hO
  have gw9_0_0 : u.cell? ⟨0, 0, none⟩ = some (.int .u32 4294967295) := Base.cell_below HO.out.below (Base.block_of_cell hg0) hg0
  have gw9_0_1 : u.cell? ⟨0, 1, none⟩ = some (.int .u32 4294967295) := Base.cell_below HO.out.below (Base.block_of_cell hg1) hg1
  have gl9_0 : 0 < u.heap.size := Base.block_of_cell gw9_0_0
  go_wp2_with (first | (with_reducible refine Own.stay (fn := Tryd.f19) ?_) | fail)
  try with_reducible refine Own.Stay.mk ?_
  have hO := HO.out
  clear HO gw9_0_0 gw9_0_1 gl9_0 c9_2_0 lt9_2 y9_2 c9_5_0 lt9_5 y9_5 c9_6_0 c9_6_1 lt9_6 y9_6 c9_7_0 c9_7_1 c9_7_2 c9_7_3 c9_7_4 c9_7_5 lt9_7 y9_7
  have hL := hO.apart
  have hX := hO.apartX
  have HL := Lib.hid hL
  have HX := Lib.hid hX
  clear hL hX
  have hP9 := hO.pick [0, 1, 2, 6] (by decide)
  generalize hX9_5 : Own.Rest _ _ X = X9_5 at hP9
  replace hP9 : Own w0 u [row (cx) 191 XC, row (cc) 182 (CC.setIfInBounds 1 (.pointer (some ⟨cx, 6, none⟩))), row (xqa) 27 #[.pointer (some ⟨cx, 0, none⟩)], row (B1) 155 #[.nilIface, .int .i32 0]] X9_5 := hP9
  clear hO
  have hO := hP9
  clear hP9
  have st9 := rND13_st cx XC cc CC xqa i B1
  let R9 := rND13R cx XC cc CC xqa i B1
  refine wp_region_own (e := rND13E cx XC cc CC xqa i B1) (anc := rND13Anc) (G := (fun L9 α u9 => OwnF w0 u9 (act rND13Cnt 4 L9) (rND13R cx XC cc CC xqa i B1 L9 α) X9_5)) (by kernel_rfl) (by kernel_rfl) (by kernel_rfl) (by kernel_rfl) (rND13_he cx XC cc CC xqa i B1) ?_ (RunsAll.all ?_) ?_
  · have hp : ∀ i, act rND13Cnt 4 (fun _ => false) i → i ∈ [999, 1999, 2999, 3999] := by
      intro i hi
      have h9 : i % 1000 = 999 := by
        by_cases h : i % 1000 = 999
        · exact h
        · exact absurd (act_lt hi h) (by simp)
      unfold act at hi
      rw [if_pos h9] at hi
      simp only [List.mem_cons, List.not_mem_nil, or_false]
      omega
    refine hO.drew.family (fun i hi => ?_) (fun i j hi hj hij => ?_)
    · have := hp i hi
      simp only [List.mem_cons, List.not_mem_nil, or_false] at this
      rcases this with rfl | rfl | rfl | rfl <;> rfl
    · have h1 := hp i hi
      have h2 := hp j hj
      simp only [List.mem_cons, List.not_mem_nil, or_false] at h1 h2
      omega
  · refine ⟨?_, ?_, ?_, ?_, ?_, ?_, ?_, ?_, ?_, ?_, ?_, ?_, ?_, ?_, ?_, ?_, ?_, ?_, ?_, ?_, ?_, ?_, ?_, ?_, ?_, trivial⟩
    · intro L9 α a9 u9 K9 hL hcl hA hG hS h0 hK
      replace hL : L9 0 = false := hL
      have q0 : a9.tmps[0]? = some (.pointer (some ⟨xqa, 0, none⟩)) := (h0 0 (by kernel_rfl)).trans rfl
      have s0 := Rega.eval_of q0
      have e0 : R9 L9 α 2999 = row (xqa) 27 #[.pointer (some ⟨cx, 0, none⟩)] := rfl
      have hr := hG.rowAt 2999 (act_base 2999 rfl) e0
      have c0 : u9.cell? ⟨xqa, 0, none⟩ = some (.pointer (some ⟨cx, 0, none⟩)) := hr.cell rfl
      clear hr e0
      go_simp
      exact hK _ α _ (fun _ _ => rfl) rfl (step_same (st9) hL hcl rfl rfl hG)
    · intro L9 α a9 u9 K9 hL hcl hA hG hS h0 hK
      replace hL : L9 1 = false := hL
      have q168 : a9.tmps[168]? = some (.pointer (some ⟨cx, 0, none⟩)) := hS 0 168 (by decide) rfl (by show 168 < 192; decide)
      have s168 := Rega.eval_of q168
      go_simp
      exact hK _ α _ (fun _ _ => rfl) rfl (step_same (st9) hL hcl rfl rfl hG)
    · intro L9 α a9 u9 K9 hL hcl hA hG hS h0 hK
      replace hL : L9 2 = false := hL
      have q169 : a9.tmps[169]? = some (.pointer (some ⟨cx, 0, none⟩)) := hS 1 169 (by decide) rfl (by show 169 < 192; decide)
      have s169 := Rega.eval_of q169
      go_simp
      exact hK _ α _ (fun _ _ => rfl) rfl (step_same (st9) hL hcl rfl rfl hG)
    · intro L9 α a9 u9 K9 hL hcl hA hG hS h0 hK
      replace hL : L9 3 = false := hL
      have q170 : a9.tmps[170]? = some (.pointer (some ⟨cx, 2, none⟩)) := hS 2 170 (by decide) rfl (by show 170 < 192; decide)
      have s170 := Rega.eval_of q170
      have e0 : R9 L9 α 999 = row (cx) 191 XC := rfl
      have hr := hG.rowAt 999 (act_base 999 rfl) e0
      have c0 : u9.cell? ⟨cx, 2, none⟩ = some (.pointer (some ⟨cc, 0, none⟩)) := hr.cell (hxc)
      clear hr e0
      go_simp
      exact hK _ α _ (fun _ _ => rfl) rfl (step_same (st9) hL hcl rfl rfl hG)
    · intro L9 α a9 u9 K9 hL hcl hA hG hS h0 hK
      replace hL : L9 4 = false := hL
      have q171 : a9.tmps[171]? = some (.pointer (some ⟨cc, 0, none⟩)) := hS 3 171 (by decide) rfl (by show 171 < 192; decide)
      have s171 := Rega.eval_of q171
      go_simp
      exact hK _ α _ (fun _ _ => rfl) rfl (step_same (st9) hL hcl rfl rfl hG)
    · intro L9 α a9 u9 K9 hL hcl hA hG hS h0 hK
      replace hL : L9 5 = false := hL
      have q172 : a9.tmps[172]? = some (.pointer (some ⟨cc, 0, none⟩)) := hS 4 172 (by decide) rfl (by show 172 < 192; decide)
      have s172 := Rega.eval_of q172
      go_simp
      exact hK _ α _ (fun _ _ => rfl) rfl (step_same (st9) hL hcl rfl rfl hG)
    · intro L9 α a9 u9 K9 hL hcl hA hG hS h0 hK
      replace hL : L9 6 = false := hL
      have q173 : a9.tmps[173]? = some (.pointer (some ⟨cc, 1, none⟩)) := hS 5 173 (by decide) rfl (by show 173 < 192; decide)
      have s173 := Rega.eval_of q173
      have e0 : R9 L9 α 1999 = row (cc) 182 (CC.setIfInBounds 1 (.pointer (some ⟨cx, 6, none⟩))) := rfl
      have hr := hG.rowAt 1999 (act_base 1999 rfl) e0
      have c0 : u9.cell? ⟨cc, 1, none⟩ = some (.pointer (some ⟨cx, 6, none⟩)) := hr.cell ((get_set hcn _))
      clear hr e0
      go_simp
      exact hK _ α _ (fun _ _ => rfl) rfl (step_same (st9) hL hcl rfl rfl hG)
    · intro L9 α a9 u9 K9 hL hcl hA hG hS h0 hK
      replace hL : L9 7 = false := hL
      have q174 : a9.tmps[174]? = some (.pointer (some ⟨cx, 6, none⟩)) := hS 6 174 (by decide) rfl (by show 174 < 192; decide)
      have s174 := Rega.eval_of q174
      go_simp
      exact hK _ α _ (fun _ _ => rfl) rfl (step_same (st9) hL hcl rfl rfl hG)
    · intro L9 α a9 u9 K9 hL hcl hA hG hS h0 hK
      replace hL : L9 8 = false := hL
      have q175 : a9.tmps[175]? = some (.pointer (some ⟨cx, 6, none⟩)) := hS 7 175 (by decide) rfl (by show 175 < 192; decide)
      have s175 := Rega.eval_of q175
      go_simp
      exact hK _ α _ (fun _ _ => rfl) rfl (step_same (st9) hL hcl rfl rfl hG)
    · intro L9 α a9 u9 K9 hL hcl hA hG hS h0 hK
      replace hL : L9 9 = false := hL
      have q176 : a9.tmps[176]? = some (.pointer (some ⟨cx, 6, none⟩)) := hS 8 176 (by decide) rfl (by show 176 < 192; decide)
      have s176 := Rega.eval_of q176
      have e0 : R9 L9 α 999 = row (cx) 191 XC := rfl
      have hr := hG.rowAt 999 (act_base 999 rfl) e0
      have c0 : u9.cell? ⟨cx, 6, none⟩ = some (.int .i32 0) := hr.cell (hd0)
      clear hr e0
      go_simp
      exact hK _ α _ (fun _ _ => rfl) rfl (step_same (st9) hL hcl rfl rfl hG)
    · intro L9 α a9 u9 K9 hL hcl hA hG hS h0 hK
      replace hL : L9 10 = false := hL
      have q0 : a9.tmps[0]? = some (.pointer (some ⟨xqa, 0, none⟩)) := (h0 0 (by kernel_rfl)).trans rfl
      have s0 := Rega.eval_of q0
      have e0 : R9 L9 α 2999 = row (xqa) 27 #[.pointer (some ⟨cx, 0, none⟩)] := rfl
      have hr := hG.rowAt 2999 (act_base 2999 rfl) e0
      have c0 : u9.cell? ⟨xqa, 0, none⟩ = some (.pointer (some ⟨cx, 0, none⟩)) := hr.cell rfl
      clear hr e0
      go_simp
      exact hK _ α _ (fun _ _ => rfl) rfl (step_same (st9) hL hcl rfl rfl hG)
    · intro L9 α a9 u9 K9 hL hcl hA hG hS h0 hK
      replace hL : L9 11 = false := hL
      have q178 : a9.tmps[178]? = some (.pointer (some ⟨cx, 0, none⟩)) := hS 10 178 (by decide) rfl (by show 178 < 192; decide)
      have s178 := Rega.eval_of q178
      go_simp
      exact hK _ α _ (fun _ _ => rfl) rfl (step_same (st9) hL hcl rfl rfl hG)
    · intro L9 α a9 u9 K9 hL hcl hA hG hS h0 hK
      replace hL : L9 12 = false := hL
      have q179 : a9.tmps[179]? = some (.pointer (some ⟨cx, 0, none⟩)) := hS 11 179 (by decide) rfl (by show 179 < 192; decide)
      have s179 := Rega.eval_of q179
      go_simp
      exact hK _ α _ (fun _ _ => rfl) rfl (step_same (st9) hL hcl rfl rfl hG)
    · intro L9 α a9 u9 K9 hL hcl hA hG hS h0 hK
      replace hL : L9 13 = false := hL
      have q180 : a9.tmps[180]? = some (.pointer (some ⟨cx, 2, none⟩)) := hS 12 180 (by decide) rfl (by show 180 < 192; decide)
      have s180 := Rega.eval_of q180
      have e0 : R9 L9 α 999 = row (cx) 191 XC := rfl
      have hr := hG.rowAt 999 (act_base 999 rfl) e0
      have c0 : u9.cell? ⟨cx, 2, none⟩ = some (.pointer (some ⟨cc, 0, none⟩)) := hr.cell (hxc)
      clear hr e0
      go_simp
      exact hK _ α _ (fun _ _ => rfl) rfl (step_same (st9) hL hcl rfl rfl hG)
    · intro L9 α a9 u9 K9 hL hcl hA hG hS h0 hK
      replace hL : L9 14 = false := hL
      have q181 : a9.tmps[181]? = some (.pointer (some ⟨cc, 0, none⟩)) := hS 13 181 (by decide) rfl (by show 181 < 192; decide)
      have s181 := Rega.eval_of q181
      go_simp
      exact hK _ α _ (fun _ _ => rfl) rfl (step_same (st9) hL hcl rfl rfl hG)
    · intro L9 α a9 u9 K9 hL hcl hA hG hS h0 hK
      replace hL : L9 15 = false := hL
      have q182 : a9.tmps[182]? = some (.pointer (some ⟨cc, 0, none⟩)) := hS 14 182 (by decide) rfl (by show 182 < 192; decide)
      have s182 := Rega.eval_of q182
      go_simp
      exact hK _ α _ (fun _ _ => rfl) rfl (step_same (st9) hL hcl rfl rfl hG)
    · intro L9 α a9 u9 K9 hL hcl hA hG hS h0 hK
      replace hL : L9 16 = false := hL
      have q183 : a9.tmps[183]? = some (.pointer (some ⟨cc, 1, none⟩)) := hS 15 183 (by decide) rfl (by show 183 < 192; decide)
      have s183 := Rega.eval_of q183
      have e0 : R9 L9 α 1999 = row (cc) 182 (CC.setIfInBounds 1 (.pointer (some ⟨cx, 6, none⟩))) := rfl
      have hr := hG.rowAt 1999 (act_base 1999 rfl) e0
      have c0 : u9.cell? ⟨cc, 1, none⟩ = some (.pointer (some ⟨cx, 6, none⟩)) := hr.cell ((get_set hcn _))
      clear hr e0
      go_simp
      exact hK _ α _ (fun _ _ => rfl) rfl (step_same (st9) hL hcl rfl rfl hG)
    · intro L9 α a9 u9 K9 hL hcl hA hG hS h0 hK
      replace hL : L9 17 = false := hL
      have q184 : a9.tmps[184]? = some (.pointer (some ⟨cx, 6, none⟩)) := hS 16 184 (by decide) rfl (by show 184 < 192; decide)
      have s184 := Rega.eval_of q184
      go_simp
      exact hK _ α _ (fun _ _ => rfl) rfl (step_same (st9) hL hcl rfl rfl hG)
    · intro L9 α a9 u9 K9 hL hcl hA hG hS h0 hK
      replace hL : L9 18 = false := hL
      have q185 : a9.tmps[185]? = some (.pointer (some ⟨cx, 6, none⟩)) := hS 17 185 (by decide) rfl (by show 185 < 192; decide)
      have s185 := Rega.eval_of q185
      go_simp
      exact hK _ α _ (fun _ _ => rfl) rfl (step_same (st9) hL hcl rfl rfl hG)
    · intro L9 α a9 u9 K9 hL hcl hA hG hS h0 hK
      replace hL : L9 19 = false := hL
      have q186 : a9.tmps[186]? = some (.pointer (some ⟨cx, 7, none⟩)) := hS 18 186 (by decide) rfl (by show 186 < 192; decide)
      have s186 := Rega.eval_of q186
      have e0 : R9 L9 α 999 = row (cx) 191 XC := rfl
      have hr := hG.rowAt 999 (act_base 999 rfl) e0
      have c0 : u9.cell? ⟨cx, 7, none⟩ = some (.int .u32 0) := hr.cell (hd1)
      have c1 : u9.cell? ⟨cx, 8, none⟩ = some (.int .u32 (i : Int)) := hr.cell (hd2)
      clear hr e0
      go_simp
      exact hK _ α _ (fun _ _ => rfl) rfl (step_same (st9) hL hcl rfl rfl hG)
    · intro L9 α a9 u9 K9 hL hcl hA hG hS h0 hK
      replace hL : L9 20 = false := hL
      have q187 : a9.tmps[187]? = some (.agg #[.int .u32 0, .int .u32 (i : Int)]) := hS 19 187 (by decide) rfl (by show 187 < 192; decide)
      have s187 := Rega.eval_of q187
      go_simp
      exact hK _ α _ (fun _ _ => rfl) rfl (step_same (st9) hL hcl rfl rfl hG)
    · intro L9 α a9 u9 K9 hL hcl hA hG hS h0 hK
      replace hL : L9 21 = false := hL
      have q188 : a9.tmps[188]? = some (.agg #[.int .u32 0, .int .u32 (i : Int), .bool false, .bool false, .bool false]) := hS 20 188 (by decide) rfl (by show 188 < 192; decide)
      have s188 := Rega.eval_of q188
      go_simp
      exact hK _ (fun j => if j = 21 then u9.heap.size else α j) _ (fun j hj => if_neg (fun e => hj (by rw [e]))) rfl (step_alloc (st9) hL hcl rfl rfl (by decide) _ rfl hG)
    · intro L9 α a9 u9 K9 hL hcl hA hG hS h0 hK
      replace hL : L9 22 = false := hL
      have q189 : a9.tmps[189]? = some (.pointer (some ⟨α 21, 0, none⟩)) := hS 21 189 (by decide) rfl (by show 189 < 192; decide)
      have s189 := Rega.eval_of q189
      go_simp
      exact hK _ α _ (fun _ _ => rfl) rfl (step_same (st9) hL hcl rfl rfl hG)
    · intro L9 α a9 u9 K9 hL hcl hA hG hS h0 hK
      replace hL : L9 23 = false := hL
      have q177 : a9.tmps[177]? = some (.agg #[.int .i32 0]) := hS 9 177 (by decide) rfl (by show 177 < 192; decide)
      have s177 := Rega.eval_of q177
      have q190 : a9.tmps[190]? = some (.iface 203 (.pointer (some ⟨α 21, 0, none⟩))) := hS 22 190 (by decide) rfl (by show 190 < 192; decide)
      have s190 := Rega.eval_of q190
      go_simp
      exact hK _ α _ (fun _ _ => rfl) rfl (step_same (st9) hL hcl rfl rfl hG)
    · intro L9 α a9 u9 K9 hL hcl hA hG hS h0 hK
      replace hL : L9 24 = false := hL
      have q3 : a9.tmps[3]? = some (.pointer (some ⟨B1, 0, none⟩)) := (h0 3 (by kernel_rfl)).trans rfl
      have s3 := Rega.eval_of q3
      have q191 : a9.tmps[191]? = some (.agg #[.iface 203 (.pointer (some ⟨α 21, 0, none⟩)), .int .i32 0]) := hS 23 191 (by decide) rfl (by show 191 < 192; decide)
      have s191 := Rega.eval_of q191
      have e0 : R9 L9 α 3999 = row (B1) 155 #[.nilIface, .int .i32 0] := by
        show rND13T3999 cx XC cc CC xqa i B1 L9 α = _
        unfold rND13T3999
        rw [if_neg (by rw [hL]; decide)]
      have hr := hG.rowAt 3999 (act_base 3999 rfl) e0
      have c0 : u9.cell? ⟨B1, 0, none⟩ = some (.nilIface) := hr.cell rfl
      have y0 : u9.frozen? ⟨B1, 0, none⟩ = false := hr.free (0)
      have c1 : u9.cell? ⟨B1, 1, none⟩ = some (.int .i32 0) := hr.cell rfl
      have y1 : u9.frozen? ⟨B1, 1, none⟩ = false := hr.free (1)
      clear hr
      have E0 := Lib.hid e0
      clear e0
      go_simp
      have e1 : R9 (Rega.ran L9 24) α 3999 = row (B1) 155 #[.iface 203 (.pointer (some ⟨α 21, 0, none⟩)), .int .i32 0] := by
        show rND13T3999 cx XC cc CC xqa i B1 (Rega.ran L9 24) α = _
        unfold rND13T3999
        rw [if_pos (show Rega.ran L9 24 24 = true from rfl)]
      exact hK _ α _ (fun _ _ => rfl) rfl (step_sets (st9) hL hcl rfl 3999 rfl (act_base 3999 rfl) E0.out (0) [.iface 203 (.pointer (some ⟨α 21, 0, none⟩)), .int .i32 0] (e1.trans rfl) hG)
  clear st9
  intro α u hG
  have e0 : R9 (fun k => decide (k < 25)) α 999 = row (cx) 191 XC := rfl
  have e1 : R9 (fun k => decide (k < 25)) α 1999 = row (cc) 182 (CC.setIfInBounds 1 (.pointer (some ⟨cx, 6, none⟩))) := rfl
  have e2 : R9 (fun k => decide (k < 25)) α 2999 = row (xqa) 27 #[.pointer (some ⟨cx, 0, none⟩)] := rfl
  have e3 : R9 (fun k => decide (k < 25)) α 3999 = row (B1) 155 #[.iface 203 (.pointer (some ⟨α 21, 0, none⟩)), .int .i32 0] := by
    show rND13T3999 cx XC cc CC xqa i B1 (fun k => decide (k < 25)) α = _
    unfold rND13T3999
    rw [if_pos (by decide)]
  have e4 : R9 (fun k => decide (k < 25)) α 21 = row (α 21) 206 #[.int .u32 0, .int .u32 (i : Int), .bool false, .bool false, .bool false] := rfl
  have hO : Own w0 u [row (cx) 191 XC, row (cc) 182 (CC.setIfInBounds 1 (.pointer (some ⟨cx, 6, none⟩))), row (xqa) 27 #[.pointer (some ⟨cx, 0, none⟩)], row (B1) 155 #[.iface 203 (.pointer (some ⟨α 21, 0, none⟩)), .int .i32 0], row (α 21) 206 #[.int .u32 0, .int .u32 (i : Int), .bool false, .bool false, .bool false]] X9_5 := (hG.list [999, 1999, 2999, 3999, 21] (by decide) (act_all (by decide))).conv (by
    show [R9 (fun k => decide (k < 25)) α 999, R9 (fun k => decide (k < 25)) α 1999, R9 (fun k => decide (k < 25)) α 2999, R9 (fun k => decide (k < 25)) α 3999, R9 (fun k => decide (k < 25)) α 21] = _
    rw [e0, e1, e2, e3, e4])
  clear hG e0 e1 e2 e3 e4 R9
  generalize hfr : Rega.frameAt _ _ _ _ _ = fr
  have hdf : fr = ⟨#[.pointer (some ⟨xqa, 0, none⟩), .pointer (some ⟨xqb, 0, none⟩), .pointer (some ⟨xqc, 0, none⟩), .pointer (some ⟨B1, 0, none⟩), undef, undef, .pointer (some ⟨cx, 0, none⟩), .pointer (some ⟨cx, 0, none⟩), .pointer (some ⟨cx, 1, none⟩), .int .u8 3, .bool false, undef, undef, undef, undef, undef, undef, undef, undef, undef, undef, undef, undef, undef, undef, undef, undef, undef, undef, undef, undef, undef, undef, undef, undef, undef, undef, undef, undef, undef, undef, undef, undef, undef, undef, undef, undef, undef, undef, undef, undef, undef, undef, undef, undef, undef, undef, undef, undef, undef, undef, undef, undef, undef, undef, undef, undef, undef, undef, undef, undef, undef, undef, undef, undef, undef, undef, undef, undef, undef, undef, undef, undef, undef, undef, undef, undef, undef, undef, undef, undef, undef, undef, undef, undef, undef, .pointer (some ⟨xqc, 1, none⟩), .agg #[.int .u32 4294967295, .int .u32 4294967295], .agg #[.int .u32 4294967295, .int .u32 4294967295], .bool false, undef, undef, undef, undef, undef, undef, undef, undef, undef, undef, undef, undef, undef, undef, undef, undef, undef, undef, undef, undef, .pointer (some ⟨cx, 0, none⟩), .pointer (some ⟨cx, 0, none⟩), .pointer (some ⟨cx, 2, none⟩), .pointer (some ⟨cc, 0, none⟩), .pointer (some ⟨cc, 0, none⟩), .pointer (some ⟨cc, 1, none⟩), .pointer none, .bool true, .pointer (some ⟨cx, 0, none⟩), .pointer (some ⟨cx, 0, none⟩), .pointer (some ⟨cx, 1, none⟩), .int .u8 3, .bool true, .pointer (some ⟨cx, 0, none⟩), .pointer (some ⟨cx, 0, none⟩), .pointer (some ⟨cx, 2, none⟩), .pointer (some ⟨cc, 0, none⟩), .pointer (some ⟨cx, 0, none⟩), .pointer (some ⟨cx, 0, none⟩), .pointer (some ⟨cx, 6, none⟩), .pointer (some ⟨cc, 0, none⟩), .pointer (some ⟨cc, 1, none⟩), undef, undef, undef, undef, undef, undef, undef, undef, undef, undef, undef, undef, undef, undef, .pointer (some ⟨pb, 0, none⟩), .pointer (some ⟨cx, 0, none⟩), .pointer (some ⟨cx, 0, none⟩), .pointer (some ⟨cx, 2, none⟩), .pointer (some ⟨cc, 0, none⟩), .pointer (some ⟨cc, 0, none⟩), .pointer (some ⟨cc, 1, none⟩), .pointer (some ⟨cx, 6, none⟩), .pointer (some ⟨cx, 6, none⟩), .pointer (some ⟨cx, 7, none⟩), .agg #[.int .u32 0, .int .u32 (i : Int)], .tuple #[], .pointer (some ⟨cx, 0, none⟩), .pointer (some ⟨cx, 0, none⟩), .pointer (some ⟨cx, 2, none⟩), .pointer (some ⟨cc, 0, none⟩), .pointer (some ⟨cc, 0, none⟩), .pointer (some ⟨cc, 1, none⟩), .pointer (some ⟨cx, 6, none⟩), .pointer (some ⟨cx, 6, none⟩), .pointer (some ⟨cx, 6, none⟩), .agg #[.int .i32 0], .pointer (some ⟨cx, 0, none⟩), .pointer (some ⟨cx, 0, none⟩), .pointer (some ⟨cx, 2, none⟩), .pointer (some ⟨cc, 0, none⟩), .pointer (some ⟨cc, 0, none⟩), .pointer (some ⟨cc, 1, none⟩), .pointer (some ⟨cx, 6, none⟩), .pointer (some ⟨cx, 6, none⟩), .pointer (some ⟨cx, 7, none⟩), .agg #[.int .u32 0, .int .u32 (i : Int)], .agg #[.int .u32 0, .int .u32 (i : Int), .bool false, .bool false, .bool false], .pointer (some ⟨α 21, 0, none⟩), .iface 203 (.pointer (some ⟨α 21, 0, none⟩)), .agg #[.iface 203 (.pointer (some ⟨α 21, 0, none⟩)), .int .i32 0]], []⟩ := by rw [← hfr]; kernel_rfl
  clear hfr
  subst hdf
  generalize α 21 = nd6 at hO ⊢
  clear α
  subst hX9_5
  have hN : Own w0 u [row (cx) 191 XC, row (cc) 182 (CC.setIfInBounds 1 (.pointer (some ⟨cx, 6, none⟩))), row (xqa) 27 #[.pointer (some ⟨cx, 0, none⟩)], row (B1) 155 #[.iface 203 (.pointer (some ⟨nd6, 0, none⟩)), .int .i32 0], row (nd6) 206 #[.int .u32 0, .int .u32 (i : Int), .bool false, .bool false, .bool false], row (pb) 176 PC, row (sb) 199 (full symZ (symL (bump st i)) c), row (xqb) 25 #[.pointer (some ⟨pb, 0, none⟩)], row (xqc) 202 #[.pointer none, .int .u32 4294967295, .int .u32 4294967295, .int .u32 4294967295, .int .u32 4294967295, .bool false]] X := hO.back HL.out HX.out [3, 4, 5, 7] (by decide) (by decide)
  clear hO HL HX
  have hO := hN
  clear hN
  obtain ⟨c9_2_0, lt9_2, y9_2, -⟩ := hO.k1 2 rfl
  obtain ⟨c9_3_0, c9_3_1, lt9_3, y9_3, -⟩ := hO.k2 3 rfl
  obtain ⟨c9_4_0, c9_4_1, c9_4_2, c9_4_3, c9_4_4, lt9_4, y9_4, -⟩ := hO.k5 4 rfl
  obtain ⟨c9_7_0, lt9_7, y9_7, -⟩ := hO.k1 7 rfl
  obtain ⟨c9_8_0, c9_8_1, c9_8_2, c9_8_3, c9_8_4, c9_8_5, lt9_8, y9_8, -⟩ := hO.k6 8 rfl
  have HO := Lib.hid hO
  clear hO
  have gw9_0_0 : u.cell? ⟨0, 0, none⟩ = some (.int .u32 4294967295) := Base.cell_below HO.out.below (Base.block_of_cell hg0) hg0
  have gw9_0_1 : u.cell? ⟨0, 1, none⟩ = some (.int .u32 4294967295) := Base.cell_below HO.out.below (Base.block_of_cell hg1) hg1
  have gl9_0 : 0 < u.heap.size := Base.block_of_cell gw9_0_0
  go_wp2_with (first | (with_reducible refine Own.stay (fn := Tryd.f19) ?_) | fail)
  try with_reducible refine Own.Stay.mk ?_
  have hO := HO.out
  clear HO gw9_0_0 gw9_0_1 gl9_0 c9_2_0 lt9_2 y9_2 c9_3_0 c9_3_1 lt9_3 y9_3 c9_4_0 c9_4_1 c9_4_2 c9_4_3 c9_4_4 lt9_4 y9_4 c9_7_0 lt9_7 y9_7 c9_8_0 c9_8_1 c9_8_2 c9_8_3 c9_8_4 c9_8_5 lt9_8 y9_8
  have z9_3_0 : u.cell? ⟨B1, 0, none⟩ = some (.iface 203 (.pointer (some ⟨nd6, 0, none⟩))) := hO.cell 3 rfl 0 rfl
  have z9_3_1 : u.cell? ⟨B1, 1, none⟩ = some (.int .i32 0) := hO.cell 3 rfl 1 rfl
  refine bodyPost_ret (v := .agg #[.iface 203 (.pointer (some ⟨nd6, 0, none⟩)), .int .i32 0]) ?_ rfl ⟨nd6, rfl, hO.sub [5, 6, 0, 1, 2, 7, 8, 4] (by decide)⟩
  simp [results, Tryd.results19, go_sem, z9_3_0, z9_3_1]
def nfrD1Post (pb : Nat) (PC : Array Value) (sb c : Nat) (st : List Sy) (n cx : Nat) (XC : Array Value) (cc : Nat) (CC : Array Value) (xqa xqb xqc i : Nat) (w0 : World) (X : Nat → Obj → Prop) (e : Ending) (w' : World) : Prop :=
  e = .returned (.tuple #[.int .u32 (i : Int), .bool true]) ∧ Own w0 w' [row (pb) 176 PC, row (sb) 199 (full symZ (symL (bump st i)) c), row (cx) 191 XC, row (cc) 182 (CC.setIfInBounds 1 (.pointer (some ⟨cx, 6, none⟩))), row (xqa) 27 #[.pointer (some ⟨cx, 0, none⟩)], row (xqb) 25 #[.pointer (some ⟨pb, 0, none⟩)], row (xqc) 202 #[.pointer none, .int .u32 4294967295, .int .u32 4294967295, .int .u32 4294967295, .int .u32 4294967295, .bool false]] X
set_option maxRecDepth 100000 in
set_option maxHeartbeats 1000000 in
theorem nfrD1 (pb : Nat) (PC : Array Value) (sb c : Nat) (st : List Sy) (n cx : Nat) (XC : Array Value) (cc : Nat) (CC : Array Value) (xqa xqb xqc i : Nat) (w0 w : World) (X : Nat → Obj → Prop) (hO : Own w0 w [row (pb) 176 PC, row (sb) 199 (full symZ (symL st) c), row (cx) 191 XC, row (cc) 182 CC, row (xqa) 27 #[.pointer (some ⟨cx, 0, none⟩)], row (xqb) 25 #[.pointer (some ⟨pb, 0, none⟩)], row (xqc) 202 #[.pointer none, .int .u32 4294967295, .int .u32 4294967295, .int .u32 4294967295, .int .u32 4294967295, .bool false]] X) (hk350 : PC[350]? = some (.bool false)) (hk32 : PC[32]? = some (.bool false)) (hk105 : PC[105]? = some (.pointer none)) (hk106 : PC[106]? = some (.slice (some ⟨sb, 0, none⟩) n (n + c))) (hn : st.length = n) (hnb : n ≤ 4000000) (hu : ∃ s, st[i]? = some s ∧ s.uc < 4294967295) (hxk : XC[1]? = some (.int .u8 3)) (hxc : XC[2]? = some (.pointer (some ⟨cc, 0, none⟩))) (hcn : CC[1]? = some (.pointer none)) (hd0 : XC[6]? = some (.int .i32 0)) (hd1 : XC[7]? = some (.int .u32 0)) (hd2 : XC[8]? = some (.int .u32 (i : Int))) (hg0 : w0.cell? ⟨0, 0, none⟩ = some (.int .u32 4294967295)) (hg1 : w0.cell? ⟨0, 1, none⟩ = some (.int .u32 4294967295)) (hnf : XC[39]? = some (.func (Fn.func 19) #[] #[.pointer (some ⟨xqa, 0, none⟩), .pointer (some ⟨xqb, 0, none⟩), .pointer (some ⟨xqc, 0, none⟩)])) :
    Calls Tryd.prog 13 #[.pointer (some ⟨cx, 0, none⟩)] w (nfrD1Post pb PC sb c st n cx XC cc CC xqa xqb xqc i w0 X) := by
  go_enter Tryd.func13, Tryd.ntmps13
  obtain ⟨ix9, hix9, hax9, hjx9⟩ := hO.ix
  have ix9_0 : ix9 pb = 0 := hjx9 0 _ _ rfl
  have ix9_1 : ix9 sb = 1 := hjx9 1 _ _ rfl
  have ix9_2 : ix9 cx = 2 := hjx9 2 _ _ rfl
  have ix9_3 : ix9 cc = 3 := hjx9 3 _ _ rfl
  have ix9_4 : ix9 xqa = 4 := hjx9 4 _ _ rfl
  have ix9_5 : ix9 xqb = 5 := hjx9 5 _ _ rfl
  have ix9_6 : ix9 xqc = 6 := hjx9 6 _ _ rfl
  clear hjx9
  have c9_0_32 : w.cell? ⟨pb, 32, none⟩ = some (.bool false) := hO.cell 0 rfl (32) (hk32)
  have c9_0_105 : w.cell? ⟨pb, 105, none⟩ = some (.pointer none) := hO.cell 0 rfl (105) (hk105)
  have c9_0_106 : w.cell? ⟨pb, 106, none⟩ = some (.slice (some ⟨sb, 0, none⟩) n (n + c)) := hO.cell 0 rfl (106) (hk106)
  have c9_0_350 : w.cell? ⟨pb, 350, none⟩ = some (.bool false) := hO.cell 0 rfl (350) (hk350)
  have lt9_0 : pb < w.heap.size := hO.lt 0 rfl
  have y9_0 : ∀ o, w.frozen? ⟨pb, o, none⟩ = false := hO.free 0 rfl
  have c9_2_1 : w.cell? ⟨cx, 1, none⟩ = some (.int .u8 3) := hO.cell 2 rfl (1) (hxk)
  have c9_2_2 : w.cell? ⟨cx, 2, none⟩ = some (.pointer (some ⟨cc, 0, none⟩)) := hO.cell 2 rfl (2) (hxc)
  have c9_2_6 : w.cell? ⟨cx, 6, none⟩ = some (.int .i32 0) := hO.cell 2 rfl (6) (hd0)
  have c9_2_7 : w.cell? ⟨cx, 7, none⟩ = some (.int .u32 0) := hO.cell 2 rfl (7) (hd1)
  have c9_2_8 : w.cell? ⟨cx, 8, none⟩ = some (.int .u32 (i : Int)) := hO.cell 2 rfl (8) (hd2)
  have c9_2_39 : w.cell? ⟨cx, 39, none⟩ = some (.func (Fn.func 19) #[] #[.pointer (some ⟨xqa, 0, none⟩), .pointer (some ⟨xqb, 0, none⟩), .pointer (some ⟨xqc, 0, none⟩)]) := hO.cell 2 rfl (39) (hnf)
  have lt9_2 : cx < w.heap.size := hO.lt 2 rfl
  have y9_2 : ∀ o, w.frozen? ⟨cx, o, none⟩ = false := hO.free 2 rfl
  have c9_3_1 : w.cell? ⟨cc, 1, none⟩ = some (.pointer none) := hO.cell 3 rfl (1) (hcn)
  have lt9_3 : cc < w.heap.size := hO.lt 3 rfl
  have y9_3 : ∀ o, w.frozen? ⟨cc, o, none⟩ = false := hO.free 3 rfl
  obtain ⟨c9_4_0, lt9_4, y9_4, -⟩ := hO.k1 4 rfl
  obtain ⟨c9_5_0, lt9_5, y9_5, -⟩ := hO.k1 5 rfl
  obtain ⟨c9_6_0, c9_6_1, c9_6_2, c9_6_3, c9_6_4, c9_6_5, lt9_6, y9_6, -⟩ := hO.k6 6 rfl
  have HO := Lib.hid hO
  clear hO
  go_wp2_with (first | (with_reducible refine Own.stay (fn := Tryd.f13) ?_) | fail)
  try with_reducible refine Own.Stay.mk ?_
  have hO := HO.out
  clear HO hix9 hax9 ix9_0 ix9_1 ix9_2 ix9_3 ix9_4 ix9_5 ix9_6 ix9 c9_0_32 c9_0_105 c9_0_106 c9_0_350 lt9_0 y9_0 c9_2_1 c9_2_2 c9_2_6 c9_2_7 c9_2_8 c9_2_39 lt9_2 y9_2 c9_3_1 lt9_3 y9_3 c9_4_0 lt9_4 y9_4 c9_5_0 lt9_5 y9_5 c9_6_0 c9_6_1 c9_6_2 c9_6_3 c9_6_4 c9_6_5 lt9_6 y9_6
  have hL := hO.apart
  have hX := hO.apartX
  have HL := Lib.hid hL
  have HX := Lib.hid hX
  clear hL hX
  have hP9 := hO.pick [0, 1, 2, 3, 4, 5, 6] (by decide)
  have T9 := nameD1 pb PC sb c st n cx XC cc CC xqa xqb xqc i _ _ _ hP9 hk350 hk32 hk105 hk106 hn hnb hu hxk hxc hcn hd0 hd1 hd2 hg0 hg1
  refine Calls.mono T9 ?_
  clear hP9 T9
  rintro e u1 ⟨nd2, rfl, hQ⟩
  have hN : Own w0 u1 [row (pb) 176 PC, row (sb) 199 (full symZ (symL (bump st i)) c), row (cx) 191 XC, row (cc) 182 (CC.setIfInBounds 1 (.pointer (some ⟨cx, 6, none⟩))), row (xqa) 27 #[.pointer (some ⟨cx, 0, none⟩)], row (xqb) 25 #[.pointer (some ⟨pb, 0, none⟩)], row (xqc) 202 #[.pointer none, .int .u32 4294967295, .int .u32 4294967295, .int .u32 4294967295, .int .u32 4294967295, .bool false], row (nd2) 206 #[.int .u32 0, .int .u32 (i : Int), .bool false, .bool false, .bool false]] X := hQ.back HL.out HX.out [] (by decide) (by decide)
  clear hQ HL HX hO
  have hO := hN
  clear hN
  obtain ⟨c9_4_0, lt9_4, y9_4, -⟩ := hO.k1 4 rfl
  obtain ⟨c9_5_0, lt9_5, y9_5, -⟩ := hO.k1 5 rfl
  obtain ⟨c9_6_0, c9_6_1, c9_6_2, c9_6_3, c9_6_4, c9_6_5, lt9_6, y9_6, -⟩ := hO.k6 6 rfl
  obtain ⟨c9_7_0, c9_7_1, c9_7_2, c9_7_3, c9_7_4, lt9_7, y9_7, -⟩ := hO.k5 7 rfl
  have HO := Lib.hid hO
  clear hO
  go_wp2_with (first | (with_reducible refine Own.stay (fn := Tryd.f13) ?_) | fail)
  try with_reducible refine Own.Stay.mk ?_
  have hO := HO.out
  clear HO c9_4_0 lt9_4 y9_4 c9_5_0 lt9_5 y9_5 c9_6_0 c9_6_1 c9_6_2 c9_6_3 c9_6_4 c9_6_5 lt9_6 y9_6 c9_7_0 c9_7_1 c9_7_2 c9_7_3 c9_7_4 lt9_7 y9_7
  refine bodyPost_ret (v := .tuple #[.int .u32 (i : Int), .bool true]) ?_ rfl ⟨rfl, hO.sub [0, 1, 2, 3, 4, 5, 6] (by decide)⟩
  simp [results, Tryd.results13, go_sem]
def rND21E (pb : Nat) (PC : Array Value) (sb : Nat) (c : Nat) (st : List Sy) (cx : Nat) (XC : Array Value) (cc : Nat) (CC : Array Value) (xqa : Nat) (xqb : Nat) (i : Nat) : Nat → Rega.Atoms → Value
  | 0, α => .pointer (some ⟨pb, 0, none⟩)
  | 1, α => .pointer (some ⟨cx, 0, none⟩)
  | 2, α => .pointer (some ⟨cx, 0, none⟩)
  | 3, α => .pointer (some ⟨cx, 2, none⟩)
  | 4, α => .pointer (some ⟨cc, 0, none⟩)
  | 5, α => .pointer (some ⟨cc, 0, none⟩)
  | 6, α => .pointer (some ⟨cc, 1, none⟩)
  | 7, α => .pointer (some ⟨cx, 6, none⟩)
  | 8, α => .pointer (some ⟨cx, 6, none⟩)
  | 9, α => .pointer (some ⟨cx, 7, none⟩)
  | 10, α => .agg #[.int .u32 0, .int .u32 (i : Int)]
  | 11, α => .tuple #[]
  | _, _ => undef
def rND21Anc : Nat → List Nat
  | 2 => [1]
  | 3 => [1, 2]
  | 4 => [1, 2, 3]
  | 5 => [1, 2, 3, 4]
  | 6 => [1, 2, 3, 4, 5]
  | 7 => [1, 2, 3, 4, 5, 6]
  | 8 => [1, 2, 3, 4, 5, 6, 7]
  | 9 => [1, 2, 3, 4, 5, 6, 7, 8]
  | 10 => [1, 2, 3, 4, 5, 6, 7, 8, 9]
  | 11 => [0, 1, 2, 3, 4, 5, 6, 7, 8, 9, 10]
  | _ => []
def rND21Trn : Nat → List Nat
  | 11 => [1999]
  | _ => []
def rND21Cnt : List (Nat × Nat) := []
def rND21T1999 (pb : Nat) (PC : Array Value) (sb : Nat) (c : Nat) (st : List Sy) (cx : Nat) (XC : Array Value) (cc : Nat) (CC : Array Value) (xqa : Nat) (xqb : Nat) (i : Nat) (L9 : Nat → Bool) (α : Rega.Atoms) : Rw := if L9 11 = true then row (sb) 199 (full symZ (symL (bump st i)) c) else row (sb) 199 (full symZ (symL st) c)
def rND21R (pb : Nat) (PC : Array Value) (sb : Nat) (c : Nat) (st : List Sy) (cx : Nat) (XC : Array Value) (cc : Nat) (CC : Array Value) (xqa : Nat) (xqb : Nat) (i : Nat) (L9 : Nat → Bool) (α : Rega.Atoms) (ix9 : Nat) : Rw := if ix9 = 999 then row (pb) 176 PC else if ix9 = 1999 then rND21T1999 pb PC sb c st cx XC cc CC xqa xqb i L9 α else if ix9 = 2999 then row (cx) 191 XC else if ix9 = 3999 then row (cc) 182 CC else if ix9 = 4999 then row (xqa) 27 #[.pointer (some ⟨cx, 0, none⟩)] else if ix9 = 5999 then row (xqb) 25 #[.pointer (some ⟨pb, 0, none⟩)] else (0, .map #[] 0)
theorem rND21_he (pb : Nat) (PC : Array Value) (sb : Nat) (c : Nat) (st : List Sy) (cx : Nat) (XC : Array Value) (cc : Nat) (CC : Array Value) (xqa : Nat) (xqb : Nat) (i : Nat) : ∀ kk α α', (∀ j, (j % 1000 = kk ∨ j % 1000 ∈ rND21Anc kk) → α j = α' j) → rND21E pb PC sb c st cx XC cc CC xqa xqb i kk α = rND21E pb PC sb c st cx XC cc CC xqa xqb i kk α' := by
  intro kk α α' h
  match kk with
  | 0 => rfl
  | 1 => rfl
  | 2 => rfl
  | 3 => rfl
  | 4 => rfl
  | 5 => rfl
  | 6 => rfl
  | 7 => rfl
  | 8 => rfl
  | 9 => rfl
  | 10 => rfl
  | 11 => rfl
  | n + 12 => rfl
theorem rND21_st (pb : Nat) (PC : Array Value) (sb : Nat) (c : Nat) (st : List Sy) (cx : Nat) (XC : Array Value) (cc : Nat) (CC : Array Value) (xqa : Nat) (xqb : Nat) (i : Nat) : Stable rND21Cnt 6 rND21Anc rND21Trn (rND21R pb PC sb c st cx XC cc CC xqa xqb i) := by
  intro k9 L9 α α' ix9 hk hcl hα hact ht
  have hp := act_places hact
  replace hp : ix9 ∈ [999, 1999, 2999, 3999, 4999, 5999] := hp
  simp only [List.mem_cons, List.not_mem_nil, or_false] at hp
  rcases hp with rfl | rfl | rfl | rfl | rfl | rfl
  · rfl
  · show rND21T1999 pb PC sb c st cx XC cc CC xqa xqb i (Rega.ran L9 k9) α' = rND21T1999 pb PC sb c st cx XC cc CC xqa xqb i L9 α
    unfold rND21T1999
    have n11 : 11 ≠ k9 := fun e => ht (by rw [← e]; decide)
    rw [ran_ne n11]
  · rfl
  · rfl
  · rfl
  · rfl
def rND22E (cx : Nat) (XC : Array Value) (cc : Nat) (CC : Array Value) (xqa : Nat) (i : Nat) (B1 : Nat) : Nat → Rega.Atoms → Value
  | 0, α => .pointer (some ⟨cx, 0, none⟩)
  | 1, α => .pointer (some ⟨cx, 0, none⟩)
  | 2, α => .pointer (some ⟨cx, 2, none⟩)
  | 3, α => .pointer (some ⟨cc, 0, none⟩)
  | 4, α => .pointer (some ⟨cc, 0, none⟩)
  | 5, α => .pointer (some ⟨cc, 1, none⟩)
  | 6, α => .pointer (some ⟨cx, 6, none⟩)
  | 7, α => .pointer (some ⟨cx, 6, none⟩)
  | 8, α => .pointer (some ⟨cx, 6, none⟩)
  | 9, α => .agg #[.int .i32 0]
  | 10, α => .pointer (some ⟨cx, 0, none⟩)
  | 11, α => .pointer (some ⟨cx, 0, none⟩)
  | 12, α => .pointer (some ⟨cx, 2, none⟩)
  | 13, α => .pointer (some ⟨cc, 0, none⟩)
  | 14, α => .pointer (some ⟨cc, 0, none⟩)
  | 15, α => .pointer (some ⟨cc, 1, none⟩)
  | 16, α => .pointer (some ⟨cx, 6, none⟩)
  | 17, α => .pointer (some ⟨cx, 6, none⟩)
  | 18, α => .pointer (some ⟨cx, 7, none⟩)
  | 19, α => .agg #[.int .u32 0, .int .u32 (i : Int)]
  | 20, α => .agg #[.int .u32 0, .int .u32 (i : Int), .bool false, .bool false, .bool false]
  | 21, α => .pointer (some ⟨α 21, 0, none⟩)
  | 22, α => .iface 203 (.pointer (some ⟨α 21, 0, none⟩))
  | 23, α => .agg #[.iface 203 (.pointer (some ⟨α 21, 0, none⟩)), .int .i32 0]
  | 24, α => undef
  | _, _ => undef
def rND22Anc : Nat → List Nat
  | 1 => [0]
  | 2 => [0, 1]
  | 3 => [0, 1, 2]
  | 4 => [0, 1, 2, 3]
  | 5 => [0, 1, 2, 3, 4]
  | 6 => [0, 1, 2, 3, 4, 5]
  | 7 => [0, 1, 2, 3, 4, 5, 6]
  | 8 => [0, 1, 2, 3, 4, 5, 6, 7]
  | 9 => [0, 1, 2, 3, 4, 5, 6, 7, 8]
  | 11 => [10]
  | 12 => [10, 11]
  | 13 => [10, 11, 12]
  | 14 => [10, 11, 12, 13]
  | 15 => [10, 11, 12, 13, 14]
  | 16 => [10, 11, 12, 13, 14, 15]
  | 17 => [10, 11, 12, 13, 14, 15, 16]
  | 18 => [10, 11, 12, 13, 14, 15, 16, 17]
  | 19 => [10, 11, 12, 13, 14, 15, 16, 17, 18]
  | 20 => [10, 11, 12, 13, 14, 15, 16, 17, 18, 19]
  | 21 => [10, 11, 12, 13, 14, 15, 16, 17, 18, 19, 20]
  | 22 => [10, 11, 12, 13, 14, 15, 16, 17, 18, 19, 20, 21]
  | 23 => [0, 1, 2, 3, 4, 5, 6, 7, 8, 9, 10, 11, 12, 13, 14, 15, 16, 17, 18, 19, 20, 21, 22]
  | 24 => [0, 1, 2, 3, 4, 5, 6, 7, 8, 9, 10, 11, 12, 13, 14, 15, 16, 17, 18, 19, 20, 21, 22, 23]
  | _ => []
def rND22Trn : Nat → List Nat
  | 24 => [3999]
  | _ => []
def rND22Cnt : List (Nat × Nat) := [(21, 1)]
def rND22T3999 (cx : Nat) (XC : Array Value) (cc : Nat) (CC : Array Value) (xqa : Nat) (i : Nat) (B1 : Nat) (L9 : Nat → Bool) (α : Rega.Atoms) : Rw := if L9 24 = true then row (B1) 155 #[.iface 203 (.pointer (some ⟨α 21, 0, none⟩)), .int .i32 0] else row (B1) 155 #[.nilIface, .int .i32 0]
def rND22R (cx : Nat) (XC : Array Value) (cc : Nat) (CC : Array Value) (xqa : Nat) (i : Nat) (B1 : Nat) (L9 : Nat → Bool) (α : Rega.Atoms) (ix9 : Nat) : Rw := if ix9 = 999 then row (cx) 191 XC else if ix9 = 1999 then row (cc) 182 CC else if ix9 = 2999 then row (xqa) 27 #[.pointer (some ⟨cx, 0, none⟩)] else if ix9 = 3999 then rND22T3999 cx XC cc CC xqa i B1 L9 α else if ix9 = 21 then row (α 21) 206 #[.int .u32 0, .int .u32 (i : Int), .bool false, .bool false, .bool false] else (0, .map #[] 0)
theorem rND22_he (cx : Nat) (XC : Array Value) (cc : Nat) (CC : Array Value) (xqa : Nat) (i : Nat) (B1 : Nat) : ∀ kk α α', (∀ j, (j % 1000 = kk ∨ j % 1000 ∈ rND22Anc kk) → α j = α' j) → rND22E cx XC cc CC xqa i B1 kk α = rND22E cx XC cc CC xqa i B1 kk α' := by
  intro kk α α' h
  match kk with
  | 0 => rfl
  | 1 => rfl
  | 2 => rfl
  | 3 => rfl
  | 4 => rfl
  | 5 => rfl
  | 6 => rfl
  | 7 => rfl
  | 8 => rfl
  | 9 => rfl
  | 10 => rfl
  | 11 => rfl
  | 12 => rfl
  | 13 => rfl
  | 14 => rfl
  | 15 => rfl
  | 16 => rfl
  | 17 => rfl
  | 18 => rfl
  | 19 => rfl
  | 20 => rfl
  | 21 => simp only [rND22E, h 21 (Or.inl rfl)]
  | 22 => simp only [rND22E, h 21 (Or.inr (by decide))]
  | 23 => simp only [rND22E, h 21 (Or.inr (by decide))]
  | 24 => rfl
  | n + 25 => rfl
theorem rND22_st (cx : Nat) (XC : Array Value) (cc : Nat) (CC : Array Value) (xqa : Nat) (i : Nat) (B1 : Nat) : Stable rND22Cnt 4 rND22Anc rND22Trn (rND22R cx XC cc CC xqa i B1) := by
  intro k9 L9 α α' ix9 hk hcl hα hact ht
  have hp := act_places hact
  replace hp : ix9 ∈ [999, 1999, 2999, 3999, 21] := hp
  simp only [List.mem_cons, List.not_mem_nil, or_false] at hp
  rcases hp with rfl | rfl | rfl | rfl | rfl
  · rfl
  · rfl
  · rfl
  · show rND22T3999 cx XC cc CC xqa i B1 (Rega.ran L9 k9) α' = rND22T3999 cx XC cc CC xqa i B1 L9 α
    unfold rND22T3999
    have n24 : 24 ≠ k9 := fun e => ht (by rw [← e]; decide)
    rw [ran_ne n24]
    by_cases e24 : L9 24 = true
    · first | rw [if_pos e24, if_pos e24] | rw [if_pos e24]
      try simp only [hα 21 (ne_ran hk (hcl 24 e24 21 (by decide)))]
    first | rw [if_neg e24, if_neg e24] | rw [if_neg e24]
  · have e0 : L9 21 = true := act_lt hact (by decide)
    show row (α' 21) 206 #[.int .u32 0, .int .u32 (i : Int), .bool false, .bool false, .bool false] = row (α 21) 206 #[.int .u32 0, .int .u32 (i : Int), .bool false, .bool false, .bool false]
    simp only [hα 21 (ne_ran hk e0)]
def nameD2Post (pb : Nat) (PC : Array Value) (sb c : Nat) (st : List Sy) (n cx : Nat) (XC : Array Value) (cc : Nat) (CC : Array Value) (xqa xqb xqc i : Nat) (w0 : World) (X : Nat → Obj → Prop) (e : Ending) (w' : World) : Prop :=
  ∃ b : Nat, e = .returned (.agg #[.iface 203 (.pointer (some ⟨b, 0, none⟩)), .int .i32 0]) ∧ Own w0 w' [row (pb) 176 PC, row (sb) 199 (full symZ (symL (bump st i)) c), row (cx) 191 XC, row (cc) 182 CC, row (xqa) 27 #[.pointer (some ⟨cx, 0, none⟩)], row (xqb) 25 #[.pointer (some ⟨pb, 0, none⟩)], row (xqc) 202 #[.pointer none, .int .u32 4294967295, .int .u32 4294967295, .int .u32 4294967295, .int .u32 4294967295, .bool false], row (b) 206 #[.int .u32 0, .int .u32 (i : Int), .bool false, .bool false, .bool false]] X
set_option maxRecDepth 100000 in
set_option maxHeartbeats 1000000 in
theorem nameD2 (pb : Nat) (PC : Array Value) (sb c : Nat) (st : List Sy) (n cx : Nat) (XC : Array Value) (cc : Nat) (CC : Array Value) (xqa xqb xqc i : Nat) (w0 w : World) (X : Nat → Obj → Prop) (hO : Own w0 w [row (pb) 176 PC, row (sb) 199 (full symZ (symL st) c), row (cx) 191 XC, row (cc) 182 CC, row (xqa) 27 #[.pointer (some ⟨cx, 0, none⟩)], row (xqb) 25 #[.pointer (some ⟨pb, 0, none⟩)], row (xqc) 202 #[.pointer none, .int .u32 4294967295, .int .u32 4294967295, .int .u32 4294967295, .int .u32 4294967295, .bool false]] X) (hk350 : PC[350]? = some (.bool false)) (hk32 : PC[32]? = some (.bool false)) (hk105 : PC[105]? = some (.pointer none)) (hk106 : PC[106]? = some (.slice (some ⟨sb, 0, none⟩) n (n + c))) (hn : st.length = n) (hnb : n ≤ 4000000) (hu : ∃ s, st[i]? = some s ∧ s.uc < 4294967295) (hxk : XC[1]? = some (.int .u8 3)) (hxc : XC[2]? = some (.pointer (some ⟨cc, 0, none⟩))) (hcn : CC[1]? = some (.pointer (some ⟨cx, 6, none⟩))) (hd0 : XC[6]? = some (.int .i32 0)) (hd1 : XC[7]? = some (.int .u32 0)) (hd2 : XC[8]? = some (.int .u32 (i : Int))) (hg0 : w0.cell? ⟨0, 0, none⟩ = some (.int .u32 4294967295)) (hg1 : w0.cell? ⟨0, 1, none⟩ = some (.int .u32 4294967295)) :
    Calls Tryd.prog 19 #[.pointer (some ⟨xqa, 0, none⟩), .pointer (some ⟨xqb, 0, none⟩), .pointer (some ⟨xqc, 0, none⟩)] w (nameD2Post pb PC sb c st n cx XC cc CC xqa xqb xqc i w0 X) := by
  go_enter Tryd.func19, Tryd.ntmps19
  obtain ⟨ix9, hix9, hax9, hjx9⟩ := hO.ix
  have ix9_0 : ix9 pb = 0 := hjx9 0 _ _ rfl
  have ix9_1 : ix9 sb = 1 := hjx9 1 _ _ rfl
  have ix9_2 : ix9 cx = 2 := hjx9 2 _ _ rfl
  have ix9_3 : ix9 cc = 3 := hjx9 3 _ _ rfl
  have ix9_4 : ix9 xqa = 4 := hjx9 4 _ _ rfl
  have ix9_5 : ix9 xqb = 5 := hjx9 5 _ _ rfl
  have ix9_6 : ix9 xqc = 6 := hjx9 6 _ _ rfl
  clear hjx9
  have c9_0_32 : w.cell? ⟨pb, 32, none⟩ = some (.bool false) := hO.cell 0 rfl (32) (hk32)
  have c9_0_105 : w.cell? ⟨pb, 105, none⟩ = some (.pointer none) := hO.cell 0 rfl (105) (hk105)
  have c9_0_106 : w.cell? ⟨pb, 106, none⟩ = some (.slice (some ⟨sb, 0, none⟩) n (n + c)) := hO.cell 0 rfl (106) (hk106)
  have c9_0_350 : w.cell? ⟨pb, 350, none⟩ = some (.bool false) := hO.cell 0 rfl (350) (hk350)
  have lt9_0 : pb < w.heap.size := hO.lt 0 rfl
  have y9_0 : ∀ o, w.frozen? ⟨pb, o, none⟩ = false := hO.free 0 rfl
  have c9_2_1 : w.cell? ⟨cx, 1, none⟩ = some (.int .u8 3) := hO.cell 2 rfl (1) (hxk)
  have c9_2_2 : w.cell? ⟨cx, 2, none⟩ = some (.pointer (some ⟨cc, 0, none⟩)) := hO.cell 2 rfl (2) (hxc)
  have c9_2_6 : w.cell? ⟨cx, 6, none⟩ = some (.int .i32 0) := hO.cell 2 rfl (6) (hd0)
  have c9_2_7 : w.cell? ⟨cx, 7, none⟩ = some (.int .u32 0) := hO.cell 2 rfl (7) (hd1)
  have c9_2_8 : w.cell? ⟨cx, 8, none⟩ = some (.int .u32 (i : Int)) := hO.cell 2 rfl (8) (hd2)
  have lt9_2 : cx < w.heap.size := hO.lt 2 rfl
  have y9_2 : ∀ o, w.frozen? ⟨cx, o, none⟩ = false := hO.free 2 rfl
  have c9_3_1 : w.cell? ⟨cc, 1, none⟩ = some (.pointer (some ⟨cx, 6, none⟩)) := hO.cell 3 rfl (1) (hcn)
  have lt9_3 : cc < w.heap.size := hO.lt 3 rfl
  have y9_3 : ∀ o, w.frozen? ⟨cc, o, none⟩ = false := hO.free 3 rfl
  obtain ⟨c9_4_0, lt9_4, y9_4, -⟩ := hO.k1 4 rfl
  obtain ⟨c9_5_0, lt9_5, y9_5, -⟩ := hO.k1 5 rfl
  obtain ⟨c9_6_0, c9_6_1, c9_6_2, c9_6_3, c9_6_4, c9_6_5, lt9_6, y9_6, -⟩ := hO.k6 6 rfl
  have HO := Lib.hid hO
  clear hO
  have gw9_0_0 : w.cell? ⟨0, 0, none⟩ = some (.int .u32 4294967295) := Base.cell_below HO.out.below (Base.block_of_cell hg0) hg0
  have gw9_0_1 : w.cell? ⟨0, 1, none⟩ = some (.int .u32 4294967295) := Base.cell_below HO.out.below (Base.block_of_cell hg1) hg1
  have gl9_0 : 0 < w.heap.size := Base.block_of_cell gw9_0_0
  go_wp2_with (first | (with_reducible refine Own.stay (fn := Tryd.f19) ?_) | fail)
  try with_reducible refine Own.Stay.mk ?_
  have hO := HO.out
  clear HO hix9 hax9 ix9_0 ix9_1 ix9_2 ix9_3 ix9_4 ix9_5 ix9_6 ix9 gw9_0_0 gw9_0_1 gl9_0 c9_0_32 c9_0_105 c9_0_106 c9_0_350 lt9_0 y9_0 c9_2_1 c9_2_2 c9_2_6 c9_2_7 c9_2_8 lt9_2 y9_2 c9_3_1 lt9_3 y9_3 c9_4_0 lt9_4 y9_4 c9_5_0 lt9_5 y9_5 c9_6_0 c9_6_1 c9_6_2 c9_6_3 c9_6_4 c9_6_5 lt9_6 y9_6
  generalize hW : World.alloc _ _ = W2
  have hN : Own w0 W2 [row (w.heap.size) 155 #[.nilIface, .int .i32 0], row (pb) 176 PC, row (sb) 199 (full symZ (symL st) c), row (cx) 191 XC, row (cc) 182 CC, row (xqa) 27 #[.pointer (some ⟨cx, 0, none⟩)], row (xqb) 25 #[.pointer (some ⟨pb, 0, none⟩)], row (xqc) 202 #[.pointer none, .int .u32 4294967295, .int .u32 4294967295, .int .u32 4294967295, .int .u32 4294967295, .bool false]] X := by
    rw [← hW]
    exact (hO).alloc' _ (w.heap.size) (by simp)
  clear hW hO
  generalize w.heap.size = B1 at hN ⊢
  have hO := hN
  clear hN
  have hL := hO.apart
  have hX := hO.apartX
  have HL := Lib.hid hL
  have HX := Lib.hid hX
  clear hL hX
  have hP9 := hO.pick [1, 2, 3, 4, 5, 6] (by decide)
  generalize hX9_3 : Own.Rest _ _ X = X9_3 at hP9
  replace hP9 : Own w0 W2 [row (pb) 176 PC, row (sb) 199 (full symZ (symL st) c), row (cx) 191 XC, row (cc) 182 CC, row (xqa) 27 #[.pointer (some ⟨cx, 0, none⟩)], row (xqb) 25 #[.pointer (some ⟨pb, 0, none⟩)]] X9_3 := hP9
  clear hO
  have hO := hP9
  clear hP9
  have st9 := rND21_st pb PC sb c st cx XC cc CC xqa xqb i
  let R9 := rND21R pb PC sb c st cx XC cc CC xqa xqb i
  refine wp_region_own (e := rND21E pb PC sb c st cx XC cc CC xqa xqb i) (anc := rND21Anc) (G := (fun L9 α u9 => OwnF w0 u9 (act rND21Cnt 6 L9) (rND21R pb PC sb c st cx XC cc CC xqa xqb i L9 α) X9_3)) (by kernel_rfl) (by kernel_rfl) (by kernel_rfl) (by kernel_rfl) (rND21_he pb PC sb c st cx XC cc CC xqa xqb i) ?_ (RunsAll.all ?_) ?_
  · have hp : ∀ i, act rND21Cnt 6 (fun _ => false) i → i ∈ [999, 1999, 2999, 3999, 4999, 5999] := by
      intro i hi
      have h9 : i % 1000 = 999 := by
        by_cases h : i % 1000 = 999
        · exact h
        · exact absurd (act_lt hi h) (by simp)
      unfold act at hi
      rw [if_pos h9] at hi
      simp only [List.mem_cons, List.not_mem_nil, or_false]
      omega
    refine hO.drew.family (fun i hi => ?_) (fun i j hi hj hij => ?_)
    · have := hp i hi
      simp only [List.mem_cons, List.not_mem_nil, or_false] at this
      rcases this with rfl | rfl | rfl | rfl | rfl | rfl <;> rfl
    · have h1 := hp i hi
      have h2 := hp j hj
      simp only [List.mem_cons, List.not_mem_nil, or_false] at h1 h2
      omega
  · refine ⟨?_, ?_, ?_, ?_, ?_, ?_, ?_, ?_, ?_, ?_, ?_, ?_, trivial⟩
    · intro L9 α a9 u9 K9 hL hcl hA hG hS h0 hK
      replace hL : L9 0 = false := hL
      have q1 : a9.tmps[1]? = some (.pointer (some ⟨xqb, 0, none⟩)) := (h0 1 (by kernel_rfl)).trans rfl
      have s1 := Rega.eval_of q1
      have e0 : R9 L9 α 5999 = row (xqb) 25 #[.pointer (some ⟨pb, 0, none⟩)] := rfl
      have hr := hG.rowAt 5999 (act_base 5999 rfl) e0
      have c0 : u9.cell? ⟨xqb, 0, none⟩ = some (.pointer (some ⟨pb, 0, none⟩)) := hr.cell rfl
      clear hr e0
      go_simp
      exact hK _ α _ (fun _ _ => rfl) rfl (step_same (st9) hL hcl rfl rfl hG)
    · intro L9 α a9 u9 K9 hL hcl hA hG hS h0 hK
      replace hL : L9 1 = false := hL
      have q0 : a9.tmps[0]? = some (.pointer (some ⟨xqa, 0, none⟩)) := (h0 0 (by kernel_rfl)).trans rfl
      have s0 := Rega.eval_of q0
      have e0 : R9 L9 α 4999 = row (xqa) 27 #[.pointer (some ⟨cx, 0, none⟩)] := rfl
      have hr := hG.rowAt 4999 (act_base 4999 rfl) e0
      have c0 : u9.cell? ⟨xqa, 0, none⟩ = some (.pointer (some ⟨cx, 0, none⟩)) := hr.cell rfl
      clear hr e0
      go_simp
      exact hK _ α _ (fun _ _ => rfl) rfl (step_same (st9) hL hcl rfl rfl hG)
    · intro L9 α a9 u9 K9 hL hcl hA hG hS h0 hK
      replace hL : L9 2 = false := hL
      have q157 : a9.tmps[157]? = some (.pointer (some ⟨cx, 0, none⟩)) := hS 1 157 (by decide) rfl (by show 157 < 192; decide)
      have s157 := Rega.eval_of q157
      go_simp
      exact hK _ α _ (fun _ _ => rfl) rfl (step_same (st9) hL hcl rfl rfl hG)
    · intro L9 α a9 u9 K9 hL hcl hA hG hS h0 hK
      replace hL : L9 3 = false := hL
      have q158 : a9.tmps[158]? = some (.pointer (some ⟨cx, 0, none⟩)) := hS 2 158 (by decide) rfl (by show 158 < 192; decide)
      have s158 := Rega.eval_of q158
      go_simp
      exact hK _ α _ (fun _ _ => rfl) rfl (step_same (st9) hL hcl rfl rfl hG)
    · intro L9 α a9 u9 K9 hL hcl hA hG hS h0 hK
      replace hL : L9 4 = false := hL
      have q159 : a9.tmps[159]? = some (.pointer (some ⟨cx, 2, none⟩)) := hS 3 159 (by decide) rfl (by show 159 < 192; decide)
      have s159 := Rega.eval_of q159
      have e0 : R9 L9 α 2999 = row (cx) 191 XC := rfl
      have hr := hG.rowAt 2999 (act_base 2999 rfl) e0
      have c0 : u9.cell? ⟨cx, 2, none⟩ = some (.pointer (some ⟨cc, 0, none⟩)) := hr.cell (hxc)
      clear hr e0
      go_simp
      exact hK _ α _ (fun _ _ => rfl) rfl (step_same (st9) hL hcl rfl rfl hG)
    · intro L9 α a9 u9 K9 hL hcl hA hG hS h0 hK
      replace hL : L9 5 = false := hL
      have q160 : a9.tmps[160]? = some (.pointer (some ⟨cc, 0, none⟩)) := hS 4 160 (by decide) rfl (by show 160 < 192; decide)
      have s160 := Rega.eval_of q160
      go_simp
      exact hK _ α _ (fun _ _ => rfl) rfl (step_same (st9) hL hcl rfl rfl hG)
    · intro L9 α a9 u9 K9 hL hcl hA hG hS h0 hK
      replace hL : L9 6 = false := hL
      have q161 : a9.tmps[161]? = some (.pointer (some ⟨cc, 0, none⟩)) := hS 5 161 (by decide) rfl (by show 161 < 192; decide)
      have s161 := Rega.eval_of q161
      go_simp
      exact hK _ α _ (fun _ _ => rfl) rfl (step_same (st9) hL hcl rfl rfl hG)
    · intro L9 α a9 u9 K9 hL hcl hA hG hS h0 hK
      replace hL : L9 7 = false := hL
      have q162 : a9.tmps[162]? = some (.pointer (some ⟨cc, 1, none⟩)) := hS 6 162 (by decide) rfl (by show 162 < 192; decide)
      have s162 := Rega.eval_of q162
      have e0 : R9 L9 α 3999 = row (cc) 182 CC := rfl
      have hr := hG.rowAt 3999 (act_base 3999 rfl) e0
      have c0 : u9.cell? ⟨cc, 1, none⟩ = some (.pointer (some ⟨cx, 6, none⟩)) := hr.cell (hcn)
      clear hr e0
      go_simp
      exact hK _ α _ (fun _ _ => rfl) rfl (step_same (st9) hL hcl rfl rfl hG)
    · intro L9 α a9 u9 K9 hL hcl hA hG hS h0 hK
      replace hL : L9 8 = false := hL
      have q163 : a9.tmps[163]? = some (.pointer (some ⟨cx, 6, none⟩)) := hS 7 163 (by decide) rfl (by show 163 < 192; decide)
      have s163 := Rega.eval_of q163
      go_simp
      exact hK _ α _ (fun _ _ => rfl) rfl (step_same (st9) hL hcl rfl rfl hG)
    · intro L9 α a9 u9 K9 hL hcl hA hG hS h0 hK
      replace hL : L9 9 = false := hL
      have q164 : a9.tmps[164]? = some (.pointer (some ⟨cx, 6, none⟩)) := hS 8 164 (by decide) rfl (by show 164 < 192; decide)
      have s164 := Rega.eval_of q164
      go_simp
      exact hK _ α _ (fun _ _ => rfl) rfl (step_same (st9) hL hcl rfl rfl hG)
    · intro L9 α a9 u9 K9 hL hcl hA hG hS h0 hK
      replace hL : L9 10 = false := hL
      have q165 : a9.tmps[165]? = some (.pointer (some ⟨cx, 7, none⟩)) := hS 9 165 (by decide) rfl (by show 165 < 192; decide)
      have s165 := Rega.eval_of q165
      have e0 : R9 L9 α 2999 = row (cx) 191 XC := rfl
      have hr := hG.rowAt 2999 (act_base 2999 rfl) e0
      have c0 : u9.cell? ⟨cx, 7, none⟩ = some (.int .u32 0) := hr.cell (hd1)
      have c1 : u9.cell? ⟨cx, 8, none⟩ = some (.int .u32 (i : Int)) := hr.cell (hd2)
      clear hr e0
      go_simp
      exact hK _ α _ (fun _ _ => rfl) rfl (step_same (st9) hL hcl rfl rfl hG)
    · intro L9 α a9 u9 K9 hL hcl hA hG hS h0 hK
      replace hL : L9 11 = false := hL
      have q156 : a9.tmps[156]? = some (.pointer (some ⟨pb, 0, none⟩)) := hS 0 156 (by decide) rfl (by show 156 < 192; decide)
      have s156 := Rega.eval_of q156
      have q166 : a9.tmps[166]? = some (.agg #[.int .u32 0, .int .u32 (i : Int)]) := hS 10 166 (by decide) rfl (by show 166 < 192; decide)
      have s166 := Rega.eval_of q166
      go_simp
      have e0 : R9 L9 α 999 = row (pb) 176 PC := rfl
      have e1 : R9 L9 α 1999 = row (sb) 199 (full symZ (symL st) c) := by
        show rND21T1999 pb PC sb c st cx XC cc CC xqa xqb i L9 α = _
        unfold rND21T1999
        rw [if_neg (by rw [hL]; decide)]
      have hM : ∀ i, i ∈ [999, 1999] → act rND21Cnt 6 L9 i := by
        intro i hi
        simp only [List.mem_cons, List.not_mem_nil, or_false] at hi
        rcases hi with rfl | rfl
        · exact act_base 999 rfl
        · exact act_base 1999 rfl
      have hP : Own w0 u9 [row (pb) 176 PC, row (sb) 199 (full symZ (symL st) c)] _ := (hG.pick [999, 1999] (by decide) hM).conv (by
        show [R9 L9 α 999, R9 L9 α 1999] = _
        rw [e0, e1])
      clear e0 e1 hM
      refine Calls.mono (useG pb PC sb c st n 0 i _ _ _ hP hk350 hk32 hk105 hk106 hn hnb hu) ?_
      rintro e9 u1 ⟨rfl, hQ⟩
      obtain ⟨α', hα'⟩ : ∃ α' : Rega.Atoms, α' = α := ⟨_, rfl⟩
      have f0 : R9 (Rega.ran L9 11) α' 999 = row (pb) 176 PC := rfl
      have f1 : R9 (Rega.ran L9 11) α' 1999 = row (sb) 199 (full symZ (symL (bump st i)) c) := by
        show rND21T1999 pb PC sb c st cx XC cc CC xqa xqb i (Rega.ran L9 11) α' = _
        unfold rND21T1999
        rw [if_pos (show Rega.ran L9 11 11 = true from rfl)]
      have hα : ∀ j, j % 1000 ≠ 11 → α' j = α j := fun j hj => by rw [hα']
      skip
      refine hK _ α' _ hα ?_ (step_call (st9) hL hcl hα [999, 1999] [999, 1999] (by decide) (by decide) (by decide) (M := _) ?_ hG hQ)
      · rfl
      · show [R9 (Rega.ran L9 11) α' 999, R9 (Rega.ran L9 11) α' 1999] = _
        rw [f0, f1]
  clear st9
  intro α u hG
  have e0 : R9 (fun k => decide (k < 12)) α 999 = row (pb) 176 PC := rfl
  have e1 : R9 (fun k => decide (k < 12)) α 1999 = row (sb) 199 (full symZ (symL (bump st i)) c) := by
    show rND21T1999 pb PC sb c st cx XC cc CC xqa xqb i (fun k => decide (k < 12)) α = _
    unfold rND21T1999
    rw [if_pos (by decide)]
  have e2 : R9 (fun k => decide (k < 12)) α 2999 = row (cx) 191 XC := rfl
  have e3 : R9 (fun k => decide (k < 12)) α 3999 = row (cc) 182 CC := rfl
  have e4 : R9 (fun k => decide (k < 12)) α 4999 = row (xqa) 27 #[.pointer (some ⟨cx, 0, none⟩)] := rfl
  have e5 : R9 (fun k => decide (k < 12)) α 5999 = row (xqb) 25 #[.pointer (some ⟨pb, 0, none⟩)] := rfl
  have hO : Own w0 u [row (pb) 176 PC, row (sb) 199 (full symZ (symL (bump st i)) c), row (cx) 191 XC, row (cc) 182 CC, row (xqa) 27 #[.pointer (some ⟨cx, 0, none⟩)], row (xqb) 25 #[.pointer (some ⟨pb, 0, none⟩)]] X9_3 := (hG.list [999, 1999, 2999, 3999, 4999, 5999] (by decide) (act_all (by decide))).conv (by
    show [R9 (fun k => decide (k < 12)) α 999, R9 (fun k => decide (k < 12)) α 1999, R9 (fun k => decide (k < 12)) α 2999, R9 (fun k => decide (k < 12)) α 3999, R9 (fun k => decide (k < 12)) α 4999, R9 (fun k => decide (k < 12)) α 5999] = _
    rw [e0, e1, e2, e3, e4, e5])
  clear hG e0 e1 e2 e3 e4 e5 R9
  generalize hfr : Rega.frameAt _ _ _ _ _ = fr
  have hdf : fr = ⟨#[.pointer (some ⟨xqa, 0, none⟩), .pointer (some ⟨xqb, 0, none⟩), .pointer (some ⟨xqc, 0, none⟩), .pointer (some ⟨B1, 0, none⟩), undef, undef, .pointer (some ⟨cx, 0, none⟩), .pointer (some ⟨cx, 0, none⟩), .pointer (some ⟨cx, 1, none⟩), .int .u8 3, .bool false, undef, undef, undef, undef, undef, undef, undef, undef, undef, undef, undef, undef, undef, undef, undef, undef, undef, undef, undef, undef, undef, undef, undef, undef, undef, undef, undef, undef, undef, undef, undef, undef, undef, undef, undef, undef, undef, undef, undef, undef, undef, undef, undef, undef, undef, undef, undef, undef, undef, undef, undef, undef, undef, undef, undef, undef, undef, undef, undef, undef, undef, undef, undef, undef, undef, undef, undef, undef, undef, undef, undef, undef, undef, undef, undef, undef, undef, undef, undef, undef, undef, undef, undef, undef, undef, .pointer (some ⟨xqc, 1, none⟩), .agg #[.int .u32 4294967295, .int .u32 4294967295], .agg #[.int .u32 4294967295, .int .u32 4294967295], .bool false, undef, undef, undef, undef, undef, undef, undef, undef, undef, undef, undef, undef, undef, undef, undef, undef, undef, undef, undef, undef, .pointer (some ⟨cx, 0, none⟩), .pointer (some ⟨cx, 0, none⟩), .pointer (some ⟨cx, 2, none⟩), .pointer (some ⟨cc, 0, none⟩), .pointer (some ⟨cc, 0, none⟩), .pointer (some ⟨cc, 1, none⟩), .pointer (some ⟨cx, 6, none⟩), .bool false, undef, undef, undef, undef, undef, undef, undef, undef, undef, undef, undef, undef, undef, undef, undef, undef, undef, undef, undef, undef, undef, undef, undef, undef, undef, undef, undef, undef, .pointer (some ⟨pb, 0, none⟩), .pointer (some ⟨cx, 0, none⟩), .pointer (some ⟨cx, 0, none⟩), .pointer (some ⟨cx, 2, none⟩), .pointer (some ⟨cc, 0, none⟩), .pointer (some ⟨cc, 0, none⟩), .pointer (some ⟨cc, 1, none⟩), .pointer (some ⟨cx, 6, none⟩), .pointer (some ⟨cx, 6, none⟩), .pointer (some ⟨cx, 7, none⟩), .agg #[.int .u32 0, .int .u32 (i : Int)], .tuple #[], undef, undef, undef, undef, undef, undef, undef, undef, undef, undef, undef, undef, undef, undef, undef, undef, undef, undef, undef, undef, undef, undef, undef, undef], []⟩ := by rw [← hfr]; kernel_rfl
  clear hfr
  subst hdf
  clear α
  subst hX9_3
  have hN : Own w0 u [row (pb) 176 PC, row (sb) 199 (full symZ (symL (bump st i)) c), row (cx) 191 XC, row (cc) 182 CC, row (xqa) 27 #[.pointer (some ⟨cx, 0, none⟩)], row (xqb) 25 #[.pointer (some ⟨pb, 0, none⟩)], row (B1) 155 #[.nilIface, .int .i32 0], row (xqc) 202 #[.pointer none, .int .u32 4294967295, .int .u32 4294967295, .int .u32 4294967295, .int .u32 4294967295, .bool false]] X := hO.back HL.out HX.out [0, 7] (by decide) (by decide)
  clear hO HL HX
  have hO := hN
  clear hN
  obtain ⟨c9_4_0, lt9_4, y9_4, -⟩ := hO.k1 4 rfl
  obtain ⟨c9_5_0, lt9_5, y9_5, -⟩ := hO.k1 5 rfl
  obtain ⟨c9_6_0, c9_6_1, lt9_6, y9_6, -⟩ := hO.k2 6 rfl
  obtain ⟨c9_7_0, c9_7_1, c9_7_2, c9_7_3, c9_7_4, c9_7_5, lt9_7, y9_7, -⟩ := hO.k6 7 rfl
  have HO := Lib.hid hO
  clear hO
  have gw9_0_0 : u.cell? ⟨0, 0, none⟩ = some (.int .u32 4294967295) := Base.cell_below HO.out.below (Base.block_of_cell hg0) hg0
  have gw9_0_1 : u.cell? ⟨0, 1, none⟩ = some (.int .u32 4294967295) := Base.cell_below HO.out.below (Base.block_of_cell hg1) hg1
  have gl9_0 : 0 < u.heap.size := Base.block_of_cell gw9_0_0
  go_wp2_with (first | (with_reducible refine Own.stay (fn := Tryd.f19) ?_) | fail)
  try with_reducible refine Own.Stay.mk ?_
  have hO := HO.out
  clear HO gw9_0_0 gw9_0_1 gl9_0 c9_4_0 lt9_4 y9_4 c9_5_0 lt9_5 y9_5 c9_6_0 c9_6_1 lt9_6 y9_6 c9_7_0 c9_7_1 c9_7_2 c9_7_3 c9_7_4 c9_7_5 lt9_7 y9_7
  have hL := hO.apart
  have hX := hO.apartX
  have HL := Lib.hid hL
  have HX := Lib.hid hX
  clear hL hX
  have hP9 := hO.pick [2, 3, 4, 6] (by decide)
  generalize hX9_4 : Own.Rest _ _ X = X9_4 at hP9
  replace hP9 : Own w0 u [row (cx) 191 XC, row (cc) 182 CC, row (xqa) 27 #[.pointer (some ⟨cx, 0, none⟩)], row (B1) 155 #[.nilIface, .int .i32 0]] X9_4 := hP9
  clear hO
  have hO := hP9
  clear hP9
  have st9 := rND22_st cx XC cc CC xqa i B1
  let R9 := rND22R cx XC cc CC xqa i B1
  refine wp_region_own (e := rND22E cx XC cc CC xqa i B1) (anc := rND22Anc) (G := (fun L9 α u9 => OwnF w0 u9 (act rND22Cnt 4 L9) (rND22R cx XC cc CC xqa i B1 L9 α) X9_4)) (by kernel_rfl) (by kernel_rfl) (by kernel_rfl) (by kernel_rfl) (rND22_he cx XC cc CC xqa i B1) ?_ (RunsAll.all ?_) ?_
  · have hp : ∀ i, act rND22Cnt 4 (fun _ => false) i → i ∈ [999, 1999, 2999, 3999] := by
      intro i hi
      have h9 : i % 1000 = 999 := by
        by_cases h : i % 1000 = 999
        · exact h
        · exact absurd (act_lt hi h) (by simp)
      unfold act at hi
      rw [if_pos h9] at hi
      simp only [List.mem_cons, List.not_mem_nil, or_false]
      omega
    refine hO.drew.family (fun i hi => ?_) (fun i j hi hj hij => ?_)
    · have := hp i hi
      simp only [List.mem_cons, List.not_mem_nil, or_false] at this
      rcases this with rfl | rfl | rfl | rfl <;> rfl
    · have h1 := hp i hi
      have h2 := hp j hj
      simp only [List.mem_cons, List.not_mem_nil, or_false] at h1 h2
      omega
  · refine ⟨?_, ?_, ?_, ?_, ?_, ?_, ?_, ?_, ?_, ?_, ?_, ?_, ?_, ?_, ?_, ?_, ?_, ?_, ?_, ?_, ?_, ?_, ?_, ?_, ?_, trivial⟩
    · intro L9 α a9 u9 K9 hL hcl hA hG hS h0 hK
      replace hL : L9 0 = false := hL
      have q0 : a9.tmps[0]? = some (.pointer (some ⟨xqa, 0, none⟩)) := (h0 0 (by kernel_rfl)).trans rfl
      have s0 := Rega.eval_of q0
      have e0 : R9 L9 α 2999 = row (xqa) 27 #[.pointer (some ⟨cx, 0, none⟩)] := rfl
      have hr := hG.rowAt 2999 (act_base 2999 rfl) e0
      have c0 : u9.cell? ⟨xqa, 0, none⟩ = some (.pointer (some ⟨cx, 0, none⟩)) := hr.cell rfl
      clear hr e0
      go_simp
      exact hK _ α _ (fun _ _ => rfl) rfl (step_same (st9) hL hcl rfl rfl hG)
    · intro L9 α a9 u9 K9 hL hcl hA hG hS h0 hK
      replace hL : L9 1 = false := hL
      have q168 : a9.tmps[168]? = some (.pointer (some ⟨cx, 0, none⟩)) := hS 0 168 (by decide) rfl (by show 168 < 192; decide)
      have s168 := Rega.eval_of q168
      go_simp
      exact hK _ α _ (fun _ _ => rfl) rfl (step_same (st9) hL hcl rfl rfl hG)
    · intro L9 α a9 u9 K9 hL hcl hA hG hS h0 hK
      replace hL : L9 2 = false := hL
      have q169 : a9.tmps[169]? = some (.pointer (some ⟨cx, 0, none⟩)) := hS 1 169 (by decide) rfl (by show 169 < 192; decide)
      have s169 := Rega.eval_of q169
      go_simp
      exact hK _ α _ (fun _ _ => rfl) rfl (step_same (st9) hL hcl rfl rfl hG)
    · intro L9 α a9 u9 K9 hL hcl hA hG hS h0 hK
      replace hL : L9 3 = false := hL
      have q170 : a9.tmps[170]? = some (.pointer (some ⟨cx, 2, none⟩)) := hS 2 170 (by decide) rfl (by show 170 < 192; decide)
      have s170 := Rega.eval_of q170
      have e0 : R9 L9 α 999 = row (cx) 191 XC := rfl
      have hr := hG.rowAt 999 (act_base 999 rfl) e0
      have c0 : u9.cell? ⟨cx, 2, none⟩ = some (.pointer (some ⟨cc, 0, none⟩)) := hr.cell (hxc)
      clear hr e0
      go_simp
      exact hK _ α _ (fun _ _ => rfl) rfl (step_same (st9) hL hcl rfl rfl hG)
    · intro L9 α a9 u9 K9 hL hcl hA hG hS h0 hK
      replace hL : L9 4 = false := hL
      have q171 : a9.tmps[171]? = some (.pointer (some ⟨cc, 0, none⟩)) := hS 3 171 (by decide) rfl (by show 171 < 192; decide)
      have s171 := Rega.eval_of q171
      go_simp
      exact hK _ α _ (fun _ _ => rfl) rfl (step_same (st9) hL hcl rfl rfl hG)
    · intro L9 α a9 u9 K9 hL hcl hA hG hS h0 hK
      replace hL : L9 5 = false := hL
      have q172 : a9.tmps[172]? = some (.pointer (some ⟨cc, 0, none⟩)) := hS 4 172 (by decide) rfl (by show 172 < 192; decide)
      have s172 := Rega.eval_of q172
      go_simp
      exact hK _ α _ (fun _ _ => rfl) rfl (step_same (st9) hL hcl rfl rfl hG)
    · intro L9 α a9 u9 K9 hL hcl hA hG hS h0 hK
      replace hL : L9 6 = false := hL
      have q173 : a9.tmps[173]? = some (.pointer (some ⟨cc, 1, none⟩)) := hS 5 173 (by decide) rfl (by show 173 < 192; decide)
      have s173 := Rega.eval_of q173
      have e0 : R9 L9 α 1999 = row (cc) 182 CC := rfl
      have hr := hG.rowAt 1999 (act_base 1999 rfl) e0
      have c0 : u9.cell? ⟨cc, 1, none⟩ = some (.pointer (some ⟨cx, 6, none⟩)) := hr.cell (hcn)
      clear hr e0
      go_simp
      exact hK _ α _ (fun _ _ => rfl) rfl (step_same (st9) hL hcl rfl rfl hG)
    · intro L9 α a9 u9 K9 hL hcl hA hG hS h0 hK
      replace hL : L9 7 = false := hL
      have q174 : a9.tmps[174]? = some (.pointer (some ⟨cx, 6, none⟩)) := hS 6 174 (by decide) rfl (by show 174 < 192; decide)
      have s174 := Rega.eval_of q174
      go_simp
      exact hK _ α _ (fun _ _ => rfl) rfl (step_same (st9) hL hcl rfl rfl hG)
    · intro L9 α a9 u9 K9 hL hcl hA hG hS h0 hK
      replace hL : L9 8 = false := hL
      have q175 : a9.tmps[175]? = some (.pointer (some ⟨cx, 6, none⟩)) := hS 7 175 (by decide) rfl (by show 175 < 192; decide)
      have s175 := Rega.eval_of q175
      go_simp
      exact hK _ α _ (fun _ _ => rfl) rfl (step_same (st9) hL hcl rfl rfl hG)
    · intro L9 α a9 u9 K9 hL hcl hA hG hS h0 hK
      replace hL : L9 9 = false := hL
      have q176 : a9.tmps[176]? = some (.pointer (some ⟨cx, 6, none⟩)) := hS 8 176 (by decide) rfl (by show 176 < 192; decide)
      have s176 := Rega.eval_of q176
      have e0 : R9 L9 α 999 = row (cx) 191 XC := rfl
      have hr := hG.rowAt 999 (act_base 999 rfl) e0
      have c0 : u9.cell? ⟨cx, 6, none⟩ = some (.int .i32 0) := hr.cell (hd0)
      clear hr e0
      go_simp
      exact hK _ α _ (fun _ _ => rfl) rfl (step_same (st9) hL hcl rfl rfl hG)
    · intro L9 α a9 u9 K9 hL hcl hA hG hS h0 hK
      replace hL : L9 10 = false := hL
      have q0 : a9.tmps[0]? = some (.pointer (some ⟨xqa, 0, none⟩)) := (h0 0 (by kernel_rfl)).trans rfl
      have s0 := Rega.eval_of q0
      have e0 : R9 L9 α 2999 = row (xqa) 27 #[.pointer (some ⟨cx, 0, none⟩)] := rfl
      have hr := hG.rowAt 2999 (act_base 2999 rfl) e0
      have c0 : u9.cell? ⟨xqa, 0, none⟩ = some (.pointer (some ⟨cx, 0, none⟩)) := hr.cell rfl
      clear hr e0
      go_simp
      exact hK _ α _ (fun _ _ => rfl) rfl (step_same (st9) hL hcl rfl rfl hG)
    · intro L9 α a9 u9 K9 hL hcl hA hG hS h0 hK
      replace hL : L9 11 = false := hL
      have q178 : a9.tmps[178]? = some (.pointer (some ⟨cx, 0, none⟩)) := hS 10 178 (by decide) rfl (by show 178 < 192; decide)
      have s178 := Rega.eval_of q178
      go_simp
      exact hK _ α _ (fun _ _ => rfl) rfl (step_same (st9) hL hcl rfl rfl hG)
    · intro L9 α a9 u9 K9 hL hcl hA hG hS h0 hK
      replace hL : L9 12 = false := hL
      have q179 : a9.tmps[179]? = some (.pointer (some ⟨cx, 0, none⟩)) := hS 11 179 (by decide) rfl (by show 179 < 192; decide)
      have s179 := Rega.eval_of q179
      go_simp
      exact hK _ α _ (fun _ _ => rfl) rfl (step_same (st9) hL hcl rfl rfl hG)
    · intro L9 α a9 u9 K9 hL hcl hA hG hS h0 hK
      replace hL : L9 13 = false := hL
      have q180 : a9.tmps[180]? = some (.pointer (some ⟨cx, 2, none⟩)) := hS 12 180 (by decide) rfl (by show 180 < 192; decide)
      have s180 := Rega.eval_of q180
      have e0 : R9 L9 α 999 = row (cx) 191 XC := rfl
      have hr := hG.rowAt 999 (act_base 999 rfl) e0
      have c0 : u9.cell? ⟨cx, 2, none⟩ = some (.pointer (some ⟨cc, 0, none⟩)) := hr.cell (hxc)
      clear hr e0
      go_simp
      exact hK _ α _ (fun _ _ => rfl) rfl (step_same (st9) hL hcl rfl rfl hG)
    · intro L9 α a9 u9 K9 hL hcl hA hG hS h0 hK
      replace hL : L9 14 = false := hL
      have q181 : a9.tmps[181]? = some (.pointer (some ⟨cc, 0, none⟩)) := hS 13 181 (by decide) rfl (by show 181 < 192; decide)
      have s181 := Rega.eval_of q181
      go_simp
      exact hK _ α _ (fun _ _ => rfl) rfl (step_same (st9) hL hcl rfl rfl hG)
    · intro L9 α a9 u9 K9 hL hcl hA hG hS h0 hK
      replace hL : L9 15 = false := hL
      have q182 : a9.tmps[182]? = some (.pointer (some ⟨cc, 0, none⟩)) := hS 14 182 (by decide) rfl (by show 182 < 192; decide)
      have s182 := Rega.eval_of q182
      go_simp
      exact hK _ α _ (fun _ _ => rfl) rfl (step_same (st9) hL hcl rfl rfl hG)
    · intro L9 α a9 u9 K9 hL hcl hA hG hS h0 hK
      replace hL : L9 16 = false := hL
      have q183 : a9.tmps[183]? = some (.pointer (some ⟨cc, 1, none⟩)) := hS 15 183 (by decide) rfl (by show 183 < 192; decide)
      have s183 := Rega.eval_of q183
      have e0 : R9 L9 α 1999 = row (cc) 182 CC := rfl
      have hr := hG.rowAt 1999 (act_base 1999 rfl) e0
      have c0 : u9.cell? ⟨cc, 1, none⟩ = some (.pointer (some ⟨cx, 6, none⟩)) := hr.cell (hcn)
      clear hr e0
      go_simp
      exact hK _ α _ (fun _ _ => rfl) rfl (step_same (st9) hL hcl rfl rfl hG)
    · intro L9 α a9 u9 K9 hL hcl hA hG hS h0 hK
      replace hL : L9 17 = false := hL
      have q184 : a9.tmps[184]? = some (.pointer (some ⟨cx, 6, none⟩)) := hS 16 184 (by decide) rfl (by show 184 < 192; decide)
      have s184 := Rega.eval_of q184
      go_simp
      exact hK _ α _ (fun _ _ => rfl) rfl (step_same (st9) hL hcl rfl rfl hG)
    · intro L9 α a9 u9 K9 hL hcl hA hG hS h0 hK
      replace hL : L9 18 = false := hL
      have q185 : a9.tmps[185]? = some (.pointer (some ⟨cx, 6, none⟩)) := hS 17 185 (by decide) rfl (by show 185 < 192; decide)
      have s185 := Rega.eval_of q185
      go_simp
      exact hK _ α _ (fun _ _ => rfl) rfl (step_same (st9) hL hcl rfl rfl hG)
    · intro L9 α a9 u9 K9 hL hcl hA hG hS h0 hK
      replace hL : L9 19 = false := hL
      have q186 : a9.tmps[186]? = some (.pointer (some ⟨cx, 7, none⟩)) := hS 18 186 (by decide) rfl (by show 186 < 192; decide)
      have s186 := Rega.eval_of q186
      have e0 : R9 L9 α 999 = row (cx) 191 XC := rfl
      have hr := hG.rowAt 999 (act_base 999 rfl) e0
      have c0 : u9.cell? ⟨cx, 7, none⟩ = some (.int .u32 0) := hr.cell (hd1)
      have c1 : u9.cell? ⟨cx, 8, none⟩ = some (.int .u32 (i : Int)) := hr.cell (hd2)
      clear hr e0
      go_simp
      exact hK _ α _ (fun _ _ => rfl) rfl (step_same (st9) hL hcl rfl rfl hG)
    · intro L9 α a9 u9 K9 hL hcl hA hG hS h0 hK
      replace hL : L9 20 = false := hL
      have q187 : a9.tmps[187]? = some (.agg #[.int .u32 0, .int .u32 (i : Int)]) := hS 19 187 (by decide) rfl (by show 187 < 192; decide)
      have s187 := Rega.eval_of q187
      go_simp
      exact hK _ α _ (fun _ _ => rfl) rfl (step_same (st9) hL hcl rfl rfl hG)
    · intro L9 α a9 u9 K9 hL hcl hA hG hS h0 hK
      replace hL : L9 21 = false := hL
      have q188 : a9.tmps[188]? = some (.agg #[.int .u32 0, .int .u32 (i : Int), .bool false, .bool false, .bool false]) := hS 20 188 (by decide) rfl (by show 188 < 192; decide)
      have s188 := Rega.eval_of q188
      go_simp
      exact hK _ (fun j => if j = 21 then u9.heap.size else α j) _ (fun j hj => if_neg (fun e => hj (by rw [e]))) rfl (step_alloc (st9) hL hcl rfl rfl (by decide) _ rfl hG)
    · intro L9 α a9 u9 K9 hL hcl hA hG hS h0 hK
      replace hL : L9 22 = false := hL
      have q189 : a9.tmps[189]? = some (.pointer (some ⟨α 21, 0, none⟩)) := hS 21 189 (by decide) rfl (by show 189 < 192; decide)
      have s189 := Rega.eval_of q189
      go_simp
      exact hK _ α _ (fun _ _ => rfl) rfl (step_same (st9) hL hcl rfl rfl hG)
    · intro L9 α a9 u9 K9 hL hcl hA hG hS h0 hK
      replace hL : L9 23 = false := hL
      have q177 : a9.tmps[177]? = some (.agg #[.int .i32 0]) := hS 9 177 (by decide) rfl (by show 177 < 192; decide)
      have s177 := Rega.eval_of q177
      have q190 : a9.tmps[190]? = some (.iface 203 (.pointer (some ⟨α 21, 0, none⟩))) := hS 22 190 (by decide) rfl (by show 190 < 192; decide)
      have s190 := Rega.eval_of q190
      go_simp
      exact hK _ α _ (fun _ _ => rfl) rfl (step_same (st9) hL hcl rfl rfl hG)
    · intro L9 α a9 u9 K9 hL hcl hA hG hS h0 hK
      replace hL : L9 24 = false := hL
      have q3 : a9.tmps[3]? = some (.pointer (some ⟨B1, 0, none⟩)) := (h0 3 (by kernel_rfl)).trans rfl
      have s3 := Rega.eval_of q3
      have q191 : a9.tmps[191]? = some (.agg #[.iface 203 (.pointer (some ⟨α 21, 0, none⟩)), .int .i32 0]) := hS 23 191 (by decide) rfl (by show 191 < 192; decide)
      have s191 := Rega.eval_of q191
      have e0 : R9 L9 α 3999 = row (B1) 155 #[.nilIface, .int .i32 0] := by
        show rND22T3999 cx XC cc CC xqa i B1 L9 α = _
        unfold rND22T3999
        rw [if_neg (by rw [hL]; decide)]
      have hr := hG.rowAt 3999 (act_base 3999 rfl) e0
      have c0 : u9.cell? ⟨B1, 0, none⟩ = some (.nilIface) := hr.cell rfl
      have y0 : u9.frozen? ⟨B1, 0, none⟩ = false := hr.free (0)
      have c1 : u9.cell? ⟨B1, 1, none⟩ = some (.int .i32 0) := hr.cell rfl
      have y1 : u9.frozen? ⟨B1, 1, none⟩ = false := hr.free (1)
      clear hr
      have E0 := Lib.hid e0
      clear e0
      go_simp
      have e1 : R9 (Rega.ran L9 24) α 3999 = row (B1) 155 #[.iface 203 (.pointer (some ⟨α 21, 0, none⟩)), .int .i32 0] := by
        show rND22T3999 cx XC cc CC xqa i B1 (Rega.ran L9 24) α = _
        unfold rND22T3999
        rw [if_pos (show Rega.ran L9 24 24 = true from rfl)]
      exact hK _ α _ (fun _ _ => rfl) rfl (step_sets (st9) hL hcl rfl 3999 rfl (act_base 3999 rfl) E0.out (0) [.iface 203 (.pointer (some ⟨α 21, 0, none⟩)), .int .i32 0] (e1.trans rfl) hG)
  clear st9
  intro α u hG
  have e0 : R9 (fun k => decide (k < 25)) α 999 = row (cx) 191 XC := rfl
  have e1 : R9 (fun k => decide (k < 25)) α 1999 = row (cc) 182 CC := rfl
  have e2 : R9 (fun k => decide (k < 25)) α 2999 = row (xqa) 27 #[.pointer (some ⟨cx, 0, none⟩)] := rfl
  have e3 : R9 (fun k => decide (k < 25)) α 3999 = row (B1) 155 #[.iface 203 (.pointer (some ⟨α 21, 0, none⟩)), .int .i32 0] := by
    show rND22T3999 cx XC cc CC xqa i B1 (fun k => decide (k < 25)) α = _
    unfold rND22T3999
    rw [if_pos (by decide)]
  have e4 : R9 (fun k => decide (k < 25)) α 21 = row (α 21) 206 #[.int .u32 0, .int .u32 (i : Int), .bool false, .bool false, .bool false] := rfl
  have hO : Own w0 u [row (cx) 191 XC, row (cc) 182 CC, row (xqa) 27 #[.pointer (some ⟨cx, 0, none⟩)], row (B1) 155 #[.iface 203 (.pointer (some ⟨α 21, 0, none⟩)), .int .i32 0], row (α 21) 206 #[.int .u32 0, .int .u32 (i : Int), .bool false, .bool false, .bool false]] X9_4 := (hG.list [999, 1999, 2999, 3999, 21] (by decide) (act_all (by decide))).conv (by
    show [R9 (fun k => decide (k < 25)) α 999, R9 (fun k => decide (k < 25)) α 1999, R9 (fun k => decide (k < 25)) α 2999, R9 (fun k => decide (k < 25)) α 3999, R9 (fun k => decide (k < 25)) α 21] = _
    rw [e0, e1, e2, e3, e4])
  clear hG e0 e1 e2 e3 e4 R9
  generalize hfr : Rega.frameAt _ _ _ _ _ = fr
  have hdf : fr = ⟨#[.pointer (some ⟨xqa, 0, none⟩), .pointer (some ⟨xqb, 0, none⟩), .pointer (some ⟨xqc, 0, none⟩), .pointer (some ⟨B1, 0, none⟩), undef, undef, .pointer (some ⟨cx, 0, none⟩), .pointer (some ⟨cx, 0, none⟩), .pointer (some ⟨cx, 1, none⟩), .int .u8 3, .bool false, undef, undef, undef, undef, undef, undef, undef, undef, undef, undef, undef, undef, undef, undef, undef, undef, undef, undef, undef, undef, undef, undef, undef, undef, undef, undef, undef, undef, undef, undef, undef, undef, undef, undef, undef, undef, undef, undef, undef, undef, undef, undef, undef, undef, undef, undef, undef, undef, undef, undef, undef, undef, undef, undef, undef, undef, undef, undef, undef, undef, undef, undef, undef, undef, undef, undef, undef, undef, undef, undef, undef, undef, undef, undef, undef, undef, undef, undef, undef, undef, undef, undef, undef, undef, undef, .pointer (some ⟨xqc, 1, none⟩), .agg #[.int .u32 4294967295, .int .u32 4294967295], .agg #[.int .u32 4294967295, .int .u32 4294967295], .bool false, undef, undef, undef, undef, undef, undef, undef, undef, undef, undef, undef, undef, undef, undef, undef, undef, undef, undef, undef, undef, .pointer (some ⟨cx, 0, none⟩), .pointer (some ⟨cx, 0, none⟩), .pointer (some ⟨cx, 2, none⟩), .pointer (some ⟨cc, 0, none⟩), .pointer (some ⟨cc, 0, none⟩), .pointer (some ⟨cc, 1, none⟩), .pointer (some ⟨cx, 6, none⟩), .bool false, undef, undef, undef, undef, undef, undef, undef, undef, undef, undef, undef, undef, undef, undef, undef, undef, undef, undef, undef, undef, undef, undef, undef, undef, undef, undef, undef, undef, .pointer (some ⟨pb, 0, none⟩), .pointer (some ⟨cx, 0, none⟩), .pointer (some ⟨cx, 0, none⟩), .pointer (some ⟨cx, 2, none⟩), .pointer (some ⟨cc, 0, none⟩), .pointer (some ⟨cc, 0, none⟩), .pointer (some ⟨cc, 1, none⟩), .pointer (some ⟨cx, 6, none⟩), .pointer (some ⟨cx, 6, none⟩), .pointer (some ⟨cx, 7, none⟩), .agg #[.int .u32 0, .int .u32 (i : Int)], .tuple #[], .pointer (some ⟨cx, 0, none⟩), .pointer (some ⟨cx, 0, none⟩), .pointer (some ⟨cx, 2, none⟩), .pointer (some ⟨cc, 0, none⟩), .pointer (some ⟨cc, 0, none⟩), .pointer (some ⟨cc, 1, none⟩), .pointer (some ⟨cx, 6, none⟩), .pointer (some ⟨cx, 6, none⟩), .pointer (some ⟨cx, 6, none⟩), .agg #[.int .i32 0], .pointer (some ⟨cx, 0, none⟩), .pointer (some ⟨cx, 0, none⟩), .pointer (some ⟨cx, 2, none⟩), .pointer (some ⟨cc, 0, none⟩), .pointer (some ⟨cc, 0, none⟩), .pointer (some ⟨cc, 1, none⟩), .pointer (some ⟨cx, 6, none⟩), .pointer (some ⟨cx, 6, none⟩), .pointer (some ⟨cx, 7, none⟩), .agg #[.int .u32 0, .int .u32 (i : Int)], .agg #[.int .u32 0, .int .u32 (i : Int), .bool false, .bool false, .bool false], .pointer (some ⟨α 21, 0, none⟩), .iface 203 (.pointer (some ⟨α 21, 0, none⟩)), .agg #[.iface 203 (.pointer (some ⟨α 21, 0, none⟩)), .int .i32 0]], []⟩ := by rw [← hfr]; kernel_rfl
  clear hfr
  subst hdf
  generalize α 21 = nd5 at hO ⊢
  clear α
  subst hX9_4
  have hN : Own w0 u [row (cx) 191 XC, row (cc) 182 CC, row (xqa) 27 #[.pointer (some ⟨cx, 0, none⟩)], row (B1) 155 #[.iface 203 (.pointer (some ⟨nd5, 0, none⟩)), .int .i32 0], row (nd5) 206 #[.int .u32 0, .int .u32 (i : Int), .bool false, .bool false, .bool false], row (pb) 176 PC, row (sb) 199 (full symZ (symL (bump st i)) c), row (xqb) 25 #[.pointer (some ⟨pb, 0, none⟩)], row (xqc) 202 #[.pointer none, .int .u32 4294967295, .int .u32 4294967295, .int .u32 4294967295, .int .u32 4294967295, .bool false]] X := hO.back HL.out HX.out [0, 1, 5, 7] (by decide) (by decide)
  clear hO HL HX
  have hO := hN
  clear hN
  obtain ⟨c9_2_0, lt9_2, y9_2, -⟩ := hO.k1 2 rfl
  obtain ⟨c9_3_0, c9_3_1, lt9_3, y9_3, -⟩ := hO.k2 3 rfl
  obtain ⟨c9_4_0, c9_4_1, c9_4_2, c9_4_3, c9_4_4, lt9_4, y9_4, -⟩ := hO.k5 4 rfl
  obtain ⟨c9_7_0, lt9_7, y9_7, -⟩ := hO.k1 7 rfl
  obtain ⟨c9_8_0, c9_8_1, c9_8_2, c9_8_3, c9_8_4, c9_8_5, lt9_8, y9_8, -⟩ := hO.k6 8 rfl
  have HO := Lib.hid hO
  clear hO
  have gw9_0_0 : u.cell? ⟨0, 0, none⟩ = some (.int .u32 4294967295) := Base.cell_below HO.out.below (Base.block_of_cell hg0) hg0
  have gw9_0_1 : u.cell? ⟨0, 1, none⟩ = some (.int .u32 4294967295) := Base.cell_below HO.out.below (Base.block_of_cell hg1) hg1
  have gl9_0 : 0 < u.heap.size := Base.block_of_cell gw9_0_0
  go_wp2_with (first | (with_reducible refine Own.stay (fn := Tryd.f19) ?_) | fail)
  try with_reducible refine Own.Stay.mk ?_
  have hO := HO.out
  clear HO gw9_0_0 gw9_0_1 gl9_0 c9_2_0 lt9_2 y9_2 c9_3_0 c9_3_1 lt9_3 y9_3 c9_4_0 c9_4_1 c9_4_2 c9_4_3 c9_4_4 lt9_4 y9_4 c9_7_0 lt9_7 y9_7 c9_8_0 c9_8_1 c9_8_2 c9_8_3 c9_8_4 c9_8_5 lt9_8 y9_8
  have z9_3_0 : u.cell? ⟨B1, 0, none⟩ = some (.iface 203 (.pointer (some ⟨nd5, 0, none⟩))) := hO.cell 3 rfl 0 rfl
  have z9_3_1 : u.cell? ⟨B1, 1, none⟩ = some (.int .i32 0) := hO.cell 3 rfl 1 rfl
  refine bodyPost_ret (v := .agg #[.iface 203 (.pointer (some ⟨nd5, 0, none⟩)), .int .i32 0]) ?_ rfl ⟨nd5, rfl, hO.sub [5, 6, 0, 1, 2, 7, 8, 4] (by decide)⟩
  simp [results, Tryd.results19, go_sem, z9_3_0, z9_3_1]
def nfrD2Post (pb : Nat) (PC : Array Value) (sb c : Nat) (st : List Sy) (n cx : Nat) (XC : Array Value) (cc : Nat) (CC : Array Value) (xqa xqb xqc i : Nat) (w0 : World) (X : Nat → Obj → Prop) (e : Ending) (w' : World) : Prop :=
  e = .returned (.tuple #[.int .u32 (i : Int), .bool true]) ∧ Own w0 w' [row (pb) 176 PC, row (sb) 199 (full symZ (symL (bump st i)) c), row (cx) 191 XC, row (cc) 182 CC, row (xqa) 27 #[.pointer (some ⟨cx, 0, none⟩)], row (xqb) 25 #[.pointer (some ⟨pb, 0, none⟩)], row (xqc) 202 #[.pointer none, .int .u32 4294967295, .int .u32 4294967295, .int .u32 4294967295, .int .u32 4294967295, .bool false]] X
set_option maxRecDepth 100000 in
set_option maxHeartbeats 1000000 in
theorem nfrD2 (pb : Nat) (PC : Array Value) (sb c : Nat) (st : List Sy) (n cx : Nat) (XC : Array Value) (cc : Nat) (CC : Array Value) (xqa xqb xqc i : Nat) (w0 w : World) (X : Nat → Obj → Prop) (hO : Own w0 w [row (pb) 176 PC, row (sb) 199 (full symZ (symL st) c), row (cx) 191 XC, row (cc) 182 CC, row (xqa) 27 #[.pointer (some ⟨cx, 0, none⟩)], row (xqb) 25 #[.pointer (some ⟨pb, 0, none⟩)], row (xqc) 202 #[.pointer none, .int .u32 4294967295, .int .u32 4294967295, .int .u32 4294967295, .int .u32 4294967295, .bool false]] X) (hk350 : PC[350]? = some (.bool false)) (hk32 : PC[32]? = some (.bool false)) (hk105 : PC[105]? = some (.pointer none)) (hk106 : PC[106]? = some (.slice (some ⟨sb, 0, none⟩) n (n + c))) (hn : st.length = n) (hnb : n ≤ 4000000) (hu : ∃ s, st[i]? = some s ∧ s.uc < 4294967295) (hxk : XC[1]? = some (.int .u8 3)) (hxc : XC[2]? = some (.pointer (some ⟨cc, 0, none⟩))) (hcn : CC[1]? = some (.pointer (some ⟨cx, 6, none⟩))) (hd0 : XC[6]? = some (.int .i32 0)) (hd1 : XC[7]? = some (.int .u32 0)) (hd2 : XC[8]? = some (.int .u32 (i : Int))) (hg0 : w0.cell? ⟨0, 0, none⟩ = some (.int .u32 4294967295)) (hg1 : w0.cell? ⟨0, 1, none⟩ = some (.int .u32 4294967295)) (hnf : XC[39]? = some (.func (Fn.func 19) #[] #[.pointer (some ⟨xqa, 0, none⟩), .pointer (some ⟨xqb, 0, none⟩), .pointer (some ⟨xqc, 0, none⟩)])) :
    Calls Tryd.prog 13 #[.pointer (some ⟨cx, 0, none⟩)] w (nfrD2Post pb PC sb c st n cx XC cc CC xqa xqb xqc i w0 X) := by
  go_enter Tryd.func13, Tryd.ntmps13
  obtain ⟨ix9, hix9, hax9, hjx9⟩ := hO.ix
  have ix9_0 : ix9 pb = 0 := hjx9 0 _ _ rfl
  have ix9_1 : ix9 sb = 1 := hjx9 1 _ _ rfl
  have ix9_2 : ix9 cx = 2 := hjx9 2 _ _ rfl
  have ix9_3 : ix9 cc = 3 := hjx9 3 _ _ rfl
  have ix9_4 : ix9 xqa = 4 := hjx9 4 _ _ rfl
  have ix9_5 : ix9 xqb = 5 := hjx9 5 _ _ rfl
  have ix9_6 : ix9 xqc = 6 := hjx9 6 _ _ rfl
  clear hjx9
  have c9_0_32 : w.cell? ⟨pb, 32, none⟩ = some (.bool false) := hO.cell 0 rfl (32) (hk32)
  have c9_0_105 : w.cell? ⟨pb, 105, none⟩ = some (.pointer none) := hO.cell 0 rfl (105) (hk105)
  have c9_0_106 : w.cell? ⟨pb, 106, none⟩ = some (.slice (some ⟨sb, 0, none⟩) n (n + c)) := hO.cell 0 rfl (106) (hk106)
  have c9_0_350 : w.cell? ⟨pb, 350, none⟩ = some (.bool false) := hO.cell 0 rfl (350) (hk350)
  have lt9_0 : pb < w.heap.size := hO.lt 0 rfl
  have y9_0 : ∀ o, w.frozen? ⟨pb, o, none⟩ = false := hO.free 0 rfl
  have c9_2_1 : w.cell? ⟨cx, 1, none⟩ = some (.int .u8 3) := hO.cell 2 rfl (1) (hxk)
  have c9_2_2 : w.cell? ⟨cx, 2, none⟩ = some (.pointer (some ⟨cc, 0, none⟩)) := hO.cell 2 rfl (2) (hxc)
  have c9_2_6 : w.cell? ⟨cx, 6, none⟩ = some (.int .i32 0) := hO.cell 2 rfl (6) (hd0)
  have c9_2_7 : w.cell? ⟨cx, 7, none⟩ = some (.int .u32 0) := hO.cell 2 rfl (7) (hd1)
  have c9_2_8 : w.cell? ⟨cx, 8, none⟩ = some (.int .u32 (i : Int)) := hO.cell 2 rfl (8) (hd2)
  have c9_2_39 : w.cell? ⟨cx, 39, none⟩ = some (.func (Fn.func 19) #[] #[.pointer (some ⟨xqa, 0, none⟩), .pointer (some ⟨xqb, 0, none⟩), .pointer (some ⟨xqc, 0, none⟩)]) := hO.cell 2 rfl (39) (hnf)
  have lt9_2 : cx < w.heap.size := hO.lt 2 rfl
  have y9_2 : ∀ o, w.frozen? ⟨cx, o, none⟩ = false := hO.free 2 rfl
  have c9_3_1 : w.cell? ⟨cc, 1, none⟩ = some (.pointer (some ⟨cx, 6, none⟩)) := hO.cell 3 rfl (1) (hcn)
  have lt9_3 : cc < w.heap.size := hO.lt 3 rfl
  have y9_3 : ∀ o, w.frozen? ⟨cc, o, none⟩ = false := hO.free 3 rfl
  obtain ⟨c9_4_0, lt9_4, y9_4, -⟩ := hO.k1 4 rfl
  obtain ⟨c9_5_0, lt9_5, y9_5, -⟩ := hO.k1 5 rfl
  obtain ⟨c9_6_0, c9_6_1, c9_6_2, c9_6_3, c9_6_4, c9_6_5, lt9_6, y9_6, -⟩ := hO.k6 6 rfl
  have HO := Lib.hid hO
  clear hO
  go_wp2_with (first | (with_reducible refine Own.stay (fn := Tryd.f13) ?_) | fail)
  try with_reducible refine Own.Stay.mk ?_
  have hO := HO.out
  clear HO hix9 hax9 ix9_0 ix9_1 ix9_2 ix9_3 ix9_4 ix9_5 ix9_6 ix9 c9_0_32 c9_0_105 c9_0_106 c9_0_350 lt9_0 y9_0 c9_2_1 c9_2_2 c9_2_6 c9_2_7 c9_2_8 c9_2_39 lt9_2 y9_2 c9_3_1 lt9_3 y9_3 c9_4_0 lt9_4 y9_4 c9_5_0 lt9_5 y9_5 c9_6_0 c9_6_1 c9_6_2 c9_6_3 c9_6_4 c9_6_5 lt9_6 y9_6
  have hL := hO.apart
  have hX := hO.apartX
  have HL := Lib.hid hL
  have HX := Lib.hid hX
  clear hL hX
  have hP9 := hO.pick [0, 1, 2, 3, 4, 5, 6] (by decide)
  have T9 := nameD2 pb PC sb c st n cx XC cc CC xqa xqb xqc i _ _ _ hP9 hk350 hk32 hk105 hk106 hn hnb hu hxk hxc hcn hd0 hd1 hd2 hg0 hg1
  refine Calls.mono T9 ?_
  clear hP9 T9
  rintro e u1 ⟨nd2, rfl, hQ⟩
  have hN : Own w0 u1 [row (pb) 176 PC, row (sb) 199 (full symZ (symL (bump st i)) c), row (cx) 191 XC, row (cc) 182 CC, row (xqa) 27 #[.pointer (some ⟨cx, 0, none⟩)], row (xqb) 25 #[.pointer (some ⟨pb, 0, none⟩)], row (xqc) 202 #[.pointer none, .int .u32 4294967295, .int .u32 4294967295, .int .u32 4294967295, .int .u32 4294967295, .bool false], row (nd2) 206 #[.int .u32 0, .int .u32 (i : Int), .bool false, .bool false, .bool false]] X := hQ.back HL.out HX.out [] (by decide) (by decide)
  clear hQ HL HX hO
  have hO := hN
  clear hN
  obtain ⟨c9_4_0, lt9_4, y9_4, -⟩ := hO.k1 4 rfl
  obtain ⟨c9_5_0, lt9_5, y9_5, -⟩ := hO.k1 5 rfl
  obtain ⟨c9_6_0, c9_6_1, c9_6_2, c9_6_3, c9_6_4, c9_6_5, lt9_6, y9_6, -⟩ := hO.k6 6 rfl
  obtain ⟨c9_7_0, c9_7_1, c9_7_2, c9_7_3, c9_7_4, lt9_7, y9_7, -⟩ := hO.k5 7 rfl
  have HO := Lib.hid hO
  clear hO
  go_wp2_with (first | (with_reducible refine Own.stay (fn := Tryd.f13) ?_) | fail)
  try with_reducible refine Own.Stay.mk ?_
  have hO := HO.out
  clear HO c9_4_0 lt9_4 y9_4 c9_5_0 lt9_5 y9_5 c9_6_0 c9_6_1 c9_6_2 c9_6_3 c9_6_4 c9_6_5 lt9_6 y9_6 c9_7_0 c9_7_1 c9_7_2 c9_7_3 c9_7_4 lt9_7 y9_7
  refine bodyPost_ret (v := .tuple #[.int .u32 (i : Int), .bool true]) ?_ rfl ⟨rfl, hO.sub [0, 1, 2, 3, 4, 5, 6] (by decide)⟩
  simp [results, Tryd.results13, go_sem]
end Go.Proofs.YtaoflhnkhgclhaaDoor.Use
