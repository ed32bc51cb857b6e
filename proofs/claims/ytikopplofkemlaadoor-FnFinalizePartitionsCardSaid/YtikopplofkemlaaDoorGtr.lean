/- generateTempRef with a name, not declared. No condition. -/
import Derived.Test.YtikopplofkemlaaDoorAbb
import Derived.Test.YtikopplofkemlaaDoorUmp
import Derived.Test.YtikopplofkemlaaDoorLive
import Derived.Test.YtikopplofkemlaaDoorLoop
import Derived.Test.YtikopplofkemlaaDoorUms
import Derived.Test.YtikopplofkemlaaDoorAppL
import Derived.Test.YtikopplofkemlaaDoorApp
import Derived.Test.YtikopplofkemlaaDoorOwnK
import Derived.Test.YtikopplofkemlaaDoorOwn
import Derived.Test.YtikopplofkemlaaDoorDeepCells
import Derived.Test.YtikopplofkemlaaDoorRows
import Derived.Test.YtikopplofkemlaaDoorUse
namespace Go.Proofs.YtikopplofkemlaaDoor.Use
open Go.ChangeShapes Go.WideShapes Go.ChangeAt Go.RowKit Go.Sort Own
set_option linter.unusedVariables false
noncomputable def rgtP1a2E (n : Nat) (src : Int) (cs : Nat) (KC : Array Value) (gb : Nat) (G : List Value) (cg : Nat) (g : Nat) (B6 : Nat) : Nat → Rega.Atoms → Value
 | 0, α => vP cs
 | 1, α => vP cs
 | 2, α => vP cs
 | 3, α => .pointer (some ⟨cs, 5, none⟩)
 | 4, α => .slice (some ⟨gb, 0, none⟩) g (g + cg)
 | 5, α => .agg #[vU src, vU (n : Int)]
 | 6, α => .slice (some ⟨α 6, 0, none⟩) 1 1
 | 7, α => .slice (some ⟨α 7, 0, none⟩) (g + 1) (g + 1 + α 1007)
 | 8, α => vP cs
 | 9, α => .pointer (some ⟨cs, 5, none⟩)
 | 10, α => undef
 | _, _ => undef
noncomputable def rgtP1a2Anc : Nat → List Nat
 | 2 => [1]
 | 3 => [1, 2]
 | 4 => [1, 2, 3]
 | 6 => [5]
 | 7 => [1, 2, 3, 4, 5, 6]
 | 8 => [0, 1, 2, 3, 4, 5, 6, 7]
 | 9 => [0, 1, 2, 3, 4, 5, 6, 7, 8]
 | 10 => [0, 1, 2, 3, 4, 5, 6, 7, 8, 9]
 | _ => []
noncomputable def rgtP1a2Trn : Nat → List Nat
 | 7 => [2999]
 | 10 => [1999]
 | _ => []
noncomputable def rgtP1a2Cnt : List (Nat × Nat) := [(6, 1)]
noncomputable def rgtP1a2T1999 (n : Nat) (src : Int) (cs : Nat) (KC : Array Value) (gb : Nat) (G : List Value) (cg : Nat) (g : Nat) (B6 : Nat) (L9 : Nat → Bool) (α : Rega.Atoms) : Rw := if L9 10 = true then row (cs) 99 (KC.setIfInBounds 5 (.slice (some ⟨α 7, 0, none⟩) (g + 1) (g + 1 + α 1007))) else row (cs) 99 KC
noncomputable def rgtP1a2T2999 (n : Nat) (src : Int) (cs : Nat) (KC : Array Value) (gb : Nat) (G : List Value) (cg : Nat) (g : Nat) (B6 : Nat) (L9 : Nat → Bool) (α : Rega.Atoms) : Rw := if L9 7 = true then row (α 7) 31 (full refZ (G ++ [vU src, vU (n : Int)]) (α 1007)) else row (gb) 31 (full refZ G cg)
noncomputable def rgtP1a2R (n : Nat) (src : Int) (cs : Nat) (KC : Array Value) (gb : Nat) (G : List Value) (cg : Nat) (g : Nat) (B6 : Nat) (L9 : Nat → Bool) (α : Rega.Atoms) (ix9 : Nat) : Rw := if ix9 = 999 then row (B6) 31 #[vU src, vU (n : Int)] else if ix9 = 1999 then rgtP1a2T1999 n src cs KC gb G cg g B6 L9 α else if ix9 = 2999 then rgtP1a2T2999 n src cs KC gb G cg g B6 L9 α else if ix9 = 6 then row (α 6) 31 #[vU src, vU (n : Int)] else (0, .map #[] 0)
theorem rgtP1a2_he (n : Nat) (src : Int) (cs : Nat) (KC : Array Value) (gb : Nat) (G : List Value) (cg : Nat) (g : Nat) (B6 : Nat) : ∀ kk α α', (∀ j, (j % 1000 = kk ∨ j % 1000 ∈ rgtP1a2Anc kk) → α j = α' j) → rgtP1a2E n src cs KC gb G cg g B6 kk α = rgtP1a2E n src cs KC gb G cg g B6 kk α' := by
 intro kk α α' h
 match kk with
 | 0 => rfl
 | 1 => rfl
 | 2 => rfl
 | 3 => rfl
 | 4 => rfl
 | 5 => rfl
 | 6 => simp only [rgtP1a2E, h 6 (Or.inl rfl)]
 | 7 => simp only [rgtP1a2E, h 7 (Or.inl rfl), h 1007 (Or.inl rfl)]
 | 8 => rfl
 | 9 => rfl
 | 10 => rfl
 | n + 11 => rfl
theorem rgtP1a2_st (n : Nat) (src : Int) (cs : Nat) (KC : Array Value) (gb : Nat) (G : List Value) (cg : Nat) (g : Nat) (B6 : Nat) : Stable rgtP1a2Cnt 3 rgtP1a2Anc rgtP1a2Trn (rgtP1a2R n src cs KC gb G cg g B6) := by
 intro k9 L9 α α' ix9 hk hcl hα hact ht
 have hp := act_places hact
 replace hp : ix9 ∈ [999, 1999, 2999, 6] := hp
 simp only [List.mem_cons, List.not_mem_nil, or_false] at hp
 rcases hp with rfl | rfl | rfl | rfl
 ·rfl
 ·show rgtP1a2T1999 n src cs KC gb G cg g B6 (Rega.ran L9 k9) α' = rgtP1a2T1999 n src cs KC gb G cg g B6 L9 α
  unfold rgtP1a2T1999
  have n10 : 10 ≠ k9 := fun e => ht (by rw [← e]; decide)
  rw [ran_ne n10]
  by_cases e10 : L9 10 = true
  ·first | rw [if_pos e10, if_pos e10] | rw [if_pos e10]
   try simp only [hα 7 (ne_ran hk (hcl 10 e10 7 (by decide))), hα 1007 (ne_ran hk (hcl 10 e10 7 (by decide)))]
  first | rw [if_neg e10, if_neg e10] | rw [if_neg e10]
 ·show rgtP1a2T2999 n src cs KC gb G cg g B6 (Rega.ran L9 k9) α' = rgtP1a2T2999 n src cs KC gb G cg g B6 L9 α
  unfold rgtP1a2T2999
  have n7 : 7 ≠ k9 := fun e => ht (by rw [← e]; decide)
  rw [ran_ne n7]
  by_cases e7 : L9 7 = true
  ·first | rw [if_pos e7, if_pos e7] | rw [if_pos e7]
   try simp only [hα 7 (ne_ran hk e7), hα 1007 (ne_ran hk e7)]
  first | rw [if_neg e7, if_neg e7] | rw [if_neg e7]
 ·have e0 : L9 6 = true := act_lt hact (by decide)
  show row (α' 6) 31 #[vU src, vU (n : Int)] = row (α 6) 31 #[vU src, vU (n : Int)]
  simp only [hα 6 (ne_ran hk e0)]
def gtP1Post (pb : Nat) (PC : Array Value) (sb c : Nat) (st : List Sy) (n : Nat) (src : Int) (nm : ByteArray) (cs : Nat) (KC : Array Value) (gb : Nat) (G : List Value) (cg g : Nat) (w0 : World) (X : Nat → Obj → Prop) (e : Ending) (w' : World) : Prop :=
 ∃ sb2 : Nat, ∃ c2 : Nat, ∃ gb2 : Nat, ∃ cg2 : Nat, e = .returned (.agg #[vU src, vU (n : Int)]) ∧ Own w0 w' [row (pb) 252 (PC.setIfInBounds 106 (.slice (some ⟨sb2, 0, none⟩) (n + 1) (n + 1 + c2))), row (sb2) 260 (full symZ (symL (st ++ [syk nm 27])) c2), row (cs) 99 (KC.setIfInBounds 5 (.slice (some ⟨gb2, 0, none⟩) (g + 1) (g + 1 + cg2))), row (gb2) 31 (full refZ (G ++ [vU src, vU (n : Int)]) cg2)] X
set_option maxRecDepth 100000 in
set_option maxHeartbeats 1000000 in
theorem gtP1 (pb : Nat) (PC : Array Value) (sb c : Nat) (st : List Sy) (n : Nat) (src : Int) (nm : ByteArray) (cs : Nat) (KC : Array Value) (gb : Nat) (G : List Value) (cg g : Nat) (w0 w : World) (X : Nat → Obj → Prop) (hO : Own w0 w [row (pb) 252 PC, row (sb) 260 (full symZ (symL st) c), row (cs) 99 KC, row (gb) 31 (full refZ G cg)] X) (hk66 : PC[66]? = some (vU src)) (hk32 : PC[32]? = some (bF)) (hk104 : PC[104]? = some (vP cs)) (hk106 : PC[106]? = some (.slice (some ⟨sb, 0, none⟩) n (n + c))) (hn : st.length = n) (hnb : n ≤ 2000000) (hkind : KC[15]? = some (.int .u8 8)) (hgen : KC[5]? = some (.slice (some ⟨gb, 0, none⟩) g (g + cg))) (hne : (nm.toList == []) = false) (hgl : G.length = g * 2) (hgb : g ≤ 100000) (hg0 : w0.cell? ⟨0, 0, none⟩ = some (vU 4294967295)) (hg1 : w0.cell? ⟨0, 1, none⟩ = some (vU 4294967295)) :
  Calls Tryd.prog 49 #[vP pb, .int .u8 1, .string nm] w (gtP1Post pb PC sb c st n src nm cs KC gb G cg g w0 X) := by
 go_enter Tryd.func49, Tryd.ntmps49
 obtain ⟨ix9, hix9, hax9, hjx9⟩ := hO.ix
 have ix9_0 : ix9 pb = 0 := hjx9 0 _ _ rfl
 have ix9_1 : ix9 sb = 1 := hjx9 1 _ _ rfl
 have ix9_2 : ix9 cs = 2 := hjx9 2 _ _ rfl
 have ix9_3 : ix9 gb = 3 := hjx9 3 _ _ rfl
 clear hjx9
 have c9_0_32 : w.cell? ⟨pb, 32, none⟩ = some (bF) := hO.cell 0 rfl (32) (hk32)
 have c9_0_66 : w.cell? ⟨pb, 66, none⟩ = some (vU src) := hO.cell 0 rfl (66) (hk66)
 have c9_0_104 : w.cell? ⟨pb, 104, none⟩ = some (vP cs) := hO.cell 0 rfl (104) (hk104)
 have c9_0_106 : w.cell? ⟨pb, 106, none⟩ = some (.slice (some ⟨sb, 0, none⟩) n (n + c)) := hO.cell 0 rfl (106) (hk106)
 have lt9_0 : pb < w.heap.size := hO.lt 0 rfl
 have y9_0 : ∀ o, w.frozen? ⟨pb, o, none⟩ = false := hO.free 0 rfl
 have c9_2_5 : w.cell? ⟨cs, 5, none⟩ = some (.slice (some ⟨gb, 0, none⟩) g (g + cg)) := hO.cell 2 rfl (5) (hgen)
 have c9_2_15 : w.cell? ⟨cs, 15, none⟩ = some (.int .u8 8) := hO.cell 2 rfl (15) (hkind)
 have lt9_2 : cs < w.heap.size := hO.lt 2 rfl
 have y9_2 : ∀ o, w.frozen? ⟨cs, o, none⟩ = false := hO.free 2 rfl
 have HO := Lib.hid hO
 clear hO
 go_wp2_with (first | (with_reducible refine Own.stay (fn := Tryd.f49) ?_) | (first | (go_at_call 46; go_in)))
 try with_reducible refine Own.Stay.mk ?_
 have hO := HO.out
 clear HO hix9 hax9 ix9_0 ix9_1 ix9_2 ix9_3 ix9 c9_0_32 c9_0_66 c9_0_104 c9_0_106 lt9_0 y9_0 c9_2_5 c9_2_15 lt9_2 y9_2
 generalize hW : World.alloc _ _ = W2
 have hN : Own w0 W2 [row (w.heap.size) 31 #[vU 0, vU 0], row (pb) 252 PC, row (sb) 260 (full symZ (symL st) c), row (cs) 99 KC, row (gb) 31 (full refZ G cg)] X := by
  rw [← hW]
  exact (hO).alloc' _ (w.heap.size) (by simp)
 clear hW hO
 generalize w.heap.size = B1 at hN ⊢
 have hO := hN
 clear hN
 go_loopg [7] 1 (fun gf s7 wx => s7 = vP cs ∧ Own w0 wx [row (B1) 31 #[vU 0, vU 0], row (pb) 252 PC, row (sb) 260 (full symZ (symL st) c), row (cs) 99 KC, row (gb) 31 (full refZ G cg)] X)
 case atStart => exact ⟨rfl, hO⟩
 obtain ⟨rfl, hO⟩ := hrel
 obtain ⟨ix9, hix9, hax9, hjx9⟩ := hO.ix
 have ix9_0 : ix9 B1 = 0 := hjx9 0 _ _ rfl
 have ix9_1 : ix9 pb = 1 := hjx9 1 _ _ rfl
 have ix9_2 : ix9 sb = 2 := hjx9 2 _ _ rfl
 have ix9_3 : ix9 cs = 3 := hjx9 3 _ _ rfl
 have ix9_4 : ix9 gb = 4 := hjx9 4 _ _ rfl
 clear hjx9
 obtain ⟨c9_0_0, c9_0_1, lt9_0, y9_0, pl9_0⟩ := hO.k2 0 rfl
 have c9_1_32 : wr.cell? ⟨pb, 32, none⟩ = some (bF) := hO.cell 1 rfl (32) (hk32)
 have c9_1_66 : wr.cell? ⟨pb, 66, none⟩ = some (vU src) := hO.cell 1 rfl (66) (hk66)
 have c9_1_104 : wr.cell? ⟨pb, 104, none⟩ = some (vP cs) := hO.cell 1 rfl (104) (hk104)
 have c9_1_106 : wr.cell? ⟨pb, 106, none⟩ = some (.slice (some ⟨sb, 0, none⟩) n (n + c)) := hO.cell 1 rfl (106) (hk106)
 have lt9_1 : pb < wr.heap.size := hO.lt 1 rfl
 have y9_1 : ∀ o, wr.frozen? ⟨pb, o, none⟩ = false := hO.free 1 rfl
 have c9_3_5 : wr.cell? ⟨cs, 5, none⟩ = some (.slice (some ⟨gb, 0, none⟩) g (g + cg)) := hO.cell 3 rfl (5) (hgen)
 have c9_3_15 : wr.cell? ⟨cs, 15, none⟩ = some (.int .u8 8) := hO.cell 3 rfl (15) (hkind)
 have lt9_3 : cs < wr.heap.size := hO.lt 3 rfl
 have y9_3 : ∀ o, wr.frozen? ⟨cs, o, none⟩ = false := hO.free 3 rfl
 have pl9_4 : Base.plainAt wr (gb) = true := hO.plain 4 rfl
 have HO := Lib.hid hO
 clear hO
 go_wp2_with (first | (with_reducible refine Own.stay (fn := Tryd.f49) ?_) | (first | (go_at_call 46; go_in)))
 try with_reducible refine Own.Stay.mk ?_
 have hO := HO.out
 clear HO hix9 hax9 ix9_0 ix9_1 ix9_2 ix9_3 ix9_4 ix9 c9_0_0 c9_0_1 lt9_0 y9_0 pl9_0 c9_1_32 c9_1_66 c9_1_104 c9_1_106 lt9_1 y9_1 c9_3_5 c9_3_15 lt9_3 y9_3 pl9_4
 have hL := hO.apart
 have hX := hO.apartX
 have HL := Lib.hid hL
 have HX := Lib.hid hX
 clear hL hX
 have hP9 := hO.pick [1, 2] (by decide)
 have T9 := newSymG pb PC sb c st n src 27 nm _ _ _ hP9 hk66 hk32 hk106 hn hnb hg0 hg1
 refine Calls.mono T9 ?_
 clear hP9 T9
 rintro e u3 ⟨nd4, nd5, rfl, hQ⟩
 have hN : Own w0 u3 [row (pb) 252 (PC.setIfInBounds 106 (.slice (some ⟨nd4, 0, none⟩) (n + 1) (n + 1 + nd5))), row (nd4) 260 (full symZ (symL (st ++ [syk nm 27])) nd5), row (B1) 31 #[vU 0, vU 0], row (cs) 99 KC, row (gb) 31 (full refZ G cg)] X := hQ.back HL.out HX.out [0, 3, 4] (by decide) (by decide)
 clear hQ HL HX hO
 have hO := hN
 clear hN
 obtain ⟨c9_2_0, c9_2_1, lt9_2, y9_2, -⟩ := hO.k2 2 rfl
 have HO := Lib.hid hO
 clear hO
 go_wp2_with (first | (with_reducible refine Own.stay (fn := Tryd.f49) ?_) | (first | (go_at_call 46; go_in)))
 try with_reducible refine Own.Stay.mk ?_
 have hO := HO.out
 clear HO c9_2_0 c9_2_1 lt9_2 y9_2
 generalize hW : World.alloc _ _ = W7
 have hN : Own w0 W7 [row (u3.heap.size) 31 #[vU src, vU (n : Int)], row (pb) 252 (PC.setIfInBounds 106 (.slice (some ⟨nd4, 0, none⟩) (n + 1) (n + 1 + nd5))), row (nd4) 260 (full symZ (symL (st ++ [syk nm 27])) nd5), row (B1) 31 #[vU 0, vU 0], row (cs) 99 KC, row (gb) 31 (full refZ G cg)] X := by
  rw [← hW]
  exact (hO).alloc' _ (u3.heap.size) (by simp)
 clear hW hO
 generalize u3.heap.size = B6 at hN ⊢
 have hO := hN
 clear hN
 have hL := hO.apart
 have hX := hO.apartX
 have HL := Lib.hid hL
 have HX := Lib.hid hX
 clear hL hX
 have hP9 := hO.pick [0, 4, 5] (by decide)
 generalize hX9_8 : Own.Rest _ _ X = X9_8 at hP9
 replace hP9 : Own w0 W7 [row (B6) 31 #[vU src, vU (n : Int)], row (cs) 99 KC, row (gb) 31 (full refZ G cg)] X9_8 := hP9
 clear hO
 have hO := hP9
 clear hP9
 have st9 := rgtP1a2_st n src cs KC gb G cg g B6
 let R9 := rgtP1a2R n src cs KC gb G cg g B6
 refine wp_region_own (e := rgtP1a2E n src cs KC gb G cg g B6) (anc := rgtP1a2Anc) (G := (fun L9 α u9 => OwnF w0 u9 (act rgtP1a2Cnt 3 L9) (rgtP1a2R n src cs KC gb G cg g B6 L9 α) X9_8)) (by kernel_rfl) (by kernel_rfl) (by kernel_rfl) (by kernel_rfl) (rgtP1a2_he n src cs KC gb G cg g B6) ?_ (RunsAll.all ?_) ?_
 ·have hp : ∀ i, act rgtP1a2Cnt 3 (fun _ => false) i → i ∈ [999, 1999, 2999] := by
   intro i hi
   have h9 : i % 1000 = 999 := by
    by_cases h : i % 1000 = 999
    ·exact h
    ·exact absurd (act_lt hi h) (by simp)
   unfold act at hi
   rw [if_pos h9] at hi
   simp only [List.mem_cons, List.not_mem_nil, or_false]
   omega
  refine hO.drew.family (fun i hi => ?_) (fun i j hi hj hij => ?_)
  ·have := hp i hi
   simp only [List.mem_cons, List.not_mem_nil, or_false] at this
   rcases this with rfl | rfl | rfl <;> rfl
  ·have h1 := hp i hi
   have h2 := hp j hj
   simp only [List.mem_cons, List.not_mem_nil, or_false] at h1 h2
   omega
 ·refine ⟨?_, ?_, ?_, ?_, ?_, ?_, ?_, ?_, ?_, ?_, ?_, trivial⟩
  ·intro L9 α a9 u9 K9 hL hcl hA hG hS h0 h1 hK
   replace hL : L9 0 = false := hL
   have q7 : a9.tmps[7]? = some (vP cs) := (h0 7 (by kernel_rfl)).trans rfl
   have s7 := Rega.eval_of q7
   go_simp
   exact hK _ α _ (fun _ _ => rfl) rfl (step_same (st9) hL hcl rfl rfl hG)
  ·intro L9 α a9 u9 K9 hL hcl hA hG hS h0 h1 hK
   replace hL : L9 1 = false := hL
   have q7 : a9.tmps[7]? = some (vP cs) := (h0 7 (by kernel_rfl)).trans rfl
   have s7 := Rega.eval_of q7
   go_simp
   exact hK _ α _ (fun _ _ => rfl) rfl (step_same (st9) hL hcl rfl rfl hG)
  ·intro L9 α a9 u9 K9 hL hcl hA hG hS h0 h1 hK
   replace hL : L9 2 = false := hL
   have q78 : a9.tmps[78]? = some (vP cs) := hS 1 78 (by decide) rfl (by show 78 < 88; decide)
   have s78 := Rega.eval_of q78
   go_simp
   exact hK _ α _ (fun _ _ => rfl) rfl (step_same (st9) hL hcl rfl rfl hG)
  ·intro L9 α a9 u9 K9 hL hcl hA hG hS h0 h1 hK
   replace hL : L9 3 = false := hL
   have q79 : a9.tmps[79]? = some (vP cs) := hS 2 79 (by decide) rfl (by show 79 < 88; decide)
   have s79 := Rega.eval_of q79
   go_simp
   exact hK _ α _ (fun _ _ => rfl) rfl (step_same (st9) hL hcl rfl rfl hG)
  ·intro L9 α a9 u9 K9 hL hcl hA hG hS h0 h1 hK
   replace hL : L9 4 = false := hL
   have q80 : a9.tmps[80]? = some (.pointer (some ⟨cs, 5, none⟩)) := hS 3 80 (by decide) rfl (by show 80 < 88; decide)
   have s80 := Rega.eval_of q80
   have e0 : R9 L9 α 1999 = row (cs) 99 KC := by
    show rgtP1a2T1999 n src cs KC gb G cg g B6 L9 α = _
    unfold rgtP1a2T1999
    rw [if_neg (fun e => by have := hcl 10 e 4 (by decide); rw [hL] at this; cases this)]
   have hr := hG.rowAt 1999 (act_base 1999 rfl) e0
   have c0 : u9.cell? ⟨cs, 5, none⟩ = some (.slice (some ⟨gb, 0, none⟩) g (g + cg)) := hr.cell (hgen)
   clear hr e0
   go_simp
   exact hK _ α _ (fun _ _ => rfl) rfl (step_same (st9) hL hcl rfl rfl hG)
  ·intro L9 α a9 u9 K9 hL hcl hA hG hS h0 h1 hK
   replace hL : L9 5 = false := hL
   have q8 : a9.tmps[8]? = some (vP B6) := (h0 8 (by kernel_rfl)).trans rfl
   have s8 := Rega.eval_of q8
   have e0 : R9 L9 α 999 = row (B6) 31 #[vU src, vU (n : Int)] := rfl
   have hr := hG.rowAt 999 (act_base 999 rfl) e0
   have c0 : u9.cell? ⟨B6, 0, none⟩ = some (vU src) := hr.cell rfl
   have c1 : u9.cell? ⟨B6, 1, none⟩ = some (vU (n : Int)) := hr.cell rfl
   clear hr e0
   go_simp
   exact hK _ α _ (fun _ _ => rfl) rfl (step_same (st9) hL hcl rfl rfl hG)
  ·intro L9 α a9 u9 K9 hL hcl hA hG hS h0 h1 hK
   replace hL : L9 6 = false := hL
   have q82 : a9.tmps[82]? = some (.agg #[vU src, vU (n : Int)]) := hS 5 82 (by decide) rfl (by show 82 < 88; decide)
   have s82 := Rega.eval_of q82
   go_simp
   exact hK _ (fun j => if j = 6 then u9.heap.size else α j) _ (fun j hj => if_neg (fun e => hj (by rw [e]))) rfl (step_alloc (st9) hL hcl rfl rfl (by decide) _ rfl hG)
  ·intro L9 α a9 u9 K9 hL hcl hA hG hS h0 h1 hK
   replace hL : L9 7 = false := hL
   have q81 : a9.tmps[81]? = some (.slice (some ⟨gb, 0, none⟩) g (g + cg)) := hS 4 81 (by decide) rfl (by show 81 < 88; decide)
   have s81 := Rega.eval_of q81
   have q83 : a9.tmps[83]? = some (.slice (some ⟨α 6, 0, none⟩) 1 1) := hS 6 83 (by decide) rfl (by show 83 < 88; decide)
   have s83 := Rega.eval_of q83
   simp only [Region.wanted, if_true]
   have e0 : R9 L9 α 2999 = row (gb) 31 (full refZ G cg) := by
    show rgtP1a2T2999 n src cs KC gb G cg g B6 L9 α = _
    unfold rgtP1a2T2999
    rw [if_neg (by rw [hL]; decide)]
   have e1 : R9 L9 α 6 = row (α 6) 31 #[vU src, vU (n : Int)] := rfl
   have hM : ∀ i, i ∈ [2999, 6] → act rgtP1a2Cnt 3 L9 i := by
    intro i hi
    simp only [List.mem_cons, List.not_mem_nil, or_false] at hi
    rcases hi with rfl | rfl
    ·exact act_base 2999 rfl
    ·exact act_new 6 rfl (hA 6 (by decide))
   have hP : Own w0 u9 [row (gb) 31 (full refZ G cg), row (α 6) 31 #[vU src, vU (n : Int)]] _ := (hG.pick [2999, 6] (by decide) hM).conv (by
    show [R9 L9 α 2999, R9 L9 α 6] = _
    rw [e0, e1])
   clear e0 e1 hM
   obtain ⟨i9, hi9, z1, z2, z3⟩ := info_parts infoRef
   refine wp_append_full (Operand.tmp 81) (Operand.tmp 83) 38 rfl 31 i9 (.agg refZ) 2 8 Tryd.underlying38 hi9 z1 z2 z3 rfl (by decide) hP s81 s83 (by first | rfl | assumption | (simp; done) | (simp; omega)) (by first | rfl | assumption | omega) rfl (oneAll rfl) (by first | decide | omega | (unfold maxLen; omega)) (by first | decide | omega | (unfold maxLen; omega)) ?_
   intro b0 b1 u1 hQ
   obtain ⟨α', hα'⟩ : ∃ α' : Rega.Atoms, α' = (fun j => if j = 7 then b0 else if j = 1007 then b1 else α j) := ⟨_, rfl⟩
   have f0 : R9 (Rega.ran L9 7) α' 2999 = row (α' 7) 31 (full refZ (G ++ [vU src, vU (n : Int)]) (α' 1007)) := by
    show rgtP1a2T2999 n src cs KC gb G cg g B6 (Rega.ran L9 7) α' = _
    unfold rgtP1a2T2999
    rw [if_pos (show Rega.ran L9 7 7 = true from rfl)]
   have f1 : R9 (Rega.ran L9 7) α' 6 = row (α' 6) 31 #[vU src, vU (n : Int)] := rfl
   have hα : ∀ j, j % 1000 ≠ 7 → α' j = α j := fun j hj => by rw [hα']; simp only []; rw [if_neg (by omega), if_neg (by omega)]
   have hb0 : α' 7 = b0 := by rw [hα']; rfl
   have hb1 : α' 1007 = b1 := by rw [hα']; rfl
   have ha6 : α' 6 = α 6 := hα 6 (by decide)
   refine hK _ α' _ hα ?_ (step_call (st9) hL hcl hα [2999, 6] [2999, 6] (by decide) (by decide) (by decide) (M := _) ?_ hG hQ)
   ·show _ = (.slice (some ⟨α' 7, 0, none⟩) (g + 1) (g + 1 + α' 1007) : Value)
    simp only [hb0, hb1]
   ·show [R9 (Rega.ran L9 7) α' 2999, R9 (Rega.ran L9 7) α' 6] = _
    rw [f0, f1]
    simp only [hb0, hb1, ha6]
    try rfl
  ·intro L9 α a9 u9 K9 hL hcl hA hG hS h0 h1 hK
   replace hL : L9 8 = false := hL
   have q77 : a9.tmps[77]? = some (vP cs) := hS 0 77 (by decide) rfl (by show 77 < 88; decide)
   have s77 := Rega.eval_of q77
   go_simp
   exact hK _ α _ (fun _ _ => rfl) rfl (step_same (st9) hL hcl rfl rfl hG)
  ·intro L9 α a9 u9 K9 hL hcl hA hG hS h0 h1 hK
   replace hL : L9 9 = false := hL
   have q85 : a9.tmps[85]? = some (vP cs) := hS 8 85 (by decide) rfl (by show 85 < 88; decide)
   have s85 := Rega.eval_of q85
   go_simp
   exact hK _ α _ (fun _ _ => rfl) rfl (step_same (st9) hL hcl rfl rfl hG)
  ·intro L9 α a9 u9 K9 hL hcl hA hG hS h0 h1 hK
   replace hL : L9 10 = false := hL
   have q86 : a9.tmps[86]? = some (.pointer (some ⟨cs, 5, none⟩)) := hS 9 86 (by decide) rfl (by show 86 < 88; decide)
   have s86 := Rega.eval_of q86
   have q84 : a9.tmps[84]? = some (.slice (some ⟨α 7, 0, none⟩) (g + 1) (g + 1 + α 1007)) := hS 7 84 (by decide) rfl (by show 84 < 88; decide)
   have s84 := Rega.eval_of q84
   have e0 : R9 L9 α 1999 = row (cs) 99 KC := by
    show rgtP1a2T1999 n src cs KC gb G cg g B6 L9 α = _
    unfold rgtP1a2T1999
    rw [if_neg (by rw [hL]; decide)]
   have hr := hG.rowAt 1999 (act_base 1999 rfl) e0
   have c0 : u9.cell? ⟨cs, 5, none⟩ = some (.slice (some ⟨gb, 0, none⟩) g (g + cg)) := hr.cell (hgen)
   have y0 : u9.frozen? ⟨cs, 5, none⟩ = false := hr.free (5)
   clear hr
   have E0 := Lib.hid e0
   clear e0
   go_simp
   have e1 : R9 (Rega.ran L9 10) α 1999 = row (cs) 99 (KC.setIfInBounds 5 (.slice (some ⟨α 7, 0, none⟩) (g + 1) (g + 1 + α 1007))) := by
    show rgtP1a2T1999 n src cs KC gb G cg g B6 (Rega.ran L9 10) α = _
    unfold rgtP1a2T1999
    rw [if_pos (show Rega.ran L9 10 10 = true from rfl)]
   exact hK _ α _ (fun _ _ => rfl) rfl (step_sets (st9) hL hcl rfl 1999 rfl (act_base 1999 rfl) E0.out (5) [.slice (some ⟨α 7, 0, none⟩) (g + 1) (g + 1 + α 1007)] (e1.trans rfl) hG)
 clear st9
 intro α u hG
 have e0 : R9 (fun k => decide (k < 11)) α 999 = row (B6) 31 #[vU src, vU (n : Int)] := rfl
 have e1 : R9 (fun k => decide (k < 11)) α 1999 = row (cs) 99 (KC.setIfInBounds 5 (.slice (some ⟨α 7, 0, none⟩) (g + 1) (g + 1 + α 1007))) := by
  show rgtP1a2T1999 n src cs KC gb G cg g B6 (fun k => decide (k < 11)) α = _
  unfold rgtP1a2T1999
  rw [if_pos (by decide)]
 have e2 : R9 (fun k => decide (k < 11)) α 2999 = row (α 7) 31 (full refZ (G ++ [vU src, vU (n : Int)]) (α 1007)) := by
  show rgtP1a2T2999 n src cs KC gb G cg g B6 (fun k => decide (k < 11)) α = _
  unfold rgtP1a2T2999
  rw [if_pos (by decide)]
 have e3 : R9 (fun k => decide (k < 11)) α 6 = row (α 6) 31 #[vU src, vU (n : Int)] := rfl
 have hO : Own w0 u [row (B6) 31 #[vU src, vU (n : Int)], row (cs) 99 (KC.setIfInBounds 5 (.slice (some ⟨α 7, 0, none⟩) (g + 1) (g + 1 + α 1007))), row (α 7) 31 (full refZ (G ++ [vU src, vU (n : Int)]) (α 1007)), row (α 6) 31 #[vU src, vU (n : Int)]] X9_8 := (hG.list [999, 1999, 2999, 6] (by decide) (act_all (by decide))).conv (by
  show [R9 (fun k => decide (k < 11)) α 999, R9 (fun k => decide (k < 11)) α 1999, R9 (fun k => decide (k < 11)) α 2999, R9 (fun k => decide (k < 11)) α 6] = _
  rw [e0, e1, e2, e3])
 clear hG e0 e1 e2 e3 R9
 generalize hfr : Rega.frameAt _ _ _ _ _ = fr
 have hdf : fr = ⟨#[vP pb, .int .u8 1, .string nm, undef, undef, undef, vP B1, vP cs, vP B6, vP pb, vP pb, .pointer (some ⟨pb, 104, none⟩), vP cs, .int .u8 1, .bool true, vP cs, vP cs, .pointer (some ⟨cs, 15, none⟩), .int .u8 8, .bool true, bF, u21, u22, u23, u24, .string nm, bF, undef, undef, undef, undef, undef, undef, undef, undef, undef, undef, undef, undef, undef, undef, vP pb, .string nm, .agg #[vU src, vU (n : Int)], .int .u8 1, bF, bF, undef, undef, undef, undef, undef, undef, bF, undef, undef, undef, undef, undef, undef, undef, undef, undef, undef, .int .u8 1, bF, undef, undef, undef, undef, undef, undef, undef, undef, undef, undef, undef, vP cs, vP cs, vP cs, .pointer (some ⟨cs, 5, none⟩), .slice (some ⟨gb, 0, none⟩) g (g + cg), .agg #[vU src, vU (n : Int)], .slice (some ⟨α 6, 0, none⟩) 1 1, .slice (some ⟨α 7, 0, none⟩) (g + 1) (g + 1 + α 1007), vP cs, .pointer (some ⟨cs, 5, none⟩), undef], []⟩ := by rw [← hfr]; kernel_rfl
 clear hfr
 subst hdf
 generalize α 6 = nd9 at hO ⊢
 generalize α 7 = nd10 at hO ⊢
 generalize α 1007 = nd11 at hO ⊢
 clear α
 subst hX9_8
 have hN : Own w0 u [row (B6) 31 #[vU src, vU (n : Int)], row (cs) 99 (KC.setIfInBounds 5 (.slice (some ⟨nd10, 0, none⟩) (g + 1) (g + 1 + nd11))), row (nd10) 31 (full refZ (G ++ [vU src, vU (n : Int)]) (nd11)), row (nd9) 31 #[vU src, vU (n : Int)], row (pb) 252 (PC.setIfInBounds 106 (.slice (some ⟨nd4, 0, none⟩) (n + 1) (n + 1 + nd5))), row (nd4) 260 (full symZ (symL (st ++ [syk nm 27])) nd5), row (B1) 31 #[vU 0, vU 0]] X := hO.back HL.out HX.out [1, 2, 3] (by decide) (by decide)
 clear hO HL HX
 have hO := hN
 clear hN
 obtain ⟨c9_0_0, c9_0_1, lt9_0, y9_0, -⟩ := hO.k2 0 rfl
 obtain ⟨c9_3_0, c9_3_1, lt9_3, y9_3, -⟩ := hO.k2 3 rfl
 obtain ⟨c9_6_0, c9_6_1, lt9_6, y9_6, -⟩ := hO.k2 6 rfl
 have HO := Lib.hid hO
 clear hO
 go_wp2_with (first | (with_reducible refine Own.stay (fn := Tryd.f49) ?_) | (first | (go_at_call 46; go_in)))
 try with_reducible refine Own.Stay.mk ?_
 have hO := HO.out
 clear HO c9_0_0 c9_0_1 lt9_0 y9_0 c9_3_0 c9_3_1 lt9_3 y9_3 c9_6_0 c9_6_1 lt9_6 y9_6
 generalize hW : World.setCell _ _ _ = W13
 have hN : Own w0 W13 [row (B6) 31 #[vU src, vU (n : Int)], row (cs) 99 (KC.setIfInBounds 5 (.slice (some ⟨nd10, 0, none⟩) (g + 1) (g + 1 + nd11))), row (nd10) 31 (full refZ (G ++ [vU src, vU (n : Int)]) (nd11)), row (nd9) 31 #[vU src, vU (n : Int)], row (pb) 252 (PC.setIfInBounds 106 (.slice (some ⟨nd4, 0, none⟩) (n + 1) (n + 1 + nd5))), row (nd4) 260 (full symZ (symL (st ++ [syk nm 27])) nd5), row (B1) 31 #[vU src, vU (n : Int)]] X := by
  rw [← hW]
  exact ((hO).set 6 rfl 0 _).set 6 rfl 1 _
 clear hW hO
 have hO := hN
 clear hN
 have z9_6_0 : W13.cell? ⟨B1, 0, none⟩ = some (vU src) := hO.cell 6 rfl 0 rfl
 have z9_6_1 : W13.cell? ⟨B1, 1, none⟩ = some (vU (n : Int)) := hO.cell 6 rfl 1 rfl
 refine bodyPost_ret (v := .agg #[vU src, vU (n : Int)]) ?_ rfl ⟨nd4, nd5, nd10, nd11, rfl, hO.sub [4, 5, 1, 2] (by decide)⟩
 simp [results, Tryd.results49, go_sem, z9_6_0, z9_6_1]
end Go.Proofs.YtikopplofkemlaaDoor.Use
