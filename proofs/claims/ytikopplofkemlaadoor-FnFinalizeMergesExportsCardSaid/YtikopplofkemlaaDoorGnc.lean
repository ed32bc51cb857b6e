/- Several texts in one. No condition. -/
import Derived.Test.YtikopplofkemlaaDoorUmp
namespace Go.Proofs.YtikopplofkemlaaDoor.Use
open Go.ChangeShapes Go.WideShapes Go.ChangeAt Go.RowKit Go.Sort Own
set_option linter.unusedVariables false
noncomputable def rgtP1a2E (n : Nat) (src : Int) (cs : Nat) (KC : Array Value) (gb : Nat) (G : List Value) (cg : Nat) (g : Nat) (B6 : Nat) : Nat → Rega.Atoms → Value
 | 0, α => vP cs
 | 1, α => vP cs
 | 2, α => vP cs
 | 3, α => .pointer (some ⟨cs, 5, none⟩)
 | 4, α => vS gb g (g + cg)
 | 5, α => .agg #[vU src, vU (n : Int)]
 | 6, α => vS (α 6) 1 1
 | 7, α => vS (α 7) (g + 1) (g + 1 + α 1007)
 | 8, α => vP cs
 | 9, α => .pointer (some ⟨cs, 5, none⟩)
 | 10, α => undef
 | _, _ => undef
noncomputable def rgtP1a2Anc : Nat → List Nat
 | 2 => [1]
 | 3 => [1, 2]
 | 4 => [1, 2, 3]
 | 6 => [5]
 | 7 => [1, 2, 3, 4, 5, 6]
 | 8 => [0, 1, 2, 3, 4, 5, 6, 7]
 | 9 => [0, 1, 2, 3, 4, 5, 6, 7, 8]
 | 10 => [0, 1, 2, 3, 4, 5, 6, 7, 8, 9]
 | _ => []
noncomputable def rgtP1a2Trn : Nat → List Nat
 | 7 => [2999]
 | 10 => [1999]
 | _ => []
noncomputable def rgtP1a2Cnt : List (Nat × Nat) := [(6, 1)]
noncomputable def rgtP1a2T1999 (n : Nat) (src : Int) (cs : Nat) (KC : Array Value) (gb : Nat) (G : List Value) (cg : Nat) (g : Nat) (B6 : Nat) (L9 : Nat → Bool) (α : Rega.Atoms) : Rw := if L9 10 = true then row (cs) 99 (KC.setIfInBounds 5 (vS (α 7) (g + 1) (g + 1 + α 1007))) else row (cs) 99 KC
noncomputable def rgtP1a2T2999 (n : Nat) (src : Int) (cs : Nat) (KC : Array Value) (gb : Nat) (G : List Value) (cg : Nat) (g : Nat) (B6 : Nat) (L9 : Nat → Bool) (α : Rega.Atoms) : Rw := if L9 7 = true then row (α 7) 31 (full refZ (G ++ [vU src, vU (n : Int)]) (α 1007)) else row (gb) 31 (full refZ G cg)
noncomputable def rgtP1a2R (n : Nat) (src : Int) (cs : Nat) (KC : Array Value) (gb : Nat) (G : List Value) (cg : Nat) (g : Nat) (B6 : Nat) (L9 : Nat → Bool) (α : Rega.Atoms) (ix9 : Nat) : Rw := if ix9 = 999 then row (B6) 31 #[vU src, vU (n : Int)] else if ix9 = 1999 then rgtP1a2T1999 n src cs KC gb G cg g B6 L9 α else if ix9 = 2999 then rgtP1a2T2999 n src cs KC gb G cg g B6 L9 α else if ix9 = 6 then row (α 6) 31 #[vU src, vU (n : Int)] else (0, .map #[] 0)
theorem rgtP1a2_he (n : Nat) (src : Int) (cs : Nat) (KC : Array Value) (gb : Nat) (G : List Value) (cg : Nat) (g : Nat) (B6 : Nat) : ∀ kk α α', (∀ j, (j % 1000 = kk ∨ j % 1000 ∈ rgtP1a2Anc kk) → α j = α' j) → rgtP1a2E n src cs KC gb G cg g B6 kk α = rgtP1a2E n src cs KC gb G cg g B6 kk α' := by
 intro kk α α' h
 match kk with
 | 0 => rfl
 | 1 => rfl
 | 2 => rfl
 | 3 => rfl
 | 4 => rfl
 | 5 => rfl
 | 6 => simp only [rgtP1a2E, h 6 (Or.inl rfl)]
 | 7 => simp only [rgtP1a2E, h 7 (Or.inl rfl), h 1007 (Or.inl rfl)]
 | 8 => rfl
 | 9 => rfl
 | 10 => rfl
 | n + 11 => rfl
theorem rgtP1a2_st (n : Nat) (src : Int) (cs : Nat) (KC : Array Value) (gb : Nat) (G : List Value) (cg : Nat) (g : Nat) (B6 : Nat) : Stable rgtP1a2Cnt 3 rgtP1a2Anc rgtP1a2Trn (rgtP1a2R n src cs KC gb G cg g B6) := by
 intro k9 L9 α α' ix9 hk hcl hα hact ht
 have hp := act_places hact
 replace hp : ix9 ∈ [999, 1999, 2999, 6] := hp
 simp only [List.mem_cons, List.not_mem_nil, or_false] at hp
 rcases hp with rfl | rfl | rfl | rfl
 ·rfl
 ·show rgtP1a2T1999 n src cs KC gb G cg g B6 (Rega.ran L9 k9) α' = rgtP1a2T1999 n src cs KC gb G cg g B6 L9 α
  unfold rgtP1a2T1999
  have n10 : 10 ≠ k9 := fun e => ht (by rw [← e]; decide)
  rw [ran_ne n10]
  by_cases e10 : L9 10 = true
  ·first | rw [if_pos e10, if_pos e10] | rw [if_pos e10]
   try simp only [hα 7 (ne_ran hk (hcl 10 e10 7 dc)), hα 1007 (ne_ran hk (hcl 10 e10 7 dc))]
  first | rw [if_neg e10, if_neg e10] | rw [if_neg e10]
 ·show rgtP1a2T2999 n src cs KC gb G cg g B6 (Rega.ran L9 k9) α' = rgtP1a2T2999 n src cs KC gb G cg g B6 L9 α
  unfold rgtP1a2T2999
  have n7 : 7 ≠ k9 := fun e => ht (by rw [← e]; decide)
  rw [ran_ne n7]
  by_cases e7 : L9 7 = true
  ·first | rw [if_pos e7, if_pos e7] | rw [if_pos e7]
   try simp only [hα 7 (ne_ran hk e7), hα 1007 (ne_ran hk e7)]
  first | rw [if_neg e7, if_neg e7] | rw [if_neg e7]
 ·have e0 : L9 6 = true := act_lt hact dc
  show row (α' 6) 31 #[vU src, vU (n : Int)] = row (α 6) 31 #[vU src, vU (n : Int)]
  simp only [hα 6 (ne_ran hk e0)]
def gtP1Post (pb : Nat) (PC : Array Value) (sb c : Nat) (st : List Sy) (n : Nat) (src : Int) (nm : ByteArray) (cs : Nat) (KC : Array Value) (gb : Nat) (G : List Value) (cg g : Nat) (w0 : World) (X : Nat → Obj → Prop) (e : Ending) (w' : World) : Prop :=
 ∃ sb2 : Nat, ∃ c2 : Nat, ∃ gb2 : Nat, ∃ cg2 : Nat, e = .returned (.agg #[vU src, vU (n : Int)]) ∧ Own w0 w' [row (pb) 252 (PC.setIfInBounds 106 (vS sb2 (n + 1) (n + 1 + c2))), row (sb2) 260 (full symZ (symL (st ++ [syk nm 27])) c2), row (cs) 99 (KC.setIfInBounds 5 (vS gb2 (g + 1) (g + 1 + cg2))), row (gb2) 31 (full refZ (G ++ [vU src, vU (n : Int)]) cg2)] X
set_option maxRecDepth 100000 in
set_option maxHeartbeats 1000000 in
theorem gtP1 (pb : Nat) (PC : Array Value) (sb c : Nat) (st : List Sy) (n : Nat) (src : Int) (nm : ByteArray) (cs : Nat) (KC : Array Value) (gb : Nat) (G : List Value) (cg g : Nat) (w0 w : World) (X : Nat → Obj → Prop) (hO : Own w0 w [row (pb) 252 PC, row (sb) 260 (full symZ (symL st) c), row (cs) 99 KC, row (gb) 31 (full refZ G cg)] X) (hk66 : PC[66]? = some (vU src)) (hk32 : PC[32]? = some (bF)) (hk104 : PC[104]? = some (vP cs)) (hk106 : PC[106]? = some (vS sb n (n + c))) (hn : st.length = n) (hnb : n ≤ 2000000) (hkind : KC[15]? = some (v8 8)) (hgen : KC[5]? = some (vS gb g (g + cg))) (hne : (nm.toList == []) = false) (hgl : G.length = g * 2) (hgb : g ≤ 100000) (hg0 : w0.cell? ⟨0, 0, none⟩ = some (vU 4294967295)) (hg1 : w0.cell? ⟨0, 1, none⟩ = some (vU 4294967295)) :
  Calls Tryd.prog 49 #[vP pb, v8 1, .string nm] w (gtP1Post pb PC sb c st n src nm cs KC gb G cg g w0 X) := by
 go_enter Tryd.func49, Tryd.ntmps49
 obtain ⟨ix9, hix9, hax9, hjx9⟩ := hO.ix
 have aC := hjx9 0 _ _ rfl
 have aD := hjx9 1 _ _ rfl
 have aE := hjx9 2 _ _ rfl
 have aF := hjx9 3 _ _ rfl
 clear hjx9
 have aM := hO.cell 0 rfl 32 hk32
 have aN := hO.cell 0 rfl 66 hk66
 have aO := hO.cell 0 rfl 104 hk104
 have aP := hO.cell 0 rfl 106 hk106
 have aA := hO.lt 0 rfl
 have aB := hO.free 0 rfl
 have aQ := hO.cell 2 rfl 5 hgen
 have aR := hO.cell 2 rfl 15 hkind
 have aG := hO.lt 2 rfl
 have aH := hO.free 2 rfl
 have HO := Lib.hid hO
 clear hO
 go_wp2_with (first | (with_reducible refine Own.stay (fn := Tryd.f49) ?_) | (first | (go_at_call 46; go_in)))
 try with_reducible refine Own.Stay.mk ?_
 have hO := HO.out
 clear HO hix9 hax9 aC aD aE aF ix9 aM aN aO aP aA aB aQ aR aG aH
 generalize hW : World.alloc _ _ = W2
 have hN : Own w0 W2 [row (w.heap.size) 31 #[vU 0, vU 0], row (pb) 252 PC, row (sb) 260 (full symZ (symL st) c), row (cs) 99 KC, row (gb) 31 (full refZ G cg)] X := by
  rw [← hW]
  exact (hO).alloc' _ (w.heap.size) (by simp)
 clear hW hO
 generalize w.heap.size = B1 at hN ⊢
 have hO := hN
 clear hN
 go_loopg [7] 1 (fun gf s7 wx => s7 = vP cs ∧ Own w0 wx [row (B1) 31 #[vU 0, vU 0], row (pb) 252 PC, row (sb) 260 (full symZ (symL st) c), row (cs) 99 KC, row (gb) 31 (full refZ G cg)] X)
 case atStart => exact ⟨rfl, hO⟩
 obtain ⟨rfl, hO⟩ := hrel
 obtain ⟨ix9, hix9, hax9, hjx9⟩ := hO.ix
 have aC := hjx9 0 _ _ rfl
 have aD := hjx9 1 _ _ rfl
 have aE := hjx9 2 _ _ rfl
 have aF := hjx9 3 _ _ rfl
 have aS := hjx9 4 _ _ rfl
 clear hjx9
 obtain ⟨aI, aJ, aA, aB, aT⟩ := hO.k2 0 rfl
 have aU := hO.cell 1 rfl 32 hk32
 have aV := hO.cell 1 rfl 66 hk66
 have aW := hO.cell 1 rfl 104 hk104
 have aX := hO.cell 1 rfl 106 hk106
 have aY := hO.lt 1 rfl
 have aZ := hO.free 1 rfl
 have aa := hO.cell 3 rfl 5 hgen
 have ab := hO.cell 3 rfl 15 hkind
 have aK := hO.lt 3 rfl
 have aL := hO.free 3 rfl
 have ac : Base.plainAt wr (gb) = true := hO.plain 4 rfl
 have HO := Lib.hid hO
 clear hO
 go_wp2_with (first | (with_reducible refine Own.stay (fn := Tryd.f49) ?_) | (first | (go_at_call 46; go_in)))
 try with_reducible refine Own.Stay.mk ?_
 have hO := HO.out
 clear HO hix9 hax9 aC aD aE aF aS ix9 aI aJ aA aB aT aU aV aW aX aY aZ aa ab aK aL ac
 obtain ⟨HL, HX⟩ := hid2 hO
 have hP9 := hO.pick [1, 2] dc
 have T9 := newSymG pb PC sb c st n src 27 nm _ _ _ hP9 hk66 hk32 hk106 hn hnb hg0 hg1
 refine Calls.mono T9 ?_
 clear hP9 T9
 rintro e u3 ⟨nd4, nd5, rfl, hQ⟩
 replace hO : Own w0 u3 [row (pb) 252 (PC.setIfInBounds 106 (vS nd4 (n + 1) (n + 1 + nd5))), row (nd4) 260 (full symZ (symL (st ++ [syk nm 27])) nd5), row (B1) 31 #[vU 0, vU 0], row (cs) 99 KC, row (gb) 31 (full refZ G cg)] X := hQ.back HL.out HX.out [0, 3, 4] dc dc
 clear hQ HL HX
 obtain ⟨ad, ae, aG, aH, -⟩ := hO.k2 2 rfl
 have HO := Lib.hid hO
 clear hO
 go_wp2_with (first | (with_reducible refine Own.stay (fn := Tryd.f49) ?_) | (first | (go_at_call 46; go_in)))
 try with_reducible refine Own.Stay.mk ?_
 have hO := HO.out
 clear HO ad ae aG aH
 generalize hW : World.alloc _ _ = W7
 have hN : Own w0 W7 [row (u3.heap.size) 31 #[vU src, vU (n : Int)], row (pb) 252 (PC.setIfInBounds 106 (vS nd4 (n + 1) (n + 1 + nd5))), row (nd4) 260 (full symZ (symL (st ++ [syk nm 27])) nd5), row (B1) 31 #[vU 0, vU 0], row (cs) 99 KC, row (gb) 31 (full refZ G cg)] X := by
  rw [← hW]
  exact (hO).alloc' _ (u3.heap.size) (by simp)
 clear hW hO
 generalize u3.heap.size = B6 at hN ⊢
 have hO := hN
 clear hN
 obtain ⟨HL, HX⟩ := hid2 hO
 have hP9 := hO.pick [0, 4, 5] dc
 generalize hX9_8 : Own.Rest _ _ X = X9_8 at hP9
 replace hP9 : Own w0 W7 [row (B6) 31 #[vU src, vU (n : Int)], row (cs) 99 KC, row (gb) 31 (full refZ G cg)] X9_8 := hP9
 clear hO
 have hO := hP9
 clear hP9
 have st9 := rgtP1a2_st n src cs KC gb G cg g B6
 let R9 := rgtP1a2R n src cs KC gb G cg g B6
 refine wp_region_own (e := rgtP1a2E n src cs KC gb G cg g B6) (anc := rgtP1a2Anc) (G := (fun L9 α u9 => OwnF w0 u9 (act rgtP1a2Cnt 3 L9) (rgtP1a2R n src cs KC gb G cg g B6 L9 α) X9_8)) (by kernel_rfl) (by kernel_rfl) (by kernel_rfl) (by kernel_rfl) (rgtP1a2_he n src cs KC gb G cg g B6) ?_ (RunsAll.all ?_) ?_
 ·have hp : ∀ i, act rgtP1a2Cnt 3 (fun _ => false) i → i ∈ [999, 1999, 2999] := by
   intro i hi
   have h9 : i % 1000 = 999 := by
    by_cases h : i % 1000 = 999
    ·exact h
    ·exact absurd (act_lt hi h) (by simp)
   unfold act at hi
   rw [if_pos h9] at hi
   simp only [List.mem_cons, List.not_mem_nil, or_false]
   omega
  refine hO.drew.family (fun i hi => ?_) (fun i j hi hj hij => ?_)
  ·have := hp i hi
   simp only [List.mem_cons, List.not_mem_nil, or_false] at this
   rcases this with rfl | rfl | rfl <;> rfl
  ·have h1 := hp i hi
   have h2 := hp j hj
   simp only [List.mem_cons, List.not_mem_nil, or_false] at h1 h2
   omega
 ·refine ⟨?_, ?_, ?_, ?_, ?_, ?_, ?_, ?_, ?_, ?_, ?_, trivial⟩
  ·refine pur st9 rfl rfl fun L9 α a9 u9 K9 hL hcl hA hG hS h0 h1 hK => ?_
   have s7 := eS (vP cs) ((h0 7 (by kernel_rfl)).trans rfl)
   go_simp
   exact hK
  ·refine pur st9 rfl rfl fun L9 α a9 u9 K9 hL hcl hA hG hS h0 h1 hK => ?_
   have s7 := eS (vP cs) ((h0 7 (by kernel_rfl)).trans rfl)
   go_simp
   exact hK
  ·refine pur st9 rfl rfl fun L9 α a9 u9 K9 hL hcl hA hG hS h0 h1 hK => ?_
   have s78 := eS (vP cs) (hS 1 78 dc rfl (ltd 88 rfl))
   go_simp
   exact hK
  ·refine pur st9 rfl rfl fun L9 α a9 u9 K9 hL hcl hA hG hS h0 h1 hK => ?_
   have s79 := eS (vP cs) (hS 2 79 dc rfl (ltd 88 rfl))
   go_simp
   exact hK
  ·refine pur st9 rfl rfl fun L9 α a9 u9 K9 hL hcl hA hG hS h0 h1 hK => ?_
   replace hL : L9 4 = false := hL
   have s80 := eS (.pointer (some ⟨cs, 5, none⟩)) (hS 3 80 dc rfl (ltd 88 rfl))
   have e0 : R9 L9 α 1999 = row (cs) 99 KC := by
    show rgtP1a2T1999 n src cs KC gb G cg g B6 L9 α = _
    unfold rgtP1a2T1999
    rw [if_neg (fun e => by have := hcl 10 e 4 dc; rw [hL] at this; cases this)]
   have hr := hG.rowAt 1999 (act_base 1999 rfl) e0
   have c0 : u9.cell? ⟨cs, 5, none⟩ = some (vS gb g (g + cg)) := hr.cell (hgen)
   clear hr e0
   go_simp
   exact hK
  ·refine pur st9 rfl rfl fun L9 α a9 u9 K9 hL hcl hA hG hS h0 h1 hK => ?_
   have s8 := eS (vP B6) ((h0 8 (by kernel_rfl)).trans rfl)
   have e0 : R9 L9 α 999 = row (B6) 31 #[vU src, vU (n : Int)] := rfl
   have hr := hG.rowAt 999 (act_base 999 rfl) e0
   have c0 : u9.cell? ⟨B6, 0, none⟩ = some (vU src) := hr.cell rfl
   have c1 : u9.cell? ⟨B6, 1, none⟩ = some (vU (n : Int)) := hr.cell rfl
   clear hr e0
   go_simp
   exact hK
  ·intro L9 α a9 u9 K9 hL hcl hA hG hS h0 h1 hK
   replace hL : L9 6 = false := hL
   have q82 : a9.tmps[82]? = some (.agg #[vU src, vU (n : Int)]) := hS 5 82 dc rfl (ltd 88 rfl)
   have s82 := Rega.eval_of q82
   go_simp
   exact hK _ (fun j => if j = 6 then u9.heap.size else α j) _ (fun j hj => if_neg (fun e => hj (by rw [e]))) rfl (step_alloc st9 hL hcl rfl rfl dc _ rfl hG)
  ·intro L9 α a9 u9 K9 hL hcl hA hG hS h0 h1 hK
   replace hL : L9 7 = false := hL
   have q81 : a9.tmps[81]? = some (vS gb g (g + cg)) := hS 4 81 dc rfl (ltd 88 rfl)
   have s81 := Rega.eval_of q81
   have q83 : a9.tmps[83]? = some (vS (α 6) 1 1) := hS 6 83 dc rfl (ltd 88 rfl)
   have s83 := Rega.eval_of q83
   simp only [Region.wanted, if_true]
   have e0 : R9 L9 α 2999 = row (gb) 31 (full refZ G cg) := by
    show rgtP1a2T2999 n src cs KC gb G cg g B6 L9 α = _
    unfold rgtP1a2T2999
    rw [if_neg (by rw [hL]; decide)]
   have e1 : R9 L9 α 6 = row (α 6) 31 #[vU src, vU (n : Int)] := rfl
   have hM : ∀ i, i ∈ [2999, 6] → act rgtP1a2Cnt 3 L9 i := by
    intro i hi
    simp only [List.mem_cons, List.not_mem_nil, or_false] at hi
    rcases hi with rfl | rfl
    ·exact act_base 2999 rfl
    ·exact act_new 6 rfl (hA 6 dc)
   have hP : Own w0 u9 [row (gb) 31 (full refZ G cg), row (α 6) 31 #[vU src, vU (n : Int)]] _ := (hG.pick [2999, 6] dc hM).conv (by
    show [R9 L9 α 2999, R9 L9 α 6] = _
    rw [e0, e1])
   clear e0 e1 hM
   obtain ⟨i9, hi9, z1, z2, z3⟩ := info_parts infoRef
   refine wp_append_full (Operand.tmp 81) (Operand.tmp 83) 38 rfl 31 i9 (.agg refZ) 2 8 Tryd.underlying38 hi9 z1 z2 z3 rfl dc hP s81 s83 (by first | rfl | assumption | (simp; done) | (simp; omega)) (by first | rfl | assumption | omega) rfl (oneAll rfl) (by first | decide | omega | (unfold maxLen; omega)) (by first | decide | omega | (unfold maxLen; omega)) ?_
   intro b0 b1 u1 hQ
   obtain ⟨α', hα'⟩ : ∃ α' : Rega.Atoms, α' = (fun j => if j = 7 then b0 else if j = 1007 then b1 else α j) := ⟨_, rfl⟩
   have f0 : R9 (Rega.ran L9 7) α' 2999 = row (α' 7) 31 (full refZ (G ++ [vU src, vU (n : Int)]) (α' 1007)) := by
    show rgtP1a2T2999 n src cs KC gb G cg g B6 (Rega.ran L9 7) α' = _
    unfold rgtP1a2T2999
    rw [if_pos (show Rega.ran L9 7 7 = true from rfl)]
   have f1 : R9 (Rega.ran L9 7) α' 6 = row (α' 6) 31 #[vU src, vU (n : Int)] := rfl
   have hα : ∀ j, j % 1000 ≠ 7 → α' j = α j := fun j hj => by rw [hα']; simp only []; rw [if_neg (by omega), if_neg (by omega)]
   have hb0 : α' 7 = b0 := by rw [hα']; rfl
   have hb1 : α' 1007 = b1 := by rw [hα']; rfl
   have ha6 : α' 6 = α 6 := hα 6 dc
   refine hK _ α' _ hα ?_ (step_call (st9) hL hcl hα [2999, 6] [2999, 6] dc dc dc (M := _) ?_ hG hQ)
   ·show _ = (vS (α' 7) (g + 1) (g + 1 + α' 1007) : Value)
    simp only [hb0, hb1]
   ·show [R9 (Rega.ran L9 7) α' 2999, R9 (Rega.ran L9 7) α' 6] = _
    rw [f0, f1]
    simp only [hb0, hb1, ha6]
    try rfl
  ·refine pur st9 rfl rfl fun L9 α a9 u9 K9 hL hcl hA hG hS h0 h1 hK => ?_
   have s77 := eS (vP cs) (hS 0 77 dc rfl (ltd 88 rfl))
   go_simp
   exact hK
  ·refine pur st9 rfl rfl fun L9 α a9 u9 K9 hL hcl hA hG hS h0 h1 hK => ?_
   have s85 := eS (vP cs) (hS 8 85 dc rfl (ltd 88 rfl))
   go_simp
   exact hK
  ·intro L9 α a9 u9 K9 hL hcl hA hG hS h0 h1 hK
   replace hL : L9 10 = false := hL
   have q86 : a9.tmps[86]? = some (.pointer (some ⟨cs, 5, none⟩)) := hS 9 86 dc rfl (ltd 88 rfl)
   have s86 := Rega.eval_of q86
   have q84 : a9.tmps[84]? = some (vS (α 7) (g + 1) (g + 1 + α 1007)) := hS 7 84 dc rfl (ltd 88 rfl)
   have s84 := Rega.eval_of q84
   have e0 : R9 L9 α 1999 = row (cs) 99 KC := by
    show rgtP1a2T1999 n src cs KC gb G cg g B6 L9 α = _
    unfold rgtP1a2T1999
    rw [if_neg (by rw [hL]; decide)]
   have hr := hG.rowAt 1999 (act_base 1999 rfl) e0
   have c0 : u9.cell? ⟨cs, 5, none⟩ = some (vS gb g (g + cg)) := hr.cell (hgen)
   have y0 : u9.frozen? ⟨cs, 5, none⟩ = false := hr.free (5)
   clear hr
   have E0 := Lib.hid e0
   clear e0
   go_simp
   have e1 : R9 (Rega.ran L9 10) α 1999 = row (cs) 99 (KC.setIfInBounds 5 (vS (α 7) (g + 1) (g + 1 + α 1007))) := by
    show rgtP1a2T1999 n src cs KC gb G cg g B6 (Rega.ran L9 10) α = _
    unfold rgtP1a2T1999
    rw [if_pos (show Rega.ran L9 10 10 = true from rfl)]
   exact hK _ α _ (fun _ _ => rfl) rfl (step_sets (st9) hL hcl rfl 1999 rfl (act_base 1999 rfl) E0.out (5) [vS (α 7) (g + 1) (g + 1 + α 1007)] (e1.trans rfl) hG)
 clear st9
 intro α u hG
 have e0 : R9 (fun k => decide (k < 11)) α 999 = row (B6) 31 #[vU src, vU (n : Int)] := rfl
 have e1 : R9 (fun k => decide (k < 11)) α 1999 = row (cs) 99 (KC.setIfInBounds 5 (vS (α 7) (g + 1) (g + 1 + α 1007))) := by
  show rgtP1a2T1999 n src cs KC gb G cg g B6 (fun k => decide (k < 11)) α = _
  unfold rgtP1a2T1999
  rw [if_pos dc]
 have e2 : R9 (fun k => decide (k < 11)) α 2999 = row (α 7) 31 (full refZ (G ++ [vU src, vU (n : Int)]) (α 1007)) := by
  show rgtP1a2T2999 n src cs KC gb G cg g B6 (fun k => decide (k < 11)) α = _
  unfold rgtP1a2T2999
  rw [if_pos dc]
 have e3 : R9 (fun k => decide (k < 11)) α 6 = row (α 6) 31 #[vU src, vU (n : Int)] := rfl
 have hO : Own w0 u [row (B6) 31 #[vU src, vU (n : Int)], row (cs) 99 (KC.setIfInBounds 5 (vS (α 7) (g + 1) (g + 1 + α 1007))), row (α 7) 31 (full refZ (G ++ [vU src, vU (n : Int)]) (α 1007)), row (α 6) 31 #[vU src, vU (n : Int)]] X9_8 := (hG.list [999, 1999, 2999, 6] dc (act_all dc)).conv (by
  show [R9 (fun k => decide (k < 11)) α 999, R9 (fun k => decide (k < 11)) α 1999, R9 (fun k => decide (k < 11)) α 2999, R9 (fun k => decide (k < 11)) α 6] = _
  rw [e0, e1, e2, e3])
 clear hG e0 e1 e2 e3 R9
 generalize hfr : Rega.frameAt _ _ _ _ _ = fr
 have hdf : fr = ⟨#[vP pb, v8 1, .string nm, undef, undef, undef, vP B1, vP cs, vP B6, vP pb, vP pb, .pointer (some ⟨pb, 104, none⟩), vP cs, v8 1, .bool true, vP cs, vP cs, .pointer (some ⟨cs, 15, none⟩), v8 8, .bool true, bF, u21, u22, u23, u24, .string nm, bF, undef, undef, undef, undef, undef, undef, undef, undef, undef, undef, undef, undef, undef, undef, vP pb, .string nm, .agg #[vU src, vU (n : Int)], v8 1, bF, bF, undef, undef, undef, undef, undef, undef, bF, undef, undef, undef, undef, undef, undef, undef, undef, undef, undef, v8 1, bF, undef, undef, undef, undef, undef, undef, undef, undef, undef, undef, undef, vP cs, vP cs, vP cs, .pointer (some ⟨cs, 5, none⟩), vS gb g (g + cg), .agg #[vU src, vU (n : Int)], vS (α 6) 1 1, vS (α 7) (g + 1) (g + 1 + α 1007), vP cs, .pointer (some ⟨cs, 5, none⟩), undef], []⟩ := by rw [← hfr]; kernel_rfl
 clear hfr
 subst hdf
 generalize α 6 = nd9 at hO ⊢
 generalize α 7 = nd10 at hO ⊢
 generalize α 1007 = nd11 at hO ⊢
 clear α
 subst hX9_8
 replace hO : Own w0 u [row (B6) 31 #[vU src, vU (n : Int)], row (cs) 99 (KC.setIfInBounds 5 (vS nd10 (g + 1) (g + 1 + nd11))), row (nd10) 31 (full refZ (G ++ [vU src, vU (n : Int)]) (nd11)), row (nd9) 31 #[vU src, vU (n : Int)], row (pb) 252 (PC.setIfInBounds 106 (vS nd4 (n + 1) (n + 1 + nd5))), row (nd4) 260 (full symZ (symL (st ++ [syk nm 27])) nd5), row (B1) 31 #[vU 0, vU 0]] X := hO.back HL.out HX.out [1, 2, 3] dc dc
 clear HL HX
 obtain ⟨aI, aJ, aA, aB, -⟩ := hO.k2 0 rfl
 obtain ⟨af, ag, aK, aL, -⟩ := hO.k2 3 rfl
 obtain ⟨ah, ai, aj, ak, -⟩ := hO.k2 6 rfl
 have HO := Lib.hid hO
 clear hO
 go_wp2_with (first | (with_reducible refine Own.stay (fn := Tryd.f49) ?_) | (first | (go_at_call 46; go_in)))
 try with_reducible refine Own.Stay.mk ?_
 have hO := HO.out
 clear HO aI aJ aA aB af ag aK aL ah ai aj ak
 generalize hW : World.setCell _ _ _ = W13
 have hN : Own w0 W13 [row (B6) 31 #[vU src, vU (n : Int)], row (cs) 99 (KC.setIfInBounds 5 (vS nd10 (g + 1) (g + 1 + nd11))), row (nd10) 31 (full refZ (G ++ [vU src, vU (n : Int)]) (nd11)), row (nd9) 31 #[vU src, vU (n : Int)], row (pb) 252 (PC.setIfInBounds 106 (vS nd4 (n + 1) (n + 1 + nd5))), row (nd4) 260 (full symZ (symL (st ++ [syk nm 27])) nd5), row (B1) 31 #[vU src, vU (n : Int)]] X := by
  rw [← hW]
  exact ((hO).set 6 rfl 0 _).set 6 rfl 1 _
 clear hW hO
 have hO := hN
 clear hN
 have z9_6_0 : W13.cell? ⟨B1, 0, none⟩ = some (vU src) := hO.cell 6 rfl 0 rfl
 have z9_6_1 : W13.cell? ⟨B1, 1, none⟩ = some (vU (n : Int)) := hO.cell 6 rfl 1 rfl
 refine bodyPost_ret (v := .agg #[vU src, vU (n : Int)]) ?_ rfl ⟨nd4, nd5, nd10, nd11, rfl, hO.sub [4, 5, 1, 2] dc⟩
 simp [results, Tryd.results49, go_sem, z9_6_0, z9_6_1]
end Go.Proofs.YtikopplofkemlaaDoor.Use
namespace Go.Proofs.YtikopplofkemlaaDoor.Use
open Go.ChangeShapes Go.WideShapes Go.ChangeAt Go.RowKit Go.Sort Own
set_option linter.unusedVariables false
def scanN0Post (pb : Nat) (PC : Array Value) (cs : Nat) (KC : Array Value) (qp cx ab sl : Nat) (ri rj : Int) (w0 : World) (X : Nat → Obj → Prop) (e : Ending) (w' : World) : Prop :=
 e = .returned (.tuple #[]) ∧ Own w0 w' [row (cx) 33 #[vI 7, vU ri, vU rj, bF], row (pb) 252 PC, row (cs) 99 KC, row (ab) 61 #[vF 42 sl, vI 7], row (sl) 57 #[vN, v8 2, bF, bF]] X
set_option maxRecDepth 100000 in
set_option maxHeartbeats 1000000 in
theorem scanN0 (pb : Nat) (PC : Array Value) (cs : Nat) (KC : Array Value) (qp cx ab sl : Nat) (ri rj : Int) (w0 w : World) (X : Nat → Obj → Prop) (hO : Own w0 w [row (cx) 33 #[vI 0, vU ri, vU rj, bF], row (pb) 252 PC, row (cs) 99 KC, row (ab) 61 #[vF 42 sl, vI 7], row (sl) 57 #[vN, v8 3, bF, bF]] X) (hk104 : PC[104]? = some (vP cs)) (hk23 : PC[23]? = some (.int .u64 0)) (hk34 : PC[34]? = some (v8 0)) (hk352 : PC[352]? = some (bF)) (hpar : KC[1]? = some (vP qp)) :
  Calls Tryd.prog 43 #[vP cx, vP pb, vS ab 1 1] w (scanN0Post pb PC cs KC qp cx ab sl ri rj w0 X) := by
 go_enter Tryd.func43, Tryd.ntmps43
 obtain ⟨aA, aB, aL, aM, aC, aD, -⟩ := hO.k4 0 rfl
 obtain ⟨aN, aE, aF, aG, -⟩ := hO.k2 3 rfl
 obtain ⟨aH, aI, aO, aP, aJ, aK, -⟩ := hO.k4 4 rfl
 have HO := Lib.hid hO
 clear hO
 go_wp2_with (first | (with_reducible refine Own.stay (fn := Tryd.f43) ?_) | (first | (go_at_call 51; go_in) | (go_at_call 52; go_in) | (go_at_call 57; go_in)))
 try with_reducible refine Own.Stay.mk ?_
 have hO := HO.out
 clear HO aA aB aL aM aC aD aN aE aF aG aH aI aO aP aJ aK
 go_loopg [16] 2 (fun gf s16 wx => (gf = 2 ∧ s16 = v6 0 ∧ Own w0 wx [row (cx) 33 #[vI 0, vU ri, vU rj, bF], row (pb) 252 PC, row (cs) 99 KC, row (ab) 61 #[vF 42 sl, vI 7], row (sl) 57 #[vN, v8 3, bF, bF]] X) ∨ (gf = 1 ∧ s16 = v6 1 ∧ Own w0 wx [row (cx) 33 #[vI 7, vU ri, vU rj, bF], row (pb) 252 PC, row (cs) 99 KC, row (ab) 61 #[vF 42 sl, vI 7], row (sl) 57 #[vN, v8 2, bF, bF]] X))
 case atStart => exact Or.inl ⟨rfl, rfl, hO⟩
 obtain ⟨rfl, rfl, hO⟩ | ⟨rfl, rfl, hO⟩ := hrel
 ·skip
  obtain ⟨ix9, hix9, hax9, hjx9⟩ := hO.ix
  have aQ := hjx9 0 _ _ rfl
  have aR := hjx9 1 _ _ rfl
  have aS := hjx9 2 _ _ rfl
  have aT := hjx9 3 _ _ rfl
  have aU := hjx9 4 _ _ rfl
  clear hjx9
  obtain ⟨aA, aB, aL, aM, aC, aD, -⟩ := hO.k4 0 rfl
  have aZ := hO.cell 1 rfl 23 hk23
  have aa := hO.cell 1 rfl 34 hk34
  have ac := hO.cell 1 rfl 104 hk104
  have ad := hO.cell 1 rfl 352 hk352
  have aV := hO.lt 1 rfl
  have aW := hO.free 1 rfl
  have ae := hO.cell 2 rfl 1 hpar
  have aX := hO.lt 2 rfl
  have aY := hO.free 2 rfl
  obtain ⟨aN, aE, aF, aG, -⟩ := hO.k2 3 rfl
  obtain ⟨aH, aI, aO, aP, aJ, aK, -⟩ := hO.k4 4 rfl
  have HO := Lib.hid hO
  clear hO
  go_wp2_with (first | (with_reducible refine Own.stay (fn := Tryd.f43) ?_) | (first | (go_at_call 51; go_in) | (go_at_call 52; go_in) | (go_at_call 57; go_in)))
  try with_reducible refine Own.Stay.mk ?_
  have hO := HO.out
  clear HO hix9 hax9 aQ aR aS aT aU ix9 aA aB aL aM aC aD aZ aa ac ad aV aW ae aX aY aN aE aF aG aH aI aO aP aJ aK
  generalize hW : World.alloc _ _ = W2
  have hN : Own w0 W2 [row (wr.heap.size) 61 #[vF 42 sl, vI 7], row (cx) 33 #[vI 7, vU ri, vU rj, bF], row (pb) 252 PC, row (cs) 99 KC, row (ab) 61 #[vF 42 sl, vI 7], row (sl) 57 #[vN, v8 3, bF, bF]] X := by
   rw [← hW]
   exact ((hO).set 0 rfl 0 _).alloc' _ (wr.heap.size) (by simp)
  clear hW hO
  generalize wr.heap.size = B1 at hN ⊢
  have hO := hN
  clear hN
  go_loopg [58] 1 (fun gf s58 wx => s58 = v6 0 ∧ Own w0 wx [row (B1) 61 #[vF 42 sl, vI 7], row (cx) 33 #[vI 7, vU ri, vU rj, bF], row (pb) 252 PC, row (cs) 99 KC, row (ab) 61 #[vF 42 sl, vI 7], row (sl) 57 #[vN, v8 3, bF, bF]] X)
  case atStart => exact ⟨rfl, hO⟩
  obtain ⟨rfl, hO⟩ := hrel
  obtain ⟨ix9, hix9, hax9, hjx9⟩ := hO.ix
  have aQ := hjx9 0 _ _ rfl
  have aR := hjx9 1 _ _ rfl
  have aS := hjx9 2 _ _ rfl
  have aT := hjx9 3 _ _ rfl
  have aU := hjx9 4 _ _ rfl
  have af := hjx9 5 _ _ rfl
  clear hjx9
  obtain ⟨aA, aB, aC, aD, ag⟩ := hO.k2 0 rfl
  obtain ⟨ah, ai, aj, ak, aV, aW, -⟩ := hO.k4 1 rfl
  have al := hO.cell 2 rfl 23 hk23
  have am := hO.cell 2 rfl 34 hk34
  have an := hO.cell 2 rfl 104 hk104
  have ao := hO.cell 2 rfl 352 hk352
  have aX := hO.lt 2 rfl
  have aY := hO.free 2 rfl
  have aE := hO.cell 3 rfl 1 hpar
  have aF := hO.lt 3 rfl
  have aG := hO.free 3 rfl
  obtain ⟨aH, aI, aJ, aK, ap⟩ := hO.k2 4 rfl
  obtain ⟨aq, ar, au, av, aw, ax, -⟩ := hO.k4 5 rfl
  have HO := Lib.hid hO
  clear hO
  go_wp2_with (first | (with_reducible refine Own.stay (fn := Tryd.f43) ?_) | (first | (go_at_call 51; go_in) | (go_at_call 52; go_in) | (go_at_call 57; go_in)))
  try with_reducible refine Own.Stay.mk ?_
  have hO := HO.out
  clear HO hix9 hax9 aQ aR aS aT aU af ix9 aA aB aC aD ag ah ai aj ak aV aW al am an ao aX aY aE aF aG aH aI aJ aK ap aq ar au av aw ax
  generalize hW : World.setCell _ _ _ = W4
  have hN : Own w0 W4 [row (B1) 61 #[vF 42 sl, vI 7], row (cx) 33 #[vI 7, vU ri, vU rj, bF], row (pb) 252 PC, row (cs) 99 KC, row (ab) 61 #[vF 42 sl, vI 7], row (sl) 57 #[vN, v8 2, bF, bF]] X := by
   rw [← hW]
   exact (hO).set 5 rfl 1 _
  clear hW hO
  have hO := hN
  clear hN
  go_roundg 1
  case measure => omega
  case rel => exact Or.inr ⟨rfl, rfl, hO.sub [1, 2, 3, 4, 5] dc⟩
 obtain ⟨aA, aB, aL, aM, aC, aD, -⟩ := hO.k4 0 rfl
 obtain ⟨aN, aE, aF, aG, -⟩ := hO.k2 3 rfl
 obtain ⟨aH, aI, aO, aP, aJ, aK, -⟩ := hO.k4 4 rfl
 have HO := Lib.hid hO
 clear hO
 go_wp2_with (first | (with_reducible refine Own.stay (fn := Tryd.f43) ?_) | (first | (go_at_call 51; go_in) | (go_at_call 52; go_in) | (go_at_call 57; go_in)))
 try with_reducible refine Own.Stay.mk ?_
 have hO := HO.out
 clear HO aA aB aL aM aC aD aN aE aF aG aH aI aO aP aJ aK
 refine bodyPost_ret (v := .tuple #[]) ?_ rfl ⟨rfl, hO.sub [0, 1, 2, 3, 4] dc⟩
 simp [results, Tryd.results43, go_sem]
def scanD0Post (pb : Nat) (PC : Array Value) (cs : Nat) (KC : Array Value) (qp cx ab sl : Nat) (ri rj : Int) (w0 : World) (X : Nat → Obj → Prop) (e : Ending) (w' : World) : Prop :=
 e = .returned (.tuple #[]) ∧ Own w0 w' [row (cx) 33 #[vI 7, vU ri, vU rj, bF], row (pb) 252 PC, row (cs) 99 KC, row (ab) 61 #[vF 42 sl, vI 7], row (sl) 57 #[vN, v8 2, bF, bF]] X
set_option maxRecDepth 100000 in
set_option maxHeartbeats 1000000 in
theorem scanD0 (pb : Nat) (PC : Array Value) (cs : Nat) (KC : Array Value) (qp cx ab sl : Nat) (ri rj : Int) (w0 w : World) (X : Nat → Obj → Prop) (hO : Own w0 w [row (cx) 33 #[vI 0, vU ri, vU rj, bF], row (pb) 252 PC, row (cs) 99 KC, row (ab) 61 #[vF 42 sl, vI 7], row (sl) 57 #[vN, v8 3, bF, bF]] X) (hk104 : PC[104]? = some (vP cs)) (hk23 : PC[23]? = some (.int .u64 0)) (hk34 : PC[34]? = some (v8 0)) (hk352 : PC[352]? = some (bF)) (hpar : KC[1]? = some (vP qp)) :
  Calls Tryd.prog 37 #[vP cx, vP pb, vS ab 1 1] w (scanD0Post pb PC cs KC qp cx ab sl ri rj w0 X) := by
 go_enter Tryd.func37, Tryd.ntmps37
 obtain ⟨aA, aB, aL, aM, aC, aD, -⟩ := hO.k4 0 rfl
 obtain ⟨aN, aE, aF, aG, -⟩ := hO.k2 3 rfl
 obtain ⟨aH, aI, aO, aP, aJ, aK, -⟩ := hO.k4 4 rfl
 have HO := Lib.hid hO
 clear hO
 go_wp2_with (first | (with_reducible refine Own.stay (fn := Tryd.f37) ?_) | fail)
 try with_reducible refine Own.Stay.mk ?_
 have hO := HO.out
 clear HO aA aB aL aM aC aD aN aE aF aG aH aI aO aP aJ aK
 obtain ⟨HL, HX⟩ := hid2 hO
 have hP9 := hO.pick [0, 1, 2, 3, 4] dc
 have T9 := scanN0 pb PC cs KC qp cx ab sl ri rj _ _ _ hP9 hk104 hk23 hk34 hk352 hpar
 refine Calls.mono T9 ?_
 clear hP9 T9
 rintro e u1 ⟨rfl, hQ⟩
 replace hO : Own w0 u1 [row (cx) 33 #[vI 7, vU ri, vU rj, bF], row (pb) 252 PC, row (cs) 99 KC, row (ab) 61 #[vF 42 sl, vI 7], row (sl) 57 #[vN, v8 2, bF, bF]] X := hQ.back HL.out HX.out [] dc dc
 clear hQ HL HX
 obtain ⟨aA, aB, aL, aM, aC, aD, -⟩ := hO.k4 0 rfl
 obtain ⟨aN, aE, aF, aG, -⟩ := hO.k2 3 rfl
 obtain ⟨aH, aI, aO, aP, aJ, aK, -⟩ := hO.k4 4 rfl
 have HO := Lib.hid hO
 clear hO
 go_wp2_with (first | (with_reducible refine Own.stay (fn := Tryd.f37) ?_) | fail)
 try with_reducible refine Own.Stay.mk ?_
 have hO := HO.out
 clear HO aA aB aL aM aC aD aN aE aF aG aH aI aO aP aJ aK
 refine bodyPost_ret (v := .tuple #[]) ?_ rfl ⟨rfl, hO.sub [0, 1, 2, 3, 4] dc⟩
 simp [results, Tryd.results37, go_sem]
def scanN1Post (pb : Nat) (PC : Array Value) (cs : Nat) (KC : Array Value) (qp cx ab sl : Nat) (ri rj : Int) (w0 : World) (X : Nat → Obj → Prop) (e : Ending) (w' : World) : Prop :=
 e = .returned (.tuple #[]) ∧ Own w0 w' [row (cx) 33 #[vI 7, vU ri, vU rj, .bool true], row (pb) 252 PC, row (cs) 99 KC, row (ab) 61 #[vF 42 sl, vI 7], row (sl) 57 #[vN, v8 2, bF, bF]] X
set_option maxRecDepth 100000 in
set_option maxHeartbeats 1000000 in
theorem scanN1 (pb : Nat) (PC : Array Value) (cs : Nat) (KC : Array Value) (qp cx ab sl : Nat) (ri rj : Int) (w0 w : World) (X : Nat → Obj → Prop) (hO : Own w0 w [row (cx) 33 #[vI 0, vU ri, vU rj, bF], row (pb) 252 PC, row (cs) 99 KC, row (ab) 61 #[vF 42 sl, vI 7], row (sl) 57 #[vN, v8 4, bF, bF]] X) (hk104 : PC[104]? = some (vP cs)) (hk23 : PC[23]? = some (.int .u64 0)) (hk34 : PC[34]? = some (v8 0)) (hk352 : PC[352]? = some (bF)) (hpar : KC[1]? = some (vP qp)) :
  Calls Tryd.prog 43 #[vP cx, vP pb, vS ab 1 1] w (scanN1Post pb PC cs KC qp cx ab sl ri rj w0 X) := by
 go_enter Tryd.func43, Tryd.ntmps43
 obtain ⟨aA, aB, aL, aM, aC, aD, -⟩ := hO.k4 0 rfl
 obtain ⟨aN, aE, aF, aG, -⟩ := hO.k2 3 rfl
 obtain ⟨aH, aI, aO, aP, aJ, aK, -⟩ := hO.k4 4 rfl
 have HO := Lib.hid hO
 clear hO
 go_wp2_with (first | (with_reducible refine Own.stay (fn := Tryd.f43) ?_) | (first | (go_at_call 51; go_in) | (go_at_call 52; go_in) | (go_at_call 57; go_in)))
 try with_reducible refine Own.Stay.mk ?_
 have hO := HO.out
 clear HO aA aB aL aM aC aD aN aE aF aG aH aI aO aP aJ aK
 go_loopg [16] 2 (fun gf s16 wx => (gf = 2 ∧ s16 = v6 0 ∧ Own w0 wx [row (cx) 33 #[vI 0, vU ri, vU rj, bF], row (pb) 252 PC, row (cs) 99 KC, row (ab) 61 #[vF 42 sl, vI 7], row (sl) 57 #[vN, v8 4, bF, bF]] X) ∨ (gf = 1 ∧ s16 = v6 1 ∧ Own w0 wx [row (cx) 33 #[vI 7, vU ri, vU rj, .bool true], row (pb) 252 PC, row (cs) 99 KC, row (ab) 61 #[vF 42 sl, vI 7], row (sl) 57 #[vN, v8 2, bF, bF]] X))
 case atStart => exact Or.inl ⟨rfl, rfl, hO⟩
 obtain ⟨rfl, rfl, hO⟩ | ⟨rfl, rfl, hO⟩ := hrel
 ·skip
  obtain ⟨ix9, hix9, hax9, hjx9⟩ := hO.ix
  have aQ := hjx9 0 _ _ rfl
  have aR := hjx9 1 _ _ rfl
  have aS := hjx9 2 _ _ rfl
  have aT := hjx9 3 _ _ rfl
  have aU := hjx9 4 _ _ rfl
  clear hjx9
  obtain ⟨aA, aB, aL, aM, aC, aD, -⟩ := hO.k4 0 rfl
  have aZ := hO.cell 1 rfl 23 hk23
  have aa := hO.cell 1 rfl 34 hk34
  have ac := hO.cell 1 rfl 104 hk104
  have ad := hO.cell 1 rfl 352 hk352
  have aV := hO.lt 1 rfl
  have aW := hO.free 1 rfl
  have ae := hO.cell 2 rfl 1 hpar
  have aX := hO.lt 2 rfl
  have aY := hO.free 2 rfl
  obtain ⟨aN, aE, aF, aG, -⟩ := hO.k2 3 rfl
  obtain ⟨aH, aI, aO, aP, aJ, aK, -⟩ := hO.k4 4 rfl
  have HO := Lib.hid hO
  clear hO
  go_wp2_with (first | (with_reducible refine Own.stay (fn := Tryd.f43) ?_) | (first | (go_at_call 51; go_in) | (go_at_call 52; go_in) | (go_at_call 57; go_in)))
  try with_reducible refine Own.Stay.mk ?_
  have hO := HO.out
  clear HO hix9 hax9 aQ aR aS aT aU ix9 aA aB aL aM aC aD aZ aa ac ad aV aW ae aX aY aN aE aF aG aH aI aO aP aJ aK
  generalize hW : World.alloc _ _ = W2
  have hN : Own w0 W2 [row (wr.heap.size) 61 #[vF 42 sl, vI 7], row (cx) 33 #[vI 7, vU ri, vU rj, .bool true], row (pb) 252 PC, row (cs) 99 KC, row (ab) 61 #[vF 42 sl, vI 7], row (sl) 57 #[vN, v8 4, bF, bF]] X := by
   rw [← hW]
   exact (((hO).set 0 rfl 0 _).set 0 rfl 3 _).alloc' _ (wr.heap.size) (by simp)
  clear hW hO
  generalize wr.heap.size = B1 at hN ⊢
  have hO := hN
  clear hN
  go_loopg [58] 1 (fun gf s58 wx => s58 = v6 0 ∧ Own w0 wx [row (B1) 61 #[vF 42 sl, vI 7], row (cx) 33 #[vI 7, vU ri, vU rj, .bool true], row (pb) 252 PC, row (cs) 99 KC, row (ab) 61 #[vF 42 sl, vI 7], row (sl) 57 #[vN, v8 4, bF, bF]] X)
  case atStart => exact ⟨rfl, hO⟩
  obtain ⟨rfl, hO⟩ := hrel
  obtain ⟨ix9, hix9, hax9, hjx9⟩ := hO.ix
  have aQ := hjx9 0 _ _ rfl
  have aR := hjx9 1 _ _ rfl
  have aS := hjx9 2 _ _ rfl
  have aT := hjx9 3 _ _ rfl
  have aU := hjx9 4 _ _ rfl
  have af := hjx9 5 _ _ rfl
  clear hjx9
  obtain ⟨aA, aB, aC, aD, ag⟩ := hO.k2 0 rfl
  obtain ⟨ah, ai, aj, ak, aV, aW, -⟩ := hO.k4 1 rfl
  have al := hO.cell 2 rfl 23 hk23
  have am := hO.cell 2 rfl 34 hk34
  have an := hO.cell 2 rfl 104 hk104
  have ao := hO.cell 2 rfl 352 hk352
  have aX := hO.lt 2 rfl
  have aY := hO.free 2 rfl
  have aE := hO.cell 3 rfl 1 hpar
  have aF := hO.lt 3 rfl
  have aG := hO.free 3 rfl
  obtain ⟨aH, aI, aJ, aK, ap⟩ := hO.k2 4 rfl
  obtain ⟨aq, ar, au, av, aw, ax, -⟩ := hO.k4 5 rfl
  have HO := Lib.hid hO
  clear hO
  go_wp2_with (first | (with_reducible refine Own.stay (fn := Tryd.f43) ?_) | (first | (go_at_call 51; go_in) | (go_at_call 52; go_in) | (go_at_call 57; go_in)))
  try with_reducible refine Own.Stay.mk ?_
  have hO := HO.out
  clear HO hix9 hax9 aQ aR aS aT aU af ix9 aA aB aC aD ag ah ai aj ak aV aW al am an ao aX aY aE aF aG aH aI aJ aK ap aq ar au av aw ax
  generalize hW : World.setCell _ _ _ = W4
  have hN : Own w0 W4 [row (B1) 61 #[vF 42 sl, vI 7], row (cx) 33 #[vI 7, vU ri, vU rj, .bool true], row (pb) 252 PC, row (cs) 99 KC, row (ab) 61 #[vF 42 sl, vI 7], row (sl) 57 #[vN, v8 2, bF, bF]] X := by
   rw [← hW]
   exact (hO).set 5 rfl 1 _
  clear hW hO
  have hO := hN
  clear hN
  go_roundg 1
  case measure => omega
  case rel => exact Or.inr ⟨rfl, rfl, hO.sub [1, 2, 3, 4, 5] dc⟩
 obtain ⟨aA, aB, aL, aM, aC, aD, -⟩ := hO.k4 0 rfl
 obtain ⟨aN, aE, aF, aG, -⟩ := hO.k2 3 rfl
 obtain ⟨aH, aI, aO, aP, aJ, aK, -⟩ := hO.k4 4 rfl
 have HO := Lib.hid hO
 clear hO
 go_wp2_with (first | (with_reducible refine Own.stay (fn := Tryd.f43) ?_) | (first | (go_at_call 51; go_in) | (go_at_call 52; go_in) | (go_at_call 57; go_in)))
 try with_reducible refine Own.Stay.mk ?_
 have hO := HO.out
 clear HO aA aB aL aM aC aD aN aE aF aG aH aI aO aP aJ aK
 refine bodyPost_ret (v := .tuple #[]) ?_ rfl ⟨rfl, hO.sub [0, 1, 2, 3, 4] dc⟩
 simp [results, Tryd.results43, go_sem]
def scanD1Post (pb : Nat) (PC : Array Value) (cs : Nat) (KC : Array Value) (qp cx ab sl : Nat) (ri rj : Int) (w0 : World) (X : Nat → Obj → Prop) (e : Ending) (w' : World) : Prop :=
 e = .returned (.tuple #[]) ∧ Own w0 w' [row (cx) 33 #[vI 7, vU ri, vU rj, .bool true], row (pb) 252 PC, row (cs) 99 KC, row (ab) 61 #[vF 42 sl, vI 7], row (sl) 57 #[vN, v8 2, bF, bF]] X
set_option maxRecDepth 100000 in
set_option maxHeartbeats 1000000 in
theorem scanD1 (pb : Nat) (PC : Array Value) (cs : Nat) (KC : Array Value) (qp cx ab sl : Nat) (ri rj : Int) (w0 w : World) (X : Nat → Obj → Prop) (hO : Own w0 w [row (cx) 33 #[vI 0, vU ri, vU rj, bF], row (pb) 252 PC, row (cs) 99 KC, row (ab) 61 #[vF 42 sl, vI 7], row (sl) 57 #[vN, v8 4, bF, bF]] X) (hk104 : PC[104]? = some (vP cs)) (hk23 : PC[23]? = some (.int .u64 0)) (hk34 : PC[34]? = some (v8 0)) (hk352 : PC[352]? = some (bF)) (hpar : KC[1]? = some (vP qp)) :
  Calls Tryd.prog 37 #[vP cx, vP pb, vS ab 1 1] w (scanD1Post pb PC cs KC qp cx ab sl ri rj w0 X) := by
 go_enter Tryd.func37, Tryd.ntmps37
 obtain ⟨aA, aB, aL, aM, aC, aD, -⟩ := hO.k4 0 rfl
 obtain ⟨aN, aE, aF, aG, -⟩ := hO.k2 3 rfl
 obtain ⟨aH, aI, aO, aP, aJ, aK, -⟩ := hO.k4 4 rfl
 have HO := Lib.hid hO
 clear hO
 go_wp2_with (first | (with_reducible refine Own.stay (fn := Tryd.f37) ?_) | fail)
 try with_reducible refine Own.Stay.mk ?_
 have hO := HO.out
 clear HO aA aB aL aM aC aD aN aE aF aG aH aI aO aP aJ aK
 obtain ⟨HL, HX⟩ := hid2 hO
 have hP9 := hO.pick [0, 1, 2, 3, 4] dc
 have T9 := scanN1 pb PC cs KC qp cx ab sl ri rj _ _ _ hP9 hk104 hk23 hk34 hk352 hpar
 refine Calls.mono T9 ?_
 clear hP9 T9
 rintro e u1 ⟨rfl, hQ⟩
 replace hO : Own w0 u1 [row (cx) 33 #[vI 7, vU ri, vU rj, .bool true], row (pb) 252 PC, row (cs) 99 KC, row (ab) 61 #[vF 42 sl, vI 7], row (sl) 57 #[vN, v8 2, bF, bF]] X := hQ.back HL.out HX.out [] dc dc
 clear hQ HL HX
 obtain ⟨aA, aB, aL, aM, aC, aD, -⟩ := hO.k4 0 rfl
 obtain ⟨aN, aE, aF, aG, -⟩ := hO.k2 3 rfl
 obtain ⟨aH, aI, aO, aP, aJ, aK, -⟩ := hO.k4 4 rfl
 have HO := Lib.hid hO
 clear hO
 go_wp2_with (first | (with_reducible refine Own.stay (fn := Tryd.f37) ?_) | fail)
 try with_reducible refine Own.Stay.mk ?_
 have hO := HO.out
 clear HO aA aB aL aM aC aD aN aE aF aG aH aI aO aP aJ aK
 refine bodyPost_ret (v := .tuple #[]) ?_ rfl ⟨rfl, hO.sub [0, 1, 2, 3, 4] dc⟩
 simp [results, Tryd.results37, go_sem]
end Go.Proofs.YtikopplofkemlaaDoor.Use
namespace Go.Proofs.YtikopplofkemlaaDoor.Use
open Go.ChangeShapes Go.WideShapes Go.ChangeAt Go.RowKit Go.Sort Own
set_option linter.unusedVariables false
def nosy : List Sy := []
theorem wpList_buildG {P : Program} {ops : Array Oper} {Q : Exit → Act → World → Prop} {rest : List Oper} {a : Act} {w : World} {d : Tmp} (t : TypeId) {ty : TypeId}
  {pos : String} {after : Array Edge} {l : List (Nat × Operand)} (hs : (P.built t (l.map fun x => (x.1, a.eval x.2))).isSome = true)
  (h : ∀ c : Array Value, c = Base.builtOf P t (l.map fun x => (x.1, a.eval x.2)) → wpList P ops Q rest (a.put (some d) (.agg c)) w) :
  wpList P ops Q ({ dst := some d, op := .build t l.toArray, type := ty, pos := pos, after := after, guard := none } :: rest) a w := Base.wpList_buildL t hs (h _ rfl)
theorem makeNone (w : World) : (Instr.makeSlice 199 (v6 0) (v6 0)).run Tryd.prog w = .ok (vS w.heap.size 0 0) (w.alloc (.cells (full symZ [] 0) 260)) := by
 obtain ⟨i, hi, z1, z2, z3⟩ := info_parts infoSym
 exact run_mk_full w 199 260 i (.agg symZ) 10 48 Tryd.underlying199 hi z1 z2 z3 rfl .i64 .i64 0 0 (Nat.le_refl _) (by omega) (by omega)
theorem mkS (sb cs ms pt mp : Nat) : (Base.builtOf Tryd.prog 252 [(9, vS sb 0 0), (7, vP cs), (58, vP ms), (8, vP pt), (20, .map (some mp)), (110, bF)]).size = 353 := by kernel_rfl
theorem mk66 (sb cs ms pt mp : Nat) : (Base.builtOf Tryd.prog 252 [(9, vS sb 0 0), (7, vP cs), (58, vP ms), (8, vP pt), (20, .map (some mp)), (110, bF)])[66]? = some (vU 0) := by kernel_rfl
theorem mk23 (sb cs ms pt mp : Nat) : (Base.builtOf Tryd.prog 252 [(9, vS sb 0 0), (7, vP cs), (58, vP ms), (8, vP pt), (20, .map (some mp)), (110, bF)])[23]? = some (.int .u64 0) := by kernel_rfl
theorem mk34 (sb cs ms pt mp : Nat) : (Base.builtOf Tryd.prog 252 [(9, vS sb 0 0), (7, vP cs), (58, vP ms), (8, vP pt), (20, .map (some mp)), (110, bF)])[34]? = some (v8 0) := by kernel_rfl
theorem mk41 (sb cs ms pt mp : Nat) : (Base.builtOf Tryd.prog 252 [(9, vS sb 0 0), (7, vP cs), (58, vP ms), (8, vP pt), (20, .map (some mp)), (110, bF)])[41]? = some (bF) := by kernel_rfl
noncomputable def newPar (sb cs ms pt mp : Nat) : Array Value := ((((Base.builtOf Tryd.prog 252 [(9, vS sb 0 0), (7, vP cs), (58, vP ms), (8, vP pt), (20, .map (some mp)), (110, bF)]).setIfInBounds 66 (vU 0)).setIfInBounds 23 (.int .u64 0)).setIfInBounds 34 (v8 0)).setIfInBounds 41 (bF)
theorem newPar_350 (sb cs ms pt mp : Nat) : (newPar sb cs ms pt mp)[350]? = some (bF) := by kernel_rfl
theorem newPar_32 (sb cs ms pt mp : Nat) : (newPar sb cs ms pt mp)[32]? = some (bF) := by kernel_rfl
theorem newPar_105 (sb cs ms pt mp : Nat) : (newPar sb cs ms pt mp)[105]? = some (vP pt) := by kernel_rfl
theorem newPar_117 (sb cs ms pt mp : Nat) : (newPar sb cs ms pt mp)[117]? = some (.map (some mp)) := by kernel_rfl
theorem newPar_187 (sb cs ms pt mp : Nat) : (newPar sb cs ms pt mp)[187]? = some (vP ms) := by kernel_rfl
theorem newPar_66 (sb cs ms pt mp : Nat) : (newPar sb cs ms pt mp)[66]? = some (vU 0) := by kernel_rfl
theorem newPar_104 (sb cs ms pt mp : Nat) : (newPar sb cs ms pt mp)[104]? = some (vP cs) := by kernel_rfl
theorem newPar_333 (sb cs ms pt mp : Nat) : (newPar sb cs ms pt mp)[333]? = some (bF) := by kernel_rfl
theorem newPar_23 (sb cs ms pt mp : Nat) : (newPar sb cs ms pt mp)[23]? = some (.int .u64 0) := by kernel_rfl
theorem newPar_34 (sb cs ms pt mp : Nat) : (newPar sb cs ms pt mp)[34]? = some (v8 0) := by kernel_rfl
theorem newPar_352 (sb cs ms pt mp : Nat) : (newPar sb cs ms pt mp)[352]? = some (bF) := by kernel_rfl
theorem newPar_106 (sb cs ms pt mp : Nat) : (newPar sb cs ms pt mp)[106]? = some (vS sb 0 (0 + 0)) := by kernel_rfl

def newPPost (cs ms : Nat) (w0 : World) (X : Nat → Obj → Prop) (e : Ending) (w' : World) : Prop :=
 ∃ pb : Nat, ∃ sb : Nat, ∃ pt : Nat, ∃ mu : Nat, ∃ mp : Nat, e = .returned (vP pb) ∧ Own w0 w' [row (pb) 252 (newPar sb cs ms pt mp), row (sb) 260 (full symZ (symL nosy) 0), row (pt) 107 #[vN, vN, vN, vN, .map (some mu), .map none, .map none, vN, bF, bF, bF], ((mu, .map (uA ([])) (uN ([]))) : Rw), ((mp, .map #[] 0) : Rw)] X
set_option maxRecDepth 100000 in
set_option maxHeartbeats 1000000 in
theorem newP (cs ms : Nat) (w0 w : World) (X : Nat → Obj → Prop) (hO : Own w0 w [] X)  :
  Calls Tryd.prog 35 #[vU 0, v6 0, .int .u64 0, v8 0, bF, bF, vP cs, vP ms] w (newPPost cs ms w0 X) := by
 go_enter Tryd.func35, Tryd.ntmps35
 have hms := makeNone
 have hmm := fun w => run_makeMap (P := Tryd.prog) 210 w
 have hmu := fun w => run_makeMap (P := Tryd.prog) 102 w
 go_wp2_with (first | (with_reducible refine Own.stay (fn := Tryd.f35) ?_) | ((with_reducible refine wpList_buildG 252 (l := [(9, .tmp 19), (7, .tmp 20), (58, .tmp 21), (8, .tmp 24), (20, .tmp 25), (110, .tmp 26)]) ?_ ?_); kernel_rfl; (intro c9 hc9; simp only [List.map_cons, List.map_nil] at hc9; (have ks9 := (congrArg Array.size hc9).trans (mkS _ _ _ _ _)); (have kc66 := (congrArg (fun c => c[66]?) hc9).trans (mk66 _ _ _ _ _)); (have kc23 := (congrArg (fun c => c[23]?) hc9).trans (mk23 _ _ _ _ _)); (have kc34 := (congrArg (fun c => c[34]?) hc9).trans (mk34 _ _ _ _ _)); (have kc41 := (congrArg (fun c => c[41]?) hc9).trans (mk41 _ _ _ _ _)); have HC9 := Lib.hid hc9; clear hc9); (try simp only [Act.put, List.setIfInBounds_toArray, List.set_cons_succ, List.set_cons_zero])))
 try with_reducible refine Own.Stay.mk ?_
 generalize hW : World.alloc _ _ = W2
 have hN : Own w0 W2 [row (w.heap.size + 1 + 1 + 1 + 1) 252 ((((c9.setIfInBounds 66 (vU 0)).setIfInBounds 23 (.int .u64 0)).setIfInBounds 34 (v8 0)).setIfInBounds 41 (bF)), ((w.heap.size + 1 + 1 + 1, .map #[] 0) : Rw), row (w.heap.size + 1 + 1) 107 #[vN, vN, vN, vN, .map (some (w.heap.size + 1)), .map none, .map none, vN, bF, bF, bF], ((w.heap.size + 1, .map #[] 0) : Rw), row (w.heap.size) 260 (full symZ [] 0)] X := by
  rw [← hW]
  exact (((((hO).alloc' _ (w.heap.size) (by simp)).alloc' _ (w.heap.size + 1) (by simp)).alloc' _ (w.heap.size + 1 + 1) (by simp)).alloc' _ (w.heap.size + 1 + 1 + 1) (by simp)).alloc' _ (w.heap.size + 1 + 1 + 1 + 1) (by simp)
 clear hW hO
 generalize w.heap.size + 1 + 1 + 1 + 1 = B1_4 at hN HC9 ⊢
 generalize w.heap.size + 1 + 1 + 1 = B1_3 at hN HC9 ⊢
 generalize w.heap.size + 1 + 1 = B1_2 at hN HC9 ⊢
 generalize w.heap.size + 1 = B1_1 at hN HC9 ⊢
 generalize w.heap.size = B1 at hN HC9 ⊢
 have hO := hN
 clear hN
 replace hO : Own w0 W2 [row (B1_4) 252 (newPar B1 cs ms B1_2 B1_3), ((B1_3, .map #[] 0) : Rw), row (B1_2) 107 #[vN, vN, vN, vN, .map (some (B1_1)), .map none, .map none, vN, bF, bF, bF], ((B1_1, .map (uA []) (uN [])) : Rw), row (B1) 260 (full symZ (symL nosy) 0)] X := hO.conv (by rw [HC9.out]; rfl)
 refine bodyPost_ret (v := vP B1_4) ?_ rfl ⟨B1_4, B1, B1_2, B1_1, B1_3, rfl, hO.sub [0, 4, 2, 3, 1] dc⟩
 simp [results, Tryd.results35, go_sem]
end Go.Proofs.YtikopplofkemlaaDoor.Use
namespace Go.Proofs.YtikopplofkemlaaDoor.Use
open Go.ChangeShapes Go.WideShapes Go.ChangeAt Go.RowKit Go.Sort Own
set_option linter.unusedVariables false
def newCtxIPost (pb : Nat) (PC : Array Value) (sb c : Nat) (st : List Sy) (n : Nat) (src : Int) (w0 : World) (X : Nat → Obj → Prop) (e : Ending) (w' : World) : Prop :=
 ∃ sb2 : Nat, ∃ c2 : Nat, e = .returned (.agg #[vI 0, vU src, vU (n : Int), bF]) ∧ Own w0 w' [row (pb) 252 (PC.setIfInBounds 106 (vS sb2 (n + 1) (n + 1 + c2))), row (sb2) 260 (full symZ (symL (st ++ [syk ⟨#[95, 115, 116, 97, 99, 107]⟩ 27])) c2)] X
set_option maxRecDepth 100000 in
set_option maxHeartbeats 1000000 in
theorem newCtxI (pb : Nat) (PC : Array Value) (sb c : Nat) (st : List Sy) (n : Nat) (src : Int) (w0 w : World) (X : Nat → Obj → Prop) (hO : Own w0 w [row (pb) 252 PC, row (sb) 260 (full symZ (symL st) c)] X) (hk66 : PC[66]? = some (vU src)) (hk32 : PC[32]? = some (bF)) (hk106 : PC[106]? = some (vS sb n (n + c))) (hn : st.length = n) (hnb : n ≤ 1000000) (hg0 : w0.cell? ⟨0, 0, none⟩ = some (vU 4294967295)) (hg1 : w0.cell? ⟨0, 1, none⟩ = some (vU 4294967295)) :
  Calls Tryd.prog 42 #[vP pb] w (newCtxIPost pb PC sb c st n src w0 X) := by
 go_enter Tryd.func42, Tryd.ntmps42
 go_wp2_with (first | (with_reducible refine Own.stay (fn := Tryd.f42) ?_) | fail)
 try with_reducible refine Own.Stay.mk ?_
 generalize hW : World.alloc _ _ = W2
 have hN : Own w0 W2 [row (w.heap.size) 33 #[vI 0, vU 0, vU 0, bF], row (pb) 252 PC, row (sb) 260 (full symZ (symL st) c)] X := by
  rw [← hW]
  exact (hO).alloc' _ (w.heap.size) (by simp)
 clear hW hO
 generalize w.heap.size = B1 at hN ⊢
 have hO := hN
 clear hN
 obtain ⟨HL, HX⟩ := hid2 hO
 have hP9 := hO.pick [1, 2] dc
 have h9_hnb : n ≤ 2000000 := (by first | assumption | omega | (simp; done) | (simp; omega))
 have T9 := newSymG pb PC sb c st n src 27 ⟨#[95, 115, 116, 97, 99, 107]⟩ _ _ _ hP9 hk66 hk32 hk106 hn h9_hnb hg0 hg1
 refine Calls.mono T9 ?_
 clear hP9 T9 h9_hnb
 rintro e u3 ⟨nd4, nd5, rfl, hQ⟩
 replace hO : Own w0 u3 [row (pb) 252 (PC.setIfInBounds 106 (vS nd4 (n + 1) (n + 1 + nd5))), row (nd4) 260 (full symZ (symL (st ++ [syk ⟨#[95, 115, 116, 97, 99, 107]⟩ 27])) nd5), row (B1) 33 #[vI 0, vU 0, vU 0, bF]] X := hQ.back HL.out HX.out [0] dc dc
 clear hQ HL HX
 obtain ⟨aA, aB, aC, aD, aE, aF, -⟩ := hO.k4 2 rfl
 have HO := Lib.hid hO
 clear hO
 go_wp2_with (first | (with_reducible refine Own.stay (fn := Tryd.f42) ?_) | fail)
 try with_reducible refine Own.Stay.mk ?_
 have hO := HO.out
 clear HO aA aB aC aD aE aF
 generalize hW : World.setCell _ _ _ = W7
 have hN : Own w0 W7 [row (pb) 252 (PC.setIfInBounds 106 (vS nd4 (n + 1) (n + 1 + nd5))), row (nd4) 260 (full symZ (symL (st ++ [syk ⟨#[95, 115, 116, 97, 99, 107]⟩ 27])) nd5), row (B1) 33 #[vI 0, vU src, vU (n : Int), bF]] X := by
  rw [← hW]
  exact ((((hO).set 2 rfl 0 _).set 2 rfl 1 _).set 2 rfl 2 _).set 2 rfl 3 _
 clear hW hO
 have hO := hN
 clear hN
 have z9_2_0 : W7.cell? ⟨B1, 0, none⟩ = some (vI 0) := hO.cell 2 rfl 0 rfl
 have z9_2_1 : W7.cell? ⟨B1, 1, none⟩ = some (vU src) := hO.cell 2 rfl 1 rfl
 have z9_2_2 : W7.cell? ⟨B1, 2, none⟩ = some (vU (n : Int)) := hO.cell 2 rfl 2 rfl
 have z9_2_3 : W7.cell? ⟨B1, 3, none⟩ = some (bF) := hO.cell 2 rfl 3 rfl
 refine bodyPost_ret (v := .agg #[vI 0, vU src, vU (n : Int), bF]) ?_ rfl ⟨nd4, nd5, rfl, hO.sub [0, 1] dc⟩
 simp [results, Tryd.results42, go_sem, z9_2_0, z9_2_1, z9_2_2, z9_2_3]
def newCtxPost (pb : Nat) (PC : Array Value) (sb c : Nat) (st : List Sy) (n : Nat) (src : Int) (w0 : World) (X : Nat → Obj → Prop) (e : Ending) (w' : World) : Prop :=
 ∃ sb2 : Nat, ∃ c2 : Nat, e = .returned (.agg #[vI 0, vU src, vU (n : Int), bF]) ∧ Own w0 w' [row (pb) 252 (PC.setIfInBounds 106 (vS sb2 (n + 1) (n + 1 + c2))), row (sb2) 260 (full symZ (symL (st ++ [syk ⟨#[95, 115, 116, 97, 99, 107]⟩ 27])) c2)] X
set_option maxRecDepth 100000 in
set_option maxHeartbeats 1000000 in
theorem newCtx (pb : Nat) (PC : Array Value) (sb c : Nat) (st : List Sy) (n : Nat) (src : Int) (w0 w : World) (X : Nat → Obj → Prop) (hO : Own w0 w [row (pb) 252 PC, row (sb) 260 (full symZ (symL st) c)] X) (hk66 : PC[66]? = some (vU src)) (hk32 : PC[32]? = some (bF)) (hk106 : PC[106]? = some (vS sb n (n + c))) (hn : st.length = n) (hnb : n ≤ 1000000) (hg0 : w0.cell? ⟨0, 0, none⟩ = some (vU 4294967295)) (hg1 : w0.cell? ⟨0, 1, none⟩ = some (vU 4294967295)) :
  Calls Tryd.prog 36 #[vP pb] w (newCtxPost pb PC sb c st n src w0 X) := by
 go_enter Tryd.func36, Tryd.ntmps36
 go_wp2_with (first | (with_reducible refine Own.stay (fn := Tryd.f36) ?_) | fail)
 try with_reducible refine Own.Stay.mk ?_
 generalize hW : World.alloc _ _ = W2
 have hN : Own w0 W2 [row (w.heap.size) 33 #[vI 0, vU 0, vU 0, bF], row (pb) 252 PC, row (sb) 260 (full symZ (symL st) c)] X := by
  rw [← hW]
  exact (hO).alloc' _ (w.heap.size) (by simp)
 clear hW hO
 generalize w.heap.size = B1 at hN ⊢
 have hO := hN
 clear hN
 obtain ⟨HL, HX⟩ := hid2 hO
 have hP9 := hO.pick [1, 2] dc
 have T9 := newCtxI pb PC sb c st n src _ _ _ hP9 hk66 hk32 hk106 hn hnb hg0 hg1
 refine Calls.mono T9 ?_
 clear hP9 T9
 rintro e u3 ⟨nd4, nd5, rfl, hQ⟩
 replace hO : Own w0 u3 [row (pb) 252 (PC.setIfInBounds 106 (vS nd4 (n + 1) (n + 1 + nd5))), row (nd4) 260 (full symZ (symL (st ++ [syk ⟨#[95, 115, 116, 97, 99, 107]⟩ 27])) nd5), row (B1) 33 #[vI 0, vU 0, vU 0, bF]] X := hQ.back HL.out HX.out [0] dc dc
 clear hQ HL HX
 obtain ⟨aA, aB, aC, aD, aE, aF, -⟩ := hO.k4 2 rfl
 have HO := Lib.hid hO
 clear hO
 go_wp2_with (first | (with_reducible refine Own.stay (fn := Tryd.f36) ?_) | fail)
 try with_reducible refine Own.Stay.mk ?_
 have hO := HO.out
 clear HO aA aB aC aD aE aF
 generalize hW : World.setCell _ _ _ = W7
 have hN : Own w0 W7 [row (pb) 252 (PC.setIfInBounds 106 (vS nd4 (n + 1) (n + 1 + nd5))), row (nd4) 260 (full symZ (symL (st ++ [syk ⟨#[95, 115, 116, 97, 99, 107]⟩ 27])) nd5), row (B1) 33 #[vI 0, vU src, vU (n : Int), bF]] X := by
  rw [← hW]
  exact ((((hO).set 2 rfl 0 _).set 2 rfl 1 _).set 2 rfl 2 _).set 2 rfl 3 _
 clear hW hO
 have hO := hN
 clear hN
 have z9_2_0 : W7.cell? ⟨B1, 0, none⟩ = some (vI 0) := hO.cell 2 rfl 0 rfl
 have z9_2_1 : W7.cell? ⟨B1, 1, none⟩ = some (vU src) := hO.cell 2 rfl 1 rfl
 have z9_2_2 : W7.cell? ⟨B1, 2, none⟩ = some (vU (n : Int)) := hO.cell 2 rfl 2 rfl
 have z9_2_3 : W7.cell? ⟨B1, 3, none⟩ = some (bF) := hO.cell 2 rfl 3 rfl
 refine bodyPost_ret (v := .agg #[vI 0, vU src, vU (n : Int), bF]) ?_ rfl ⟨nd4, nd5, rfl, hO.sub [0, 1] dc⟩
 simp [results, Tryd.results36, go_sem, z9_2_0, z9_2_1, z9_2_2, z9_2_3]
end Go.Proofs.YtikopplofkemlaaDoor.Use
