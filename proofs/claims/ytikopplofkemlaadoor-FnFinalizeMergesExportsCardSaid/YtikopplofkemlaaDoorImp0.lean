/- A helper of the runtime, the first, imported and called, where a part keeps the uses. No condition. -/
import Derived.Test.YtikopplofkemlaaDoorUmp
namespace Go.Proofs.YtikopplofkemlaaDoor.Use
open Go.ChangeShapes Go.WideShapes Go.ChangeAt Go.RowKit Go.Sort Own
set_option linter.unusedVariables false
noncomputable def rIimpP02E (pb : Nat) (PC : Array Value) (n : Nat) (src : Int) (ms : Nat) (MC : Array Value) (loc : Int) (B1_2 : Nat) (nd4 : Nat) (nd5 : Nat) : Nat → Rega.Atoms → Value
 | 0, α => vP pb
 | 1, α => vP pb
 | 2, α => .pointer (some ⟨pb, 187, none⟩)
 | 3, α => vP ms
 | 4, α => vP pb
 | 5, α => vP pb
 | 6, α => .pointer (some ⟨pb, 187, none⟩)
 | 7, α => vP ms
 | 8, α => vP ms
 | 9, α => .pointer (some ⟨ms, 5, none⟩)
 | 10, α => vN
 | 11, α => .pointer (some ⟨B1_2, 1, none⟩)
 | 12, α => .agg #[vU src, vU (n : Int)]
 | 13, α => vS (α 13) 1 1
 | 14, α => vS (α 14) 1 (1 + α 1014)
 | 15, α => vP ms
 | 16, α => .pointer (some ⟨ms, 5, none⟩)
 | 17, α => undef
 | _, _ => undef
noncomputable def rIimpP02Anc : Nat → List Nat
 | 1 => [0]
 | 2 => [0, 1]
 | 3 => [0, 1, 2]
 | 5 => [4]
 | 6 => [4, 5]
 | 7 => [4, 5, 6]
 | 8 => [4, 5, 6, 7]
 | 9 => [4, 5, 6, 7, 8]
 | 10 => [4, 5, 6, 7, 8, 9]
 | 12 => [11]
 | 13 => [11, 12]
 | 14 => [4, 5, 6, 7, 8, 9, 10, 11, 12, 13]
 | 15 => [0, 1, 2, 3, 4, 5, 6, 7, 8, 9, 10, 11, 12, 13, 14]
 | 16 => [0, 1, 2, 3, 4, 5, 6, 7, 8, 9, 10, 11, 12, 13, 14, 15]
 | 17 => [0, 1, 2, 3, 4, 5, 6, 7, 8, 9, 10, 11, 12, 13, 14, 15, 16]
 | _ => []
noncomputable def rIimpP02Trn : Nat → List Nat
 | 17 => [2999]
 | _ => []
noncomputable def rIimpP02Cnt : List (Nat × Nat) := [(13, 1), (14, 1)]
noncomputable def rIimpP02T2999 (pb : Nat) (PC : Array Value) (n : Nat) (src : Int) (ms : Nat) (MC : Array Value) (loc : Int) (B1_2 : Nat) (nd4 : Nat) (nd5 : Nat) (L9 : Nat → Bool) (α : Rega.Atoms) : Rw := if L9 17 = true then row (ms) 99 (MC.setIfInBounds 5 (vS (α 14) 1 (1 + α 1014))) else row (ms) 99 MC
noncomputable def rIimpP02R (pb : Nat) (PC : Array Value) (n : Nat) (src : Int) (ms : Nat) (MC : Array Value) (loc : Int) (B1_2 : Nat) (nd4 : Nat) (nd5 : Nat) (L9 : Nat → Bool) (α : Rega.Atoms) (ix9 : Nat) : Rw := if ix9 = 999 then row (pb) 252 (PC.setIfInBounds 106 (vS nd4 (n + 1) (n + 1 + nd5))) else if ix9 = 1999 then row (B1_2) 81 #[vI loc, vU src, vU (n : Int)] else if ix9 = 2999 then rIimpP02T2999 pb PC n src ms MC loc B1_2 nd4 nd5 L9 α else if ix9 = 13 then row (α 13) 31 #[vU src, vU (n : Int)] else if ix9 = 14 then row (α 14) 31 (full refZ [vU src, vU (n : Int)] (α 1014)) else (0, .map #[] 0)
theorem rIimpP02_he (pb : Nat) (PC : Array Value) (n : Nat) (src : Int) (ms : Nat) (MC : Array Value) (loc : Int) (B1_2 : Nat) (nd4 : Nat) (nd5 : Nat) : ∀ kk α α', (∀ j, (j % 1000 = kk ∨ j % 1000 ∈ rIimpP02Anc kk) → α j = α' j) → rIimpP02E pb PC n src ms MC loc B1_2 nd4 nd5 kk α = rIimpP02E pb PC n src ms MC loc B1_2 nd4 nd5 kk α' := by
 intro kk α α' h
 match kk with
 | 0 => rfl
 | 1 => rfl
 | 2 => rfl
 | 3 => rfl
 | 4 => rfl
 | 5 => rfl
 | 6 => rfl
 | 7 => rfl
 | 8 => rfl
 | 9 => rfl
 | 10 => rfl
 | 11 => rfl
 | 12 => rfl
 | 13 => simp only [rIimpP02E, h 13 (Or.inl rfl)]
 | 14 => simp only [rIimpP02E, h 14 (Or.inl rfl), h 1014 (Or.inl rfl)]
 | 15 => rfl
 | 16 => rfl
 | 17 => rfl
 | n + 18 => rfl
theorem rIimpP02_st (pb : Nat) (PC : Array Value) (n : Nat) (src : Int) (ms : Nat) (MC : Array Value) (loc : Int) (B1_2 : Nat) (nd4 : Nat) (nd5 : Nat) : Stable rIimpP02Cnt 3 rIimpP02Anc rIimpP02Trn (rIimpP02R pb PC n src ms MC loc B1_2 nd4 nd5) := by
 intro k9 L9 α α' ix9 hk hcl hα hact ht
 have hp := act_places hact
 replace hp : ix9 ∈ [999, 1999, 2999, 13, 14] := hp
 simp only [List.mem_cons, List.not_mem_nil, or_false] at hp
 rcases hp with rfl | rfl | rfl | rfl | rfl
 ·rfl
 ·rfl
 ·show rIimpP02T2999 pb PC n src ms MC loc B1_2 nd4 nd5 (Rega.ran L9 k9) α' = rIimpP02T2999 pb PC n src ms MC loc B1_2 nd4 nd5 L9 α
  unfold rIimpP02T2999
  have n17 : 17 ≠ k9 := fun e => ht (by rw [← e]; decide)
  rw [ran_ne n17]
  by_cases e17 : L9 17 = true
  ·first | rw [if_pos e17, if_pos e17] | rw [if_pos e17]
   try simp only [hα 14 (ne_ran hk (hcl 17 e17 14 dc)), hα 1014 (ne_ran hk (hcl 17 e17 14 dc))]
  first | rw [if_neg e17, if_neg e17] | rw [if_neg e17]
 ·have e0 : L9 13 = true := act_lt hact dc
  show row (α' 13) 31 #[vU src, vU (n : Int)] = row (α 13) 31 #[vU src, vU (n : Int)]
  simp only [hα 13 (ne_ran hk e0)]
 ·have e0 : L9 14 = true := act_lt hact dc
  show row (α' 14) 31 (full refZ [vU src, vU (n : Int)] (α' 1014)) = row (α 14) 31 (full refZ [vU src, vU (n : Int)] (α 1014))
  simp only [hα 14 (ne_ran hk e0), hα 1014 (ne_ran hk e0)]
noncomputable def rIimpP03E (pb : Nat) (PC : Array Value) (n : Nat) (src : Int) (mp : Nat) (es : Array MapEntry) (k : Nat) (loc : Int) (nm : ByteArray) (B1_2 : Nat) (nd4 : Nat) (nd5 : Nat) : Nat → Rega.Atoms → Value
 | 0, α => vP pb
 | 1, α => vP pb
 | 2, α => .pointer (some ⟨pb, 117, none⟩)
 | 3, α => .map (some mp)
 | 4, α => .string nm
 | 5, α => .agg #[vI loc, vU src, vU (n : Int)]
 | 6, α => undef
 | _, _ => undef
noncomputable def rIimpP03Anc : Nat → List Nat
 | 1 => [0]
 | 2 => [0, 1]
 | 3 => [0, 1, 2]
 | 6 => [0, 1, 2, 3, 4, 5]
 | _ => []
noncomputable def rIimpP03Trn : Nat → List Nat
 | 6 => [2999]
 | _ => []
noncomputable def rIimpP03Cnt : List (Nat × Nat) := []
noncomputable def rIimpP03T2999 (pb : Nat) (PC : Array Value) (n : Nat) (src : Int) (mp : Nat) (es : Array MapEntry) (k : Nat) (loc : Int) (nm : ByteArray) (B1_2 : Nat) (nd4 : Nat) (nd5 : Nat) (L9 : Nat → Bool) (α : Rega.Atoms) : Rw := if L9 6 = true then ((mp, .map (es.push ⟨.string nm, .agg #[vI loc, vU src, vU (n : Int)], k⟩) (k + 1)) : Rw) else ((mp, .map es k) : Rw)
noncomputable def rIimpP03R (pb : Nat) (PC : Array Value) (n : Nat) (src : Int) (mp : Nat) (es : Array MapEntry) (k : Nat) (loc : Int) (nm : ByteArray) (B1_2 : Nat) (nd4 : Nat) (nd5 : Nat) (L9 : Nat → Bool) (α : Rega.Atoms) (ix9 : Nat) : Rw := if ix9 = 999 then row (pb) 252 (PC.setIfInBounds 106 (vS nd4 (n + 1) (n + 1 + nd5))) else if ix9 = 1999 then row (B1_2) 81 #[vI loc, vU src, vU (n : Int)] else if ix9 = 2999 then rIimpP03T2999 pb PC n src mp es k loc nm B1_2 nd4 nd5 L9 α else (0, .map #[] 0)
theorem rIimpP03_he (pb : Nat) (PC : Array Value) (n : Nat) (src : Int) (mp : Nat) (es : Array MapEntry) (k : Nat) (loc : Int) (nm : ByteArray) (B1_2 : Nat) (nd4 : Nat) (nd5 : Nat) : ∀ kk α α', (∀ j, (j % 1000 = kk ∨ j % 1000 ∈ rIimpP03Anc kk) → α j = α' j) → rIimpP03E pb PC n src mp es k loc nm B1_2 nd4 nd5 kk α = rIimpP03E pb PC n src mp es k loc nm B1_2 nd4 nd5 kk α' := by
 intro kk α α' h
 match kk with
 | 0 => rfl
 | 1 => rfl
 | 2 => rfl
 | 3 => rfl
 | 4 => rfl
 | 5 => rfl
 | 6 => rfl
 | n + 7 => rfl
theorem rIimpP03_st (pb : Nat) (PC : Array Value) (n : Nat) (src : Int) (mp : Nat) (es : Array MapEntry) (k : Nat) (loc : Int) (nm : ByteArray) (B1_2 : Nat) (nd4 : Nat) (nd5 : Nat) : Stable rIimpP03Cnt 3 rIimpP03Anc rIimpP03Trn (rIimpP03R pb PC n src mp es k loc nm B1_2 nd4 nd5) := by
 intro k9 L9 α α' ix9 hk hcl hα hact ht
 have hp := act_places hact
 replace hp : ix9 ∈ [999, 1999, 2999] := hp
 simp only [List.mem_cons, List.not_mem_nil, or_false] at hp
 rcases hp with rfl | rfl | rfl
 ·rfl
 ·rfl
 ·show rIimpP03T2999 pb PC n src mp es k loc nm B1_2 nd4 nd5 (Rega.ran L9 k9) α' = rIimpP03T2999 pb PC n src mp es k loc nm B1_2 nd4 nd5 L9 α
  unfold rIimpP03T2999
  have n6 : 6 ≠ k9 := fun e => ht (by rw [← e]; decide)
  rw [ran_ne n6]
def impP0Post (pb : Nat) (PC : Array Value) (sb c : Nat) (st : List Sy) (n : Nat) (src : Int) (mp : Nat) (es : Array MapEntry) (k ms : Nat) (MC : Array Value) (loc : Int) (nm : ByteArray) (pt : Nat) (QC : Array Value) (mu : Nat) (ul : List (Int × Int × Int)) (w0 : World) (X : Nat → Obj → Prop) (e : Ending) (w' : World) : Prop :=
 ∃ b : Nat, ∃ sb2 : Nat, ∃ c2 : Nat, ∃ gb2 : Nat, ∃ cg2 : Nat, e = .returned (.agg #[vF 267 b, vI loc]) ∧ Own w0 w' [row (pb) 252 (PC.setIfInBounds 106 (vS sb2 (n + 1) (n + 1 + c2))), row (sb2) 260 (full symZ (symL (bump (st ++ [syk nm 27]) n)) c2), ((mp, .map (es.push ⟨.string nm, .agg #[vI loc, vU src, vU (n : Int)], k⟩) (k + 1)) : Rw), row (ms) 99 (MC.setIfInBounds 5 (vS gb2 1 (1 + cg2))), row (pt) 107 QC, ((mu, .map (uA (ubump ul src (n : Int))) (uN (ubump ul src (n : Int)))) : Rw), row (gb2) 31 (full refZ ([vU src, vU (n : Int)]) cg2), row (b) 270 #[vU src, vU (n : Int), bF, bF, bF]] X
set_option maxRecDepth 100000 in
set_option maxHeartbeats 1000000 in
theorem impP0 (pb : Nat) (PC : Array Value) (sb c : Nat) (st : List Sy) (n : Nat) (src : Int) (mp : Nat) (es : Array MapEntry) (k ms : Nat) (MC : Array Value) (loc : Int) (nm : ByteArray) (pt : Nat) (QC : Array Value) (mu : Nat) (ul : List (Int × Int × Int)) (w0 w : World) (X : Nat → Obj → Prop) (hO : Own w0 w [row (pb) 252 PC, row (sb) 260 (full symZ (symL st) c), ((mp, .map es k) : Rw), row (ms) 99 MC, row (pt) 107 QC, ((mu, .map (uA ul) (uN ul)) : Rw)] X) (hk350 : PC[350]? = some (bF)) (hk32 : PC[32]? = some (bF)) (hk105 : PC[105]? = some (vP pt)) (hk66 : PC[66]? = some (vU src)) (hk117 : PC[117]? = some (.map (some mp))) (hk187 : PC[187]? = some (vP ms)) (hk106 : PC[106]? = some (vS sb n (n + c))) (hn : st.length = n) (hnb : n ≤ 2000000) (hgen : MC[5]? = some (vN)) (hno : Instr.findNow .string (.string nm) es.toList 0 = some none) (hg0 : w0.cell? ⟨0, 0, none⟩ = some (vU 4294967295)) (hg1 : w0.cell? ⟨0, 1, none⟩ = some (vU 4294967295)) (hsu : QC[4]? = some (.map (some mu))) :
  Calls Tryd.prog 54 #[vP pb, .agg #[vI loc], .string nm] w (impP0Post pb PC sb c st n src mp es k ms MC loc nm pt QC mu ul w0 X) := by
 go_enter Tryd.func54, Tryd.ntmps54
 have aZ := hO.cell 0 rfl 32 hk32
 have aa := hO.cell 0 rfl 66 hk66
 have ab := hO.cell 0 rfl 105 hk105
 have ac := hO.cell 0 rfl 106 hk106
 have ad := hO.cell 0 rfl 117 hk117
 have ae := hO.cell 0 rfl 187 hk187
 have af := hO.cell 0 rfl 350 hk350
 have aL := hO.lt 0 rfl
 have aM := hO.free 0 rfl
 have ag := hO.cell 3 rfl 5 hgen
 have aC := hO.lt 3 rfl
 have aD := hO.free 3 rfl
 have ah := hO.cell 4 rfl 4 hsu
 have aA := hO.lt 4 rfl
 have aB := hO.free 4 rfl
 have HO := Lib.hid hO
 clear hO
 have hsl : (symL st).length = n * 10 := by rw [symL_length, hn]
 go_wp2_with (first | (with_reducible refine Own.stay (fn := Tryd.f54) ?_) | (at_lookup; refine wpList_lookup_no rfl _ _ 210 true rfl 9 81 (by kernel_rfl) (by kernel_rfl) (((HO.out.mapAt 2 rfl).alloc _).alloc _) rfl _ rfl (.agg #[vI 0, vU 0, vU 0]) (Tryd.zeroValue81 _) hno ?_))
 try with_reducible refine Own.Stay.mk ?_
 have hO := HO.out
 clear HO aZ aa ab ac ad ae af aL aM ag aC aD ah aA aB
 generalize hW : World.alloc _ _ = W2
 have hN : Own w0 W2 [row (w.heap.size + 1 + 1) 81 #[vI loc, vU 0, vU 0], row (w.heap.size + 1) 52 #[.nilIface, vI 0], row (w.heap.size) 28 #[vI loc], row (pb) 252 PC, row (sb) 260 (full symZ (symL st) c), ((mp, .map es k) : Rw), row (ms) 99 MC, row (pt) 107 QC, ((mu, .map (uA ul) (uN ul)) : Rw)] X := by
  rw [← hW]
  exact (((hO).alloc' _ (w.heap.size) (by simp)).alloc' _ (w.heap.size + 1) (by simp)).alloc' _ (w.heap.size + 1 + 1) (by simp)
 clear hW hO
 generalize w.heap.size + 1 + 1 = B1_2 at hN ⊢
 generalize w.heap.size + 1 = B1_1 at hN ⊢
 generalize w.heap.size = B1 at hN ⊢
 have hO := hN
 clear hN
 obtain ⟨HL, HX⟩ := hid2 hO
 have hP9 := hO.pick [3, 4] dc
 have T9 := newSymG pb PC sb c st n src 27 nm _ _ _ hP9 hk66 hk32 hk106 hn hnb hg0 hg1
 refine Calls.mono T9 ?_
 clear hP9 T9
 rintro e u3 ⟨nd4, nd5, rfl, hQ⟩
 replace hO : Own w0 u3 [row (pb) 252 (PC.setIfInBounds 106 (vS nd4 (n + 1) (n + 1 + nd5))), row (nd4) 260 (full symZ (symL (st ++ [syk nm 27])) nd5), row (B1_2) 81 #[vI loc, vU 0, vU 0], row (B1_1) 52 #[.nilIface, vI 0], row (B1) 28 #[vI loc], ((mp, .map es k) : Rw), row (ms) 99 MC, row (pt) 107 QC, ((mu, .map (uA ul) (uN ul)) : Rw)] X := hQ.back HL.out HX.out [0, 1, 2, 5, 6, 7, 8] dc dc
 clear hQ HL HX
 obtain ⟨ai, aj, ak, al, am, -⟩ := hO.k3 2 rfl
 obtain ⟨aN, aO, aC, aD, -⟩ := hO.k2 3 rfl
 obtain ⟨aE, aA, aB, -⟩ := hO.k1 4 rfl
 have HO := Lib.hid hO
 clear hO
 go_wp2_with (first | (with_reducible refine Own.stay (fn := Tryd.f54) ?_) | (at_lookup; refine wpList_lookup_no rfl _ _ 210 true rfl 9 81 (by kernel_rfl) (by kernel_rfl) (((HO.out.mapAt 2 rfl).alloc _).alloc _) rfl _ rfl (.agg #[vI 0, vU 0, vU 0]) (Tryd.zeroValue81 _) hno ?_))
 try with_reducible refine Own.Stay.mk ?_
 have hO := HO.out
 clear HO ai aj ak al am aN aO aC aD aE aA aB
 generalize hW : World.setCell _ _ _ = W7
 have hN : Own w0 W7 [row (pb) 252 (PC.setIfInBounds 106 (vS nd4 (n + 1) (n + 1 + nd5))), row (nd4) 260 (full symZ (symL (st ++ [syk nm 27])) nd5), row (B1_2) 81 #[vI loc, vU src, vU (n : Int)], row (B1_1) 52 #[.nilIface, vI 0], row (B1) 28 #[vI loc], ((mp, .map es k) : Rw), row (ms) 99 MC, row (pt) 107 QC, ((mu, .map (uA ul) (uN ul)) : Rw)] X := by
  rw [← hW]
  exact ((hO).set 2 rfl 1 _).set 2 rfl 2 _
 clear hW hO
 have hO := hN
 clear hN
 obtain ⟨HL, HX⟩ := hid2 hO
 have hP9 := hO.pick [0, 2, 6] dc
 generalize hX9_8 : Own.Rest _ _ X = X9_8 at hP9
 replace hP9 : Own w0 W7 [row (pb) 252 (PC.setIfInBounds 106 (vS nd4 (n + 1) (n + 1 + nd5))), row (B1_2) 81 #[vI loc, vU src, vU (n : Int)], row (ms) 99 MC] X9_8 := hP9
 clear hO
 have hO := hP9
 clear hP9
 have st9 := rIimpP02_st pb PC n src ms MC loc B1_2 nd4 nd5
 let R9 := rIimpP02R pb PC n src ms MC loc B1_2 nd4 nd5
 refine wp_region_own (e := rIimpP02E pb PC n src ms MC loc B1_2 nd4 nd5) (anc := rIimpP02Anc) (G := (fun L9 α u9 => OwnF w0 u9 (act rIimpP02Cnt 3 L9) (rIimpP02R pb PC n src ms MC loc B1_2 nd4 nd5 L9 α) X9_8)) (by kernel_rfl) (by kernel_rfl) (by kernel_rfl) (by kernel_rfl) (rIimpP02_he pb PC n src ms MC loc B1_2 nd4 nd5) ?_ (RunsAll.all ?_) ?_
 ·have hp : ∀ i, act rIimpP02Cnt 3 (fun _ => false) i → i ∈ [999, 1999, 2999] := by
   intro i hi
   have h9 : i % 1000 = 999 := by
    by_cases h : i % 1000 = 999
    ·exact h
    ·exact absurd (act_lt hi h) (by simp)
   unfold act at hi
   rw [if_pos h9] at hi
   simp only [List.mem_cons, List.not_mem_nil, or_false]
   omega
  refine hO.drew.family (fun i hi => ?_) (fun i j hi hj hij => ?_)
  ·have := hp i hi
   simp only [List.mem_cons, List.not_mem_nil, or_false] at this
   rcases this with rfl | rfl | rfl <;> rfl
  ·have h1 := hp i hi
   have h2 := hp j hj
   simp only [List.mem_cons, List.not_mem_nil, or_false] at h1 h2
   omega
 ·refine ⟨?_, ?_, ?_, ?_, ?_, ?_, ?_, ?_, ?_, ?_, ?_, ?_, ?_, ?_, ?_, ?_, ?_, ?_, trivial⟩
  ·refine pur st9 rfl rfl fun L9 α a9 u9 K9 hL hcl hA hG hS h0 h1 hK => ?_
   have s0 := eS (vP pb) ((h0 0 (by kernel_rfl)).trans rfl)
   go_simp
   exact hK
  ·refine pur st9 rfl rfl fun L9 α a9 u9 K9 hL hcl hA hG hS h0 h1 hK => ?_
   have s26 := eS (vP pb) (hS 0 26 dc rfl (ltd 60 rfl))
   go_simp
   exact hK
  ·refine pur st9 rfl rfl fun L9 α a9 u9 K9 hL hcl hA hG hS h0 h1 hK => ?_
   have s27 := eS (vP pb) (hS 1 27 dc rfl (ltd 60 rfl))
   go_simp
   exact hK
  ·refine pur st9 rfl rfl fun L9 α a9 u9 K9 hL hcl hA hG hS h0 h1 hK => ?_
   have s28 := eS (.pointer (some ⟨pb, 187, none⟩)) (hS 2 28 dc rfl (ltd 60 rfl))
   have e0 : R9 L9 α 999 = row (pb) 252 (PC.setIfInBounds 106 (vS nd4 (n + 1) (n + 1 + nd5))) := rfl
   have hr := hG.rowAt 999 (act_base 999 rfl) e0
   have c0 : u9.cell? ⟨pb, 187, none⟩ = some (vP ms) := hr.cell ((get_other hk187 (by omega) _))
   clear hr e0
   go_simp
   exact hK
  ·refine pur st9 rfl rfl fun L9 α a9 u9 K9 hL hcl hA hG hS h0 h1 hK => ?_
   have s0 := eS (vP pb) ((h0 0 (by kernel_rfl)).trans rfl)
   go_simp
   exact hK
  ·refine pur st9 rfl rfl fun L9 α a9 u9 K9 hL hcl hA hG hS h0 h1 hK => ?_
   have s30 := eS (vP pb) (hS 4 30 dc rfl (ltd 60 rfl))
   go_simp
   exact hK
  ·refine pur st9 rfl rfl fun L9 α a9 u9 K9 hL hcl hA hG hS h0 h1 hK => ?_
   have s31 := eS (vP pb) (hS 5 31 dc rfl (ltd 60 rfl))
   go_simp
   exact hK
  ·refine pur st9 rfl rfl fun L9 α a9 u9 K9 hL hcl hA hG hS h0 h1 hK => ?_
   have s32 := eS (.pointer (some ⟨pb, 187, none⟩)) (hS 6 32 dc rfl (ltd 60 rfl))
   have e0 : R9 L9 α 999 = row (pb) 252 (PC.setIfInBounds 106 (vS nd4 (n + 1) (n + 1 + nd5))) := rfl
   have hr := hG.rowAt 999 (act_base 999 rfl) e0
   have c0 : u9.cell? ⟨pb, 187, none⟩ = some (vP ms) := hr.cell ((get_other hk187 (by omega) _))
   clear hr e0
   go_simp
   exact hK
  ·refine pur st9 rfl rfl fun L9 α a9 u9 K9 hL hcl hA hG hS h0 h1 hK => ?_
   have s33 := eS (vP ms) (hS 7 33 dc rfl (ltd 60 rfl))
   go_simp
   exact hK
  ·refine pur st9 rfl rfl fun L9 α a9 u9 K9 hL hcl hA hG hS h0 h1 hK => ?_
   have s34 := eS (vP ms) (hS 8 34 dc rfl (ltd 60 rfl))
   go_simp
   exact hK
  ·refine pur st9 rfl rfl fun L9 α a9 u9 K9 hL hcl hA hG hS h0 h1 hK => ?_
   replace hL : L9 10 = false := hL
   have s35 := eS (.pointer (some ⟨ms, 5, none⟩)) (hS 9 35 dc rfl (ltd 60 rfl))
   have e0 : R9 L9 α 2999 = row (ms) 99 MC := by
    show rIimpP02T2999 pb PC n src ms MC loc B1_2 nd4 nd5 L9 α = _
    unfold rIimpP02T2999
    rw [if_neg (fun e => by have := hcl 17 e 10 dc; rw [hL] at this; cases this)]
   have hr := hG.rowAt 2999 (act_base 2999 rfl) e0
   have c0 : u9.cell? ⟨ms, 5, none⟩ = some (vN) := hr.cell (hgen)
   clear hr e0
   go_simp
   exact hK
  ·refine pur st9 rfl rfl fun L9 α a9 u9 K9 hL hcl hA hG hS h0 h1 hK => ?_
   have s7 := eS (vP B1_2) ((h0 7 (by kernel_rfl)).trans rfl)
   go_simp
   exact hK
  ·refine pur st9 rfl rfl fun L9 α a9 u9 K9 hL hcl hA hG hS h0 h1 hK => ?_
   have s37 := eS (.pointer (some ⟨B1_2, 1, none⟩)) (hS 11 37 dc rfl (ltd 60 rfl))
   have e0 : R9 L9 α 1999 = row (B1_2) 81 #[vI loc, vU src, vU (n : Int)] := rfl
   have hr := hG.rowAt 1999 (act_base 1999 rfl) e0
   have c0 : u9.cell? ⟨B1_2, 1, none⟩ = some (vU src) := hr.cell rfl
   have c1 : u9.cell? ⟨B1_2, 2, none⟩ = some (vU (n : Int)) := hr.cell rfl
   clear hr e0
   go_simp
   exact hK
  ·intro L9 α a9 u9 K9 hL hcl hA hG hS h0 h1 hK
   replace hL : L9 13 = false := hL
   have q38 : a9.tmps[38]? = some (.agg #[vU src, vU (n : Int)]) := hS 12 38 dc rfl (ltd 60 rfl)
   have s38 := Rega.eval_of q38
   go_simp
   exact hK _ (fun j => if j = 13 then u9.heap.size else α j) _ (fun j hj => if_neg (fun e => hj (by rw [e]))) rfl (step_alloc st9 hL hcl rfl rfl dc _ rfl hG)
  ·intro L9 α a9 u9 K9 hL hcl hA hG hS h0 h1 hK
   replace hL : L9 14 = false := hL
   have q36 : a9.tmps[36]? = some (vN) := hS 10 36 dc rfl (ltd 60 rfl)
   have s36 := Rega.eval_of q36
   have q39 : a9.tmps[39]? = some (vS (α 13) 1 1) := hS 13 39 dc rfl (ltd 60 rfl)
   have s39 := Rega.eval_of q39
   simp only [Region.wanted, if_true]
   have e0 : R9 L9 α 13 = row (α 13) 31 #[vU src, vU (n : Int)] := rfl
   have hM : ∀ i, i ∈ [13] → act rIimpP02Cnt 3 L9 i := by
    intro i hi
    simp only [List.mem_cons, List.not_mem_nil, or_false] at hi
    subst hi
    exact act_new 13 rfl (hA 13 dc)
   have hP : Own w0 u9 [row (α 13) 31 #[vU src, vU (n : Int)]] _ := (hG.pick [13] dc hM).conv (by
    show [R9 L9 α 13] = _
    rw [e0])
   clear e0 hM
   obtain ⟨i9, hi9, z1, z2, z3⟩ := info_parts infoRef
   refine wp_append_full_nil (Operand.tmp 36) (Operand.tmp 39) 38 rfl 31 i9 (.agg refZ) 2 8 Tryd.underlying38 hi9 z1 z2 z3 hP s36 s39 rfl dc (by first | decide | omega | (unfold maxLen; omega)) (by first | decide | omega | (unfold maxLen; omega)) ?_
   intro b0 b1 u1 hQ
   obtain ⟨α', hα'⟩ : ∃ α' : Rega.Atoms, α' = (fun j => if j = 14 then b0 else if j = 1014 then b1 else α j) := ⟨_, rfl⟩
   have f0 : R9 (Rega.ran L9 14) α' 14 = row (α' 14) 31 (full refZ [vU src, vU (n : Int)] (α' 1014)) := rfl
   have f1 : R9 (Rega.ran L9 14) α' 13 = row (α' 13) 31 #[vU src, vU (n : Int)] := rfl
   have hα : ∀ j, j % 1000 ≠ 14 → α' j = α j := fun j hj => by rw [hα']; simp only []; rw [if_neg (by omega), if_neg (by omega)]
   have hb0 : α' 14 = b0 := by rw [hα']; rfl
   have hb1 : α' 1014 = b1 := by rw [hα']; rfl
   have ha13 : α' 13 = α 13 := hα 13 dc
   refine hK _ α' _ hα ?_ (step_call (st9) hL hcl hα [13] [14, 13] dc dc dc (M := _) ?_ hG hQ)
   ·show _ = (vS (α' 14) 1 (1 + α' 1014) : Value)
    simp only [hb0, hb1]
   ·show [R9 (Rega.ran L9 14) α' 14, R9 (Rega.ran L9 14) α' 13] = _
    rw [f0, f1]
    simp only [hb0, hb1, ha13]
    try rfl
  ·refine pur st9 rfl rfl fun L9 α a9 u9 K9 hL hcl hA hG hS h0 h1 hK => ?_
   have s29 := eS (vP ms) (hS 3 29 dc rfl (ltd 60 rfl))
   go_simp
   exact hK
  ·refine pur st9 rfl rfl fun L9 α a9 u9 K9 hL hcl hA hG hS h0 h1 hK => ?_
   have s41 := eS (vP ms) (hS 15 41 dc rfl (ltd 60 rfl))
   go_simp
   exact hK
  ·intro L9 α a9 u9 K9 hL hcl hA hG hS h0 h1 hK
   replace hL : L9 17 = false := hL
   have q42 : a9.tmps[42]? = some (.pointer (some ⟨ms, 5, none⟩)) := hS 16 42 dc rfl (ltd 60 rfl)
   have s42 := Rega.eval_of q42
   have q40 : a9.tmps[40]? = some (vS (α 14) 1 (1 + α 1014)) := hS 14 40 dc rfl (ltd 60 rfl)
   have s40 := Rega.eval_of q40
   have e0 : R9 L9 α 2999 = row (ms) 99 MC := by
    show rIimpP02T2999 pb PC n src ms MC loc B1_2 nd4 nd5 L9 α = _
    unfold rIimpP02T2999
    rw [if_neg (by rw [hL]; decide)]
   have hr := hG.rowAt 2999 (act_base 2999 rfl) e0
   have c0 : u9.cell? ⟨ms, 5, none⟩ = some (vN) := hr.cell (hgen)
   have y0 : u9.frozen? ⟨ms, 5, none⟩ = false := hr.free (5)
   clear hr
   have E0 := Lib.hid e0
   clear e0
   go_simp
   have e1 : R9 (Rega.ran L9 17) α 2999 = row (ms) 99 (MC.setIfInBounds 5 (vS (α 14) 1 (1 + α 1014))) := by
    show rIimpP02T2999 pb PC n src ms MC loc B1_2 nd4 nd5 (Rega.ran L9 17) α = _
    unfold rIimpP02T2999
    rw [if_pos (show Rega.ran L9 17 17 = true from rfl)]
   exact hK _ α _ (fun _ _ => rfl) rfl (step_sets (st9) hL hcl rfl 2999 rfl (act_base 2999 rfl) E0.out (5) [vS (α 14) 1 (1 + α 1014)] (e1.trans rfl) hG)
 clear st9
 intro α u hG
 have e0 : R9 (fun k => decide (k < 18)) α 999 = row (pb) 252 (PC.setIfInBounds 106 (vS nd4 (n + 1) (n + 1 + nd5))) := rfl
 have e1 : R9 (fun k => decide (k < 18)) α 1999 = row (B1_2) 81 #[vI loc, vU src, vU (n : Int)] := rfl
 have e2 : R9 (fun k => decide (k < 18)) α 2999 = row (ms) 99 (MC.setIfInBounds 5 (vS (α 14) 1 (1 + α 1014))) := by
  show rIimpP02T2999 pb PC n src ms MC loc B1_2 nd4 nd5 (fun k => decide (k < 18)) α = _
  unfold rIimpP02T2999
  rw [if_pos dc]
 have e3 : R9 (fun k => decide (k < 18)) α 13 = row (α 13) 31 #[vU src, vU (n : Int)] := rfl
 have e4 : R9 (fun k => decide (k < 18)) α 14 = row (α 14) 31 (full refZ [vU src, vU (n : Int)] (α 1014)) := rfl
 have hO : Own w0 u [row (pb) 252 (PC.setIfInBounds 106 (vS nd4 (n + 1) (n + 1 + nd5))), row (B1_2) 81 #[vI loc, vU src, vU (n : Int)], row (ms) 99 (MC.setIfInBounds 5 (vS (α 14) 1 (1 + α 1014))), row (α 13) 31 #[vU src, vU (n : Int)], row (α 14) 31 (full refZ [vU src, vU (n : Int)] (α 1014))] X9_8 := (hG.list [999, 1999, 2999, 13, 14] dc (act_all dc)).conv (by
  show [R9 (fun k => decide (k < 18)) α 999, R9 (fun k => decide (k < 18)) α 1999, R9 (fun k => decide (k < 18)) α 2999, R9 (fun k => decide (k < 18)) α 13, R9 (fun k => decide (k < 18)) α 14] = _
  rw [e0, e1, e2, e3, e4])
 clear hG e0 e1 e2 e3 e4 R9
 generalize hfr : Rega.frameAt _ _ _ _ _ = fr
 have hdf : fr = ⟨#[vP pb, .agg #[vI loc], .string nm, undef, vP B1, undef, vP B1_1, vP B1_2, bF, .tuple #[.agg #[vI 0, vU 0, vU 0], bF], vP pb, vP pb, .pointer (some ⟨pb, 117, none⟩), .map (some mp), .string nm, .tuple #[.agg #[vI 0, vU 0, vU 0], bF], .agg #[vI 0, vU 0, vU 0], bF, bF, .bool true, .agg #[vI loc], vP B1_2, vP pb, .string nm, .agg #[vU src, vU (n : Int)], .pointer (some ⟨B1_2, 1, none⟩), vP pb, vP pb, .pointer (some ⟨pb, 187, none⟩), vP ms, vP pb, vP pb, .pointer (some ⟨pb, 187, none⟩), vP ms, vP ms, .pointer (some ⟨ms, 5, none⟩), vN, .pointer (some ⟨B1_2, 1, none⟩), .agg #[vU src, vU (n : Int)], vS (α 13) 1 1, vS (α 14) 1 (1 + α 1014), vP ms, .pointer (some ⟨ms, 5, none⟩), undef, undef, undef, undef, undef, undef, undef, undef, undef, undef, undef, undef, undef, undef, undef, undef, undef], []⟩ := by rw [← hfr]; kernel_rfl
 clear hfr
 subst hdf
 generalize α 13 = nd9 at hO ⊢
 generalize α 14 = nd10 at hO ⊢
 generalize α 1014 = nd11 at hO ⊢
 clear α
 subst hX9_8
 replace hO : Own w0 u [row (pb) 252 (PC.setIfInBounds 106 (vS nd4 (n + 1) (n + 1 + nd5))), row (B1_2) 81 #[vI loc, vU src, vU (n : Int)], row (ms) 99 (MC.setIfInBounds 5 (vS nd10 1 (1 + nd11))), row (nd9) 31 #[vU src, vU (n : Int)], row (nd10) 31 (full refZ [vU src, vU (n : Int)] (nd11)), row (nd4) 260 (full symZ (symL (st ++ [syk nm 27])) nd5), row (B1_1) 52 #[.nilIface, vI 0], row (B1) 28 #[vI loc], ((mp, .map es k) : Rw), row (pt) 107 QC, ((mu, .map (uA ul) (uN ul)) : Rw)] X := hO.back HL.out HX.out [1, 3, 4, 5, 7, 8] dc dc
 clear HL HX
 obtain ⟨aF, aP, aQ, aG, aH, -⟩ := hO.k3 1 rfl
 obtain ⟨aN, aO, aC, aD, -⟩ := hO.k2 3 rfl
 obtain ⟨an, ao, ap, aq, -⟩ := hO.k2 6 rfl
 obtain ⟨aI, aJ, aK, -⟩ := hO.k1 7 rfl
 have HO := Lib.hid hO
 clear hO
 go_wp2_with (first | (with_reducible refine Own.stay (fn := Tryd.f54) ?_) | (at_lookup; refine wpList_lookup_no rfl _ _ 210 true rfl 9 81 (by kernel_rfl) (by kernel_rfl) (((HO.out.mapAt 2 rfl).alloc _).alloc _) rfl _ rfl (.agg #[vI 0, vU 0, vU 0]) (Tryd.zeroValue81 _) hno ?_))
 try with_reducible refine Own.Stay.mk ?_
 have hO := HO.out
 clear HO aF aP aQ aG aH aN aO aC aD an ao ap aq aI aJ aK
 obtain ⟨HL, HX⟩ := hid2 hO
 have hP9 := hO.pick [0, 1, 8] dc
 generalize hX9_12 : Own.Rest _ _ X = X9_12 at hP9
 replace hP9 : Own w0 u [row (pb) 252 (PC.setIfInBounds 106 (vS nd4 (n + 1) (n + 1 + nd5))), row (B1_2) 81 #[vI loc, vU src, vU (n : Int)], ((mp, .map es k) : Rw)] X9_12 := hP9
 clear hO
 have hO := hP9
 clear hP9
 have st9 := rIimpP03_st pb PC n src mp es k loc nm B1_2 nd4 nd5
 let R9 := rIimpP03R pb PC n src mp es k loc nm B1_2 nd4 nd5
 refine wp_region_own (e := rIimpP03E pb PC n src mp es k loc nm B1_2 nd4 nd5) (anc := rIimpP03Anc) (G := (fun L9 α u9 => OwnF w0 u9 (act rIimpP03Cnt 3 L9) (rIimpP03R pb PC n src mp es k loc nm B1_2 nd4 nd5 L9 α) X9_12)) (by kernel_rfl) (by kernel_rfl) (by kernel_rfl) (by kernel_rfl) (rIimpP03_he pb PC n src mp es k loc nm B1_2 nd4 nd5) ?_ (RunsAll.all ?_) ?_
 ·have hp : ∀ i, act rIimpP03Cnt 3 (fun _ => false) i → i ∈ [999, 1999, 2999] := by
   intro i hi
   have h9 : i % 1000 = 999 := by
    by_cases h : i % 1000 = 999
    ·exact h
    ·exact absurd (act_lt hi h) (by simp)
   unfold act at hi
   rw [if_pos h9] at hi
   simp only [List.mem_cons, List.not_mem_nil, or_false]
   omega
  refine hO.drew.family (fun i hi => ?_) (fun i j hi hj hij => ?_)
  ·have := hp i hi
   simp only [List.mem_cons, List.not_mem_nil, or_false] at this
   rcases this with rfl | rfl | rfl <;> rfl
  ·have h1 := hp i hi
   have h2 := hp j hj
   simp only [List.mem_cons, List.not_mem_nil, or_false] at h1 h2
   omega
 ·refine ⟨?_, ?_, ?_, ?_, ?_, ?_, ?_, trivial⟩
  ·refine pur st9 rfl rfl fun L9 α a9 u9 K9 hL hcl hA hG hS h0 h1 hK => ?_
   have s0 := eS (vP pb) ((h0 0 (by kernel_rfl)).trans rfl)
   go_simp
   exact hK
  ·refine pur st9 rfl rfl fun L9 α a9 u9 K9 hL hcl hA hG hS h0 h1 hK => ?_
   have s43 := eS (vP pb) (hS 0 43 dc rfl (ltd 60 rfl))
   go_simp
   exact hK
  ·refine pur st9 rfl rfl fun L9 α a9 u9 K9 hL hcl hA hG hS h0 h1 hK => ?_
   have s44 := eS (vP pb) (hS 1 44 dc rfl (ltd 60 rfl))
   go_simp
   exact hK
  ·refine pur st9 rfl rfl fun L9 α a9 u9 K9 hL hcl hA hG hS h0 h1 hK => ?_
   have s45 := eS (.pointer (some ⟨pb, 117, none⟩)) (hS 2 45 dc rfl (ltd 60 rfl))
   have e0 : R9 L9 α 999 = row (pb) 252 (PC.setIfInBounds 106 (vS nd4 (n + 1) (n + 1 + nd5))) := rfl
   have hr := hG.rowAt 999 (act_base 999 rfl) e0
   have c0 : u9.cell? ⟨pb, 117, none⟩ = some (.map (some mp)) := hr.cell ((get_other hk117 (by omega) _))
   clear hr e0
   go_simp
   exact hK
  ·refine pur st9 rfl rfl fun L9 α a9 u9 K9 hL hcl hA hG hS h0 h1 hK => ?_
   have q2 : a9.tmps[2]? = some (.string nm) := (h0 2 (by kernel_rfl)).trans rfl
   have s2 := Rega.eval_of q2
   go_simp
   exact hK
  ·refine pur st9 rfl rfl fun L9 α a9 u9 K9 hL hcl hA hG hS h0 h1 hK => ?_
   have s7 := eS (vP B1_2) ((h0 7 (by kernel_rfl)).trans rfl)
   have e0 : R9 L9 α 1999 = row (B1_2) 81 #[vI loc, vU src, vU (n : Int)] := rfl
   have hr := hG.rowAt 1999 (act_base 1999 rfl) e0
   have c0 : u9.cell? ⟨B1_2, 0, none⟩ = some (vI loc) := hr.cell rfl
   have c1 : u9.cell? ⟨B1_2, 1, none⟩ = some (vU src) := hr.cell rfl
   have c2 : u9.cell? ⟨B1_2, 2, none⟩ = some (vU (n : Int)) := hr.cell rfl
   clear hr e0
   go_simp
   exact hK
  ·intro L9 α a9 u9 K9 hL hcl hA hG hS h0 h1 hK
   replace hL : L9 6 = false := hL
   have q46 : a9.tmps[46]? = some (.map (some mp)) := hS 3 46 dc rfl (ltd 60 rfl)
   have s46 := Rega.eval_of q46
   have q47 : a9.tmps[47]? = some (.string nm) := hS 4 47 dc rfl (ltd 60 rfl)
   have s47 := Rega.eval_of q47
   have q48 : a9.tmps[48]? = some (.agg #[vI loc, vU src, vU (n : Int)]) := hS 5 48 dc rfl (ltd 60 rfl)
   have s48 := Rega.eval_of q48
   have e0 : R9 L9 α 2999 = ((mp, .map es k) : Rw) := by
    show rIimpP03T2999 pb PC n src mp es k loc nm B1_2 nd4 nd5 L9 α = _
    unfold rIimpP03T2999
    rw [if_neg (by rw [hL]; decide)]
   have hm := hG.mapAt 2999 (act_base 2999 rfl) e0
   have hu9 := Base.run_update_new (P := Tryd.prog) u9 Tryd.underlying210 Tryd.underlying9 hm nm (.agg #[vI loc, vU src, vU (n : Int)]) (by first | assumption | kernel_rfl)
   have E0 := Lib.hid e0
   clear e0 hm
   go_simp
   have e1 : R9 (Rega.ran L9 6) α 2999 = ((mp, .map (es.push ⟨.string nm, .agg #[vI loc, vU src, vU (n : Int)], k⟩) (k + 1)) : Rw) := by
    show rIimpP03T2999 pb PC n src mp es k loc nm B1_2 nd4 nd5 (Rega.ran L9 6) α = _
    unfold rIimpP03T2999
    rw [if_pos (show Rega.ran L9 6 6 = true from rfl)]
   exact hK _ α _ (fun _ _ => rfl) rfl (step_setMap (st9) hL hcl rfl 2999 rfl (act_base 2999 rfl) E0.out (e1.trans rfl) hG)
 clear st9
 intro α u hG
 have e0 : R9 (fun k => decide (k < 7)) α 999 = row (pb) 252 (PC.setIfInBounds 106 (vS nd4 (n + 1) (n + 1 + nd5))) := rfl
 have e1 : R9 (fun k => decide (k < 7)) α 1999 = row (B1_2) 81 #[vI loc, vU src, vU (n : Int)] := rfl
 have e2 : R9 (fun k => decide (k < 7)) α 2999 = ((mp, .map (es.push ⟨.string nm, .agg #[vI loc, vU src, vU (n : Int)], k⟩) (k + 1)) : Rw) := by
  show rIimpP03T2999 pb PC n src mp es k loc nm B1_2 nd4 nd5 (fun k => decide (k < 7)) α = _
  unfold rIimpP03T2999
  rw [if_pos dc]
 have hO : Own w0 u [row (pb) 252 (PC.setIfInBounds 106 (vS nd4 (n + 1) (n + 1 + nd5))), row (B1_2) 81 #[vI loc, vU src, vU (n : Int)], ((mp, .map (es.push ⟨.string nm, .agg #[vI loc, vU src, vU (n : Int)], k⟩) (k + 1)) : Rw)] X9_12 := (hG.list [999, 1999, 2999] dc (act_all dc)).conv (by
  show [R9 (fun k => decide (k < 7)) α 999, R9 (fun k => decide (k < 7)) α 1999, R9 (fun k => decide (k < 7)) α 2999] = _
  rw [e0, e1, e2])
 clear hG e0 e1 e2 R9
 generalize hfr : Rega.frameAt _ _ _ _ _ = fr
 have hdf : fr = ⟨#[vP pb, .agg #[vI loc], .string nm, undef, vP B1, undef, vP B1_1, vP B1_2, bF, .tuple #[.agg #[vI 0, vU 0, vU 0], bF], vP pb, vP pb, .pointer (some ⟨pb, 117, none⟩), .map (some mp), .string nm, .tuple #[.agg #[vI 0, vU 0, vU 0], bF], .agg #[vI 0, vU 0, vU 0], bF, bF, .bool true, .agg #[vI loc], vP B1_2, vP pb, .string nm, .agg #[vU src, vU (n : Int)], .pointer (some ⟨B1_2, 1, none⟩), vP pb, vP pb, .pointer (some ⟨pb, 187, none⟩), vP ms, vP pb, vP pb, .pointer (some ⟨pb, 187, none⟩), vP ms, vP ms, .pointer (some ⟨ms, 5, none⟩), vN, .pointer (some ⟨B1_2, 1, none⟩), .agg #[vU src, vU (n : Int)], vS nd9 1 1, vS nd10 1 (1 + nd11), vP ms, .pointer (some ⟨ms, 5, none⟩), vP pb, vP pb, .pointer (some ⟨pb, 117, none⟩), .map (some mp), .string nm, .agg #[vI loc, vU src, vU (n : Int)], undef, undef, undef, undef, undef, undef, undef, undef, undef, undef, undef], []⟩ := by rw [← hfr]; kernel_rfl
 clear hfr
 subst hdf
 clear α
 subst hX9_12
 replace hO : Own w0 u [row (pb) 252 (PC.setIfInBounds 106 (vS nd4 (n + 1) (n + 1 + nd5))), row (B1_2) 81 #[vI loc, vU src, vU (n : Int)], ((mp, .map (es.push ⟨.string nm, .agg #[vI loc, vU src, vU (n : Int)], k⟩) (k + 1)) : Rw), row (ms) 99 (MC.setIfInBounds 5 (vS nd10 1 (1 + nd11))), row (nd9) 31 #[vU src, vU (n : Int)], row (nd10) 31 (full refZ [vU src, vU (n : Int)] (nd11)), row (nd4) 260 (full symZ (symL (st ++ [syk nm 27])) nd5), row (B1_1) 52 #[.nilIface, vI 0], row (B1) 28 #[vI loc], row (pt) 107 QC, ((mu, .map (uA ul) (uN ul)) : Rw)] X := hO.back HL.out HX.out [2, 3, 4, 5, 6, 7, 9, 10] dc dc
 clear HL HX
 obtain ⟨aF, aP, aQ, aG, aH, -⟩ := hO.k3 1 rfl
 obtain ⟨aE, aR, aA, aB, -⟩ := hO.k2 4 rfl
 obtain ⟨aI, aS, aJ, aK, -⟩ := hO.k2 7 rfl
 obtain ⟨aT, aU, aV, -⟩ := hO.k1 8 rfl
 have HO := Lib.hid hO
 clear hO
 go_wp2_with (first | (with_reducible refine Own.stay (fn := Tryd.f54) ?_) | (at_lookup; refine wpList_lookup_no rfl _ _ 210 true rfl 9 81 (by kernel_rfl) (by kernel_rfl) (((HO.out.mapAt 2 rfl).alloc _).alloc _) rfl _ rfl (.agg #[vI 0, vU 0, vU 0]) (Tryd.zeroValue81 _) hno ?_))
 try with_reducible refine Own.Stay.mk ?_
 have hO := HO.out
 clear HO aF aP aQ aG aH aE aR aA aB aI aS aJ aK aT aU aV
 obtain ⟨HL, HX⟩ := hid2 hO
 have hP9 := hO.pick [0, 6, 9, 10] dc
 have h9_hn : (st ++ [syk nm 27]).length = (n + 1) := (by simp [hn])
 have h9_hnb : (n + 1) ≤ 4000000 := (by omega)
 have h9_hi : n < (n + 1) := (by omega)
 have T9 := useP pb (PC.setIfInBounds 106 (vS nd4 (n + 1) ((n + 1) + nd5))) nd4 nd5 (st ++ [syk nm 27]) (n + 1) pt QC mu ul src n _ _ _ hP9 (get_other hk350 (by omega) _) (get_other hk32 (by omega) _) (get_other hk105 (by omega) _) (get_set hk106 _) h9_hn h9_hnb hsu h9_hi
 refine Calls.mono T9 ?_
 clear hP9 T9 h9_hn h9_hnb h9_hi
 rintro e u13 ⟨rfl, hQ⟩
 replace hO : Own w0 u13 [row (pb) 252 (PC.setIfInBounds 106 (vS nd4 (n + 1) ((n + 1) + nd5))), row (nd4) 260 (full symZ (symL (bump (st ++ [syk nm 27]) n)) nd5), row (pt) 107 QC, ((mu, .map (uA (ubump ul src (n : Int))) (uN (ubump ul src (n : Int)))) : Rw), row (B1_2) 81 #[vI loc, vU src, vU (n : Int)], ((mp, .map (es.push ⟨.string nm, .agg #[vI loc, vU src, vU (n : Int)], k⟩) (k + 1)) : Rw), row (ms) 99 (MC.setIfInBounds 5 (vS nd10 1 (1 + nd11))), row (nd9) 31 #[vU src, vU (n : Int)], row (nd10) 31 (full refZ [vU src, vU (n : Int)] (nd11)), row (B1_1) 52 #[.nilIface, vI 0], row (B1) 28 #[vI loc]] X := hQ.back HL.out HX.out [1, 2, 3, 4, 5, 7, 8] dc dc
 clear hQ HL HX
 obtain ⟨aE, aR, ar, aA, aB, -⟩ := hO.k3 4 rfl
 obtain ⟨aI, aS, aJ, aK, -⟩ := hO.k2 7 rfl
 obtain ⟨au, av, aw, ax, -⟩ := hO.k2 9 rfl
 obtain ⟨aW, aX, aY, -⟩ := hO.k1 10 rfl
 have HO := Lib.hid hO
 clear hO
 go_wp2_with (first | (with_reducible refine Own.stay (fn := Tryd.f54) ?_) | (at_lookup; refine wpList_lookup_no rfl _ _ 210 true rfl 9 81 (by kernel_rfl) (by kernel_rfl) (((HO.out.mapAt 2 rfl).alloc _).alloc _) rfl _ rfl (.agg #[vI 0, vU 0, vU 0]) (Tryd.zeroValue81 _) hno ?_))
 try with_reducible refine Own.Stay.mk ?_
 have hO := HO.out
 clear HO aE aR ar aA aB aI aS aJ aK au av aw ax aW aX aY
 generalize hW : World.alloc _ _ = W15
 have hN : Own w0 W15 [row (u13.heap.size) 270 #[vU src, vU (n : Int), bF, bF, bF], row (pb) 252 (PC.setIfInBounds 106 (vS nd4 (n + 1) ((n + 1) + nd5))), row (nd4) 260 (full symZ (symL (bump (st ++ [syk nm 27]) n)) nd5), row (pt) 107 QC, ((mu, .map (uA (ubump ul src (n : Int))) (uN (ubump ul src (n : Int)))) : Rw), row (B1_2) 81 #[vI loc, vU src, vU (n : Int)], ((mp, .map (es.push ⟨.string nm, .agg #[vI loc, vU src, vU (n : Int)], k⟩) (k + 1)) : Rw), row (ms) 99 (MC.setIfInBounds 5 (vS nd10 1 (1 + nd11))), row (nd9) 31 #[vU src, vU (n : Int)], row (nd10) 31 (full refZ [vU src, vU (n : Int)] (nd11)), row (B1_1) 52 #[vF 267 u13.heap.size, vI loc], row (B1) 28 #[vI loc]] X := by
  rw [← hW]
  exact (((hO).set 9 rfl 0 _).set 9 rfl 1 _).alloc' _ (u13.heap.size) (by simp)
 clear hW hO
 generalize u13.heap.size = B14 at hN ⊢
 have hO := hN
 clear hN
 have z9_10_0 : W15.cell? ⟨B1_1, 0, none⟩ = some (vF 267 B14) := hO.cell 10 rfl 0 rfl
 have z9_10_1 : W15.cell? ⟨B1_1, 1, none⟩ = some (vI loc) := hO.cell 10 rfl 1 rfl
 refine bodyPost_ret (v := .agg #[vF 267 B14, vI loc]) ?_ rfl ⟨B14, nd4, nd5, nd10, nd11, rfl, hO.sub [1, 2, 6, 7, 3, 4, 9, 0] dc⟩
 simp [results, Tryd.results54, go_sem, z9_10_0, z9_10_1]
noncomputable def rcallP01E (pb : Nat) (PC : Array Value) (sb : Nat) (c : Nat) (st : List Sy) (n : Nat) (src : Int) (mp : Nat) (es : Array MapEntry) (k : Nat) (ms : Nat) (MC : Array Value) (loc : Int) (nm : ByteArray) (pt : Nat) (QC : Array Value) (mu : Nat) (ul : List (Int × Int × Int)) (sx : Nat) (ln : Nat) (cp : Nat) (B1_1 : Nat) (B1 : Nat) : Nat → Rega.Atoms → Value
 | 0, α => .agg #[vI loc]
 | 1, α => vP pb
 | 2, α => .agg #[vI loc]
 | 3, α => .string nm
 | 4, α => .agg #[vF 267 (α 4), vI loc]
 | 5, α => vS sx ln cp
 | 6, α => .agg #[vF 267 (α 4), vI loc, vS sx ln cp, vI 0, v8 0, v8 0, bF, bF]
 | 7, α => vP (α 7)
 | 8, α => vF 261 (α 7)
 | 9, α => .agg #[vF 261 (α 7), vI loc]
 | 10, α => undef
 | _, _ => undef
noncomputable def rcallP01Anc : Nat → List Nat
 | 4 => [1, 2, 3]
 | 6 => [1, 2, 3, 4, 5]
 | 7 => [1, 2, 3, 4, 5, 6]
 | 8 => [1, 2, 3, 4, 5, 6, 7]
 | 9 => [0, 1, 2, 3, 4, 5, 6, 7, 8]
 | 10 => [0, 1, 2, 3, 4, 5, 6, 7, 8, 9]
 | _ => []
noncomputable def rcallP01Trn : Nat → List Nat
 | 4 => [2999, 3999, 4999, 5999, 7999]
 | 10 => [999]
 | _ => []
noncomputable def rcallP01Cnt : List (Nat × Nat) := [(4, 2), (7, 1)]
noncomputable def rcallP01T999 (pb : Nat) (PC : Array Value) (sb : Nat) (c : Nat) (st : List Sy) (n : Nat) (src : Int) (mp : Nat) (es : Array MapEntry) (k : Nat) (ms : Nat) (MC : Array Value) (loc : Int) (nm : ByteArray) (pt : Nat) (QC : Array Value) (mu : Nat) (ul : List (Int × Int × Int)) (sx : Nat) (ln : Nat) (cp : Nat) (B1_1 : Nat) (B1 : Nat) (L9 : Nat → Bool) (α : Rega.Atoms) : Rw := if L9 10 = true then row (B1_1) 52 #[vF 261 (α 7), vI loc] else row (B1_1) 52 #[.nilIface, vI 0]
noncomputable def rcallP01T2999 (pb : Nat) (PC : Array Value) (sb : Nat) (c : Nat) (st : List Sy) (n : Nat) (src : Int) (mp : Nat) (es : Array MapEntry) (k : Nat) (ms : Nat) (MC : Array Value) (loc : Int) (nm : ByteArray) (pt : Nat) (QC : Array Value) (mu : Nat) (ul : List (Int × Int × Int)) (sx : Nat) (ln : Nat) (cp : Nat) (B1_1 : Nat) (B1 : Nat) (L9 : Nat → Bool) (α : Rega.Atoms) : Rw := if L9 4 = true then row (pb) 252 (PC.setIfInBounds 106 (vS (α 2004) (n + 1) (n + 1 + (α 3004)))) else row (pb) 252 PC
noncomputable def rcallP01T3999 (pb : Nat) (PC : Array Value) (sb : Nat) (c : Nat) (st : List Sy) (n : Nat) (src : Int) (mp : Nat) (es : Array MapEntry) (k : Nat) (ms : Nat) (MC : Array Value) (loc : Int) (nm : ByteArray) (pt : Nat) (QC : Array Value) (mu : Nat) (ul : List (Int × Int × Int)) (sx : Nat) (ln : Nat) (cp : Nat) (B1_1 : Nat) (B1 : Nat) (L9 : Nat → Bool) (α : Rega.Atoms) : Rw := if L9 4 = true then row (α 2004) 260 (full symZ (symL (bump (st ++ [syk nm 27]) n)) (α 3004)) else row (sb) 260 (full symZ (symL st) c)
noncomputable def rcallP01T4999 (pb : Nat) (PC : Array Value) (sb : Nat) (c : Nat) (st : List Sy) (n : Nat) (src : Int) (mp : Nat) (es : Array MapEntry) (k : Nat) (ms : Nat) (MC : Array Value) (loc : Int) (nm : ByteArray) (pt : Nat) (QC : Array Value) (mu : Nat) (ul : List (Int × Int × Int)) (sx : Nat) (ln : Nat) (cp : Nat) (B1_1 : Nat) (B1 : Nat) (L9 : Nat → Bool) (α : Rega.Atoms) : Rw := if L9 4 = true then ((mp, .map (es.push ⟨.string nm, .agg #[vI loc, vU src, vU (n : Int)], k⟩) (k + 1)) : Rw) else ((mp, .map es k) : Rw)
noncomputable def rcallP01T5999 (pb : Nat) (PC : Array Value) (sb : Nat) (c : Nat) (st : List Sy) (n : Nat) (src : Int) (mp : Nat) (es : Array MapEntry) (k : Nat) (ms : Nat) (MC : Array Value) (loc : Int) (nm : ByteArray) (pt : Nat) (QC : Array Value) (mu : Nat) (ul : List (Int × Int × Int)) (sx : Nat) (ln : Nat) (cp : Nat) (B1_1 : Nat) (B1 : Nat) (L9 : Nat → Bool) (α : Rega.Atoms) : Rw := if L9 4 = true then row (ms) 99 (MC.setIfInBounds 5 (vS (α 1004) 1 (1 + (α 4004)))) else row (ms) 99 MC
noncomputable def rcallP01T7999 (pb : Nat) (PC : Array Value) (sb : Nat) (c : Nat) (st : List Sy) (n : Nat) (src : Int) (mp : Nat) (es : Array MapEntry) (k : Nat) (ms : Nat) (MC : Array Value) (loc : Int) (nm : ByteArray) (pt : Nat) (QC : Array Value) (mu : Nat) (ul : List (Int × Int × Int)) (sx : Nat) (ln : Nat) (cp : Nat) (B1_1 : Nat) (B1 : Nat) (L9 : Nat → Bool) (α : Rega.Atoms) : Rw := if L9 4 = true then ((mu, .map (uA (ubump ul src (n : Int))) (uN (ubump ul src (n : Int)))) : Rw) else ((mu, .map (uA ul) (uN ul)) : Rw)
noncomputable def rcallP01R (pb : Nat) (PC : Array Value) (sb : Nat) (c : Nat) (st : List Sy) (n : Nat) (src : Int) (mp : Nat) (es : Array MapEntry) (k : Nat) (ms : Nat) (MC : Array Value) (loc : Int) (nm : ByteArray) (pt : Nat) (QC : Array Value) (mu : Nat) (ul : List (Int × Int × Int)) (sx : Nat) (ln : Nat) (cp : Nat) (B1_1 : Nat) (B1 : Nat) (L9 : Nat → Bool) (α : Rega.Atoms) (ix9 : Nat) : Rw := if ix9 = 999 then rcallP01T999 pb PC sb c st n src mp es k ms MC loc nm pt QC mu ul sx ln cp B1_1 B1 L9 α else if ix9 = 1999 then row (B1) 28 #[vI loc] else if ix9 = 2999 then rcallP01T2999 pb PC sb c st n src mp es k ms MC loc nm pt QC mu ul sx ln cp B1_1 B1 L9 α else if ix9 = 3999 then rcallP01T3999 pb PC sb c st n src mp es k ms MC loc nm pt QC mu ul sx ln cp B1_1 B1 L9 α else if ix9 = 4999 then rcallP01T4999 pb PC sb c st n src mp es k ms MC loc nm pt QC mu ul sx ln cp B1_1 B1 L9 α else if ix9 = 5999 then rcallP01T5999 pb PC sb c st n src mp es k ms MC loc nm pt QC mu ul sx ln cp B1_1 B1 L9 α else if ix9 = 6999 then row (pt) 107 QC else if ix9 = 7999 then rcallP01T7999 pb PC sb c st n src mp es k ms MC loc nm pt QC mu ul sx ln cp B1_1 B1 L9 α else if ix9 = 4 then row (α 4) 270 #[vU src, vU (n : Int), bF, bF, bF] else if ix9 = 1004 then row (α 1004) 31 (full refZ ([vU src, vU (n : Int)]) (α 4004)) else if ix9 = 7 then row (α 7) 266 #[vF 267 (α 4), vI loc, vS sx ln cp, vI 0, v8 0, v8 0, bF, bF] else (0, .map #[] 0)
theorem rcallP01_he (pb : Nat) (PC : Array Value) (sb : Nat) (c : Nat) (st : List Sy) (n : Nat) (src : Int) (mp : Nat) (es : Array MapEntry) (k : Nat) (ms : Nat) (MC : Array Value) (loc : Int) (nm : ByteArray) (pt : Nat) (QC : Array Value) (mu : Nat) (ul : List (Int × Int × Int)) (sx : Nat) (ln : Nat) (cp : Nat) (B1_1 : Nat) (B1 : Nat) : ∀ kk α α', (∀ j, (j % 1000 = kk ∨ j % 1000 ∈ rcallP01Anc kk) → α j = α' j) → rcallP01E pb PC sb c st n src mp es k ms MC loc nm pt QC mu ul sx ln cp B1_1 B1 kk α = rcallP01E pb PC sb c st n src mp es k ms MC loc nm pt QC mu ul sx ln cp B1_1 B1 kk α' := by
 intro kk α α' h
 match kk with
 | 0 => rfl
 | 1 => rfl
 | 2 => rfl
 | 3 => rfl
 | 4 => simp only [rcallP01E, h 4 (Or.inl rfl)]
 | 5 => rfl
 | 6 => simp only [rcallP01E, h 4 (Or.inr dc)]
 | 7 => simp only [rcallP01E, h 7 (Or.inl rfl)]
 | 8 => simp only [rcallP01E, h 7 (Or.inr dc)]
 | 9 => simp only [rcallP01E, h 7 (Or.inr dc)]
 | 10 => rfl
 | n + 11 => rfl
theorem rcallP01_st (pb : Nat) (PC : Array Value) (sb : Nat) (c : Nat) (st : List Sy) (n : Nat) (src : Int) (mp : Nat) (es : Array MapEntry) (k : Nat) (ms : Nat) (MC : Array Value) (loc : Int) (nm : ByteArray) (pt : Nat) (QC : Array Value) (mu : Nat) (ul : List (Int × Int × Int)) (sx : Nat) (ln : Nat) (cp : Nat) (B1_1 : Nat) (B1 : Nat) : Stable rcallP01Cnt 8 rcallP01Anc rcallP01Trn (rcallP01R pb PC sb c st n src mp es k ms MC loc nm pt QC mu ul sx ln cp B1_1 B1) := by
 intro k9 L9 α α' ix9 hk hcl hα hact ht
 have hp := act_places hact
 replace hp : ix9 ∈ [999, 1999, 2999, 3999, 4999, 5999, 6999, 7999, 4, 1004, 7] := hp
 simp only [List.mem_cons, List.not_mem_nil, or_false] at hp
 rcases hp with rfl | rfl | rfl | rfl | rfl | rfl | rfl | rfl | rfl | rfl | rfl
 ·show rcallP01T999 pb PC sb c st n src mp es k ms MC loc nm pt QC mu ul sx ln cp B1_1 B1 (Rega.ran L9 k9) α' = rcallP01T999 pb PC sb c st n src mp es k ms MC loc nm pt QC mu ul sx ln cp B1_1 B1 L9 α
  unfold rcallP01T999
  have n10 : 10 ≠ k9 := fun e => ht (by rw [← e]; decide)
  rw [ran_ne n10]
  by_cases e10 : L9 10 = true
  ·first | rw [if_pos e10, if_pos e10] | rw [if_pos e10]
   try simp only [hα 7 (ne_ran hk (hcl 10 e10 7 dc))]
  first | rw [if_neg e10, if_neg e10] | rw [if_neg e10]
 ·rfl
 ·show rcallP01T2999 pb PC sb c st n src mp es k ms MC loc nm pt QC mu ul sx ln cp B1_1 B1 (Rega.ran L9 k9) α' = rcallP01T2999 pb PC sb c st n src mp es k ms MC loc nm pt QC mu ul sx ln cp B1_1 B1 L9 α
  unfold rcallP01T2999
  have n4 : 4 ≠ k9 := fun e => ht (by rw [← e]; decide)
  rw [ran_ne n4]
  by_cases e4 : L9 4 = true
  ·first | rw [if_pos e4, if_pos e4] | rw [if_pos e4]
   try simp only [hα 2004 (ne_ran hk e4), hα 3004 (ne_ran hk e4)]
  first | rw [if_neg e4, if_neg e4] | rw [if_neg e4]
 ·show rcallP01T3999 pb PC sb c st n src mp es k ms MC loc nm pt QC mu ul sx ln cp B1_1 B1 (Rega.ran L9 k9) α' = rcallP01T3999 pb PC sb c st n src mp es k ms MC loc nm pt QC mu ul sx ln cp B1_1 B1 L9 α
  unfold rcallP01T3999
  have n4 : 4 ≠ k9 := fun e => ht (by rw [← e]; decide)
  rw [ran_ne n4]
  by_cases e4 : L9 4 = true
  ·first | rw [if_pos e4, if_pos e4] | rw [if_pos e4]
   try simp only [hα 2004 (ne_ran hk e4), hα 3004 (ne_ran hk e4)]
  first | rw [if_neg e4, if_neg e4] | rw [if_neg e4]
 ·show rcallP01T4999 pb PC sb c st n src mp es k ms MC loc nm pt QC mu ul sx ln cp B1_1 B1 (Rega.ran L9 k9) α' = rcallP01T4999 pb PC sb c st n src mp es k ms MC loc nm pt QC mu ul sx ln cp B1_1 B1 L9 α
  unfold rcallP01T4999
  have n4 : 4 ≠ k9 := fun e => ht (by rw [← e]; decide)
  rw [ran_ne n4]
 ·show rcallP01T5999 pb PC sb c st n src mp es k ms MC loc nm pt QC mu ul sx ln cp B1_1 B1 (Rega.ran L9 k9) α' = rcallP01T5999 pb PC sb c st n src mp es k ms MC loc nm pt QC mu ul sx ln cp B1_1 B1 L9 α
  unfold rcallP01T5999
  have n4 : 4 ≠ k9 := fun e => ht (by rw [← e]; decide)
  rw [ran_ne n4]
  by_cases e4 : L9 4 = true
  ·first | rw [if_pos e4, if_pos e4] | rw [if_pos e4]
   try simp only [hα 1004 (ne_ran hk e4), hα 4004 (ne_ran hk e4)]
  first | rw [if_neg e4, if_neg e4] | rw [if_neg e4]
 ·rfl
 ·show rcallP01T7999 pb PC sb c st n src mp es k ms MC loc nm pt QC mu ul sx ln cp B1_1 B1 (Rega.ran L9 k9) α' = rcallP01T7999 pb PC sb c st n src mp es k ms MC loc nm pt QC mu ul sx ln cp B1_1 B1 L9 α
  unfold rcallP01T7999
  have n4 : 4 ≠ k9 := fun e => ht (by rw [← e]; decide)
  rw [ran_ne n4]
 ·have e0 : L9 4 = true := act_lt hact dc
  show row (α' 4) 270 #[vU src, vU (n : Int), bF, bF, bF] = row (α 4) 270 #[vU src, vU (n : Int), bF, bF, bF]
  simp only [hα 4 (ne_ran hk e0)]
 ·have e0 : L9 4 = true := act_lt hact dc
  show row (α' 1004) 31 (full refZ ([vU src, vU (n : Int)]) (α' 4004)) = row (α 1004) 31 (full refZ ([vU src, vU (n : Int)]) (α 4004))
  simp only [hα 1004 (ne_ran hk e0), hα 4004 (ne_ran hk e0)]
 ·have e0 : L9 7 = true := act_lt hact dc
  show row (α' 7) 266 #[vF 267 (α' 4), vI loc, vS sx ln cp, vI 0, v8 0, v8 0, bF, bF] = row (α 7) 266 #[vF 267 (α 4), vI loc, vS sx ln cp, vI 0, v8 0, v8 0, bF, bF]
  simp only [hα 4 (ne_ran hk (hcl 7 e0 4 dc)), hα 7 (ne_ran hk e0)]
def callP0Post (pb : Nat) (PC : Array Value) (sb c : Nat) (st : List Sy) (n : Nat) (src : Int) (mp : Nat) (es : Array MapEntry) (k ms : Nat) (MC : Array Value) (loc : Int) (nm : ByteArray) (pt : Nat) (QC : Array Value) (mu : Nat) (ul : List (Int × Int × Int)) (sx ln cp : Nat) (w0 : World) (X : Nat → Obj → Prop) (e : Ending) (w' : World) : Prop :=
 ∃ ca : Nat, ∃ b : Nat, ∃ sb2 : Nat, ∃ c2 : Nat, ∃ gb2 : Nat, ∃ cg2 : Nat, e = .returned (.agg #[vF 261 ca, vI loc]) ∧ Own w0 w' [row (pb) 252 (PC.setIfInBounds 106 (vS sb2 (n + 1) (n + 1 + c2))), row (sb2) 260 (full symZ (symL (bump (st ++ [syk nm 27]) n)) c2), ((mp, .map (es.push ⟨.string nm, .agg #[vI loc, vU src, vU (n : Int)], k⟩) (k + 1)) : Rw), row (ms) 99 (MC.setIfInBounds 5 (vS gb2 1 (1 + cg2))), row (pt) 107 QC, ((mu, .map (uA (ubump ul src (n : Int))) (uN (ubump ul src (n : Int)))) : Rw), row (gb2) 31 (full refZ ([vU src, vU (n : Int)]) cg2), row (b) 270 #[vU src, vU (n : Int), bF, bF, bF], row (ca) 266 #[vF 267 b, vI loc, vS sx ln cp, vI 0, v8 0, v8 0, bF, bF]] X
set_option maxRecDepth 100000 in
set_option maxHeartbeats 1000000 in
theorem callP0 (pb : Nat) (PC : Array Value) (sb c : Nat) (st : List Sy) (n : Nat) (src : Int) (mp : Nat) (es : Array MapEntry) (k ms : Nat) (MC : Array Value) (loc : Int) (nm : ByteArray) (pt : Nat) (QC : Array Value) (mu : Nat) (ul : List (Int × Int × Int)) (sx ln cp : Nat) (w0 w : World) (X : Nat → Obj → Prop) (hO : Own w0 w [row (pb) 252 PC, row (sb) 260 (full symZ (symL st) c), ((mp, .map es k) : Rw), row (ms) 99 MC, row (pt) 107 QC, ((mu, .map (uA ul) (uN ul)) : Rw)] X) (hk350 : PC[350]? = some (bF)) (hk32 : PC[32]? = some (bF)) (hk105 : PC[105]? = some (vP pt)) (hk66 : PC[66]? = some (vU src)) (hk117 : PC[117]? = some (.map (some mp))) (hk187 : PC[187]? = some (vP ms)) (hk106 : PC[106]? = some (vS sb n (n + c))) (hn : st.length = n) (hnb : n ≤ 2000000) (hgen : MC[5]? = some (vN)) (hno : Instr.findNow .string (.string nm) es.toList 0 = some none) (hg0 : w0.cell? ⟨0, 0, none⟩ = some (vU 4294967295)) (hg1 : w0.cell? ⟨0, 1, none⟩ = some (vU 4294967295)) (hsu : QC[4]? = some (.map (some mu))) :
  Calls Tryd.prog 48 #[vP pb, .agg #[vI loc], .string nm, vS sx ln cp] w (callP0Post pb PC sb c st n src mp es k ms MC loc nm pt QC mu ul sx ln cp w0 X) := by
 go_enter Tryd.func48, Tryd.ntmps48
 go_wp2_with (first | (with_reducible refine Own.stay (fn := Tryd.f48) ?_) | fail)
 try with_reducible refine Own.Stay.mk ?_
 generalize hW : World.alloc _ _ = W2
 have hN : Own w0 W2 [row (w.heap.size + 1) 52 #[.nilIface, vI 0], row (w.heap.size) 28 #[vI loc], row (pb) 252 PC, row (sb) 260 (full symZ (symL st) c), ((mp, .map es k) : Rw), row (ms) 99 MC, row (pt) 107 QC, ((mu, .map (uA ul) (uN ul)) : Rw)] X := by
  rw [← hW]
  exact ((hO).alloc' _ (w.heap.size) (by simp)).alloc' _ (w.heap.size + 1) (by simp)
 clear hW hO
 generalize w.heap.size + 1 = B1_1 at hN ⊢
 generalize w.heap.size = B1 at hN ⊢
 have hO := hN
 clear hN
 have st9 := rcallP01_st pb PC sb c st n src mp es k ms MC loc nm pt QC mu ul sx ln cp B1_1 B1
 let R9 := rcallP01R pb PC sb c st n src mp es k ms MC loc nm pt QC mu ul sx ln cp B1_1 B1
 refine wp_region_own (e := rcallP01E pb PC sb c st n src mp es k ms MC loc nm pt QC mu ul sx ln cp B1_1 B1) (anc := rcallP01Anc) (G := (fun L9 α u9 => OwnF w0 u9 (act rcallP01Cnt 8 L9) (rcallP01R pb PC sb c st n src mp es k ms MC loc nm pt QC mu ul sx ln cp B1_1 B1 L9 α) X)) (by kernel_rfl) (by kernel_rfl) (by kernel_rfl) (by kernel_rfl) (rcallP01_he pb PC sb c st n src mp es k ms MC loc nm pt QC mu ul sx ln cp B1_1 B1) ?_ (RunsAll.all ?_) ?_
 ·have hp : ∀ i, act rcallP01Cnt 8 (fun _ => false) i → i ∈ [999, 1999, 2999, 3999, 4999, 5999, 6999, 7999] := by
   intro i hi
   have h9 : i % 1000 = 999 := by
    by_cases h : i % 1000 = 999
    ·exact h
    ·exact absurd (act_lt hi h) (by simp)
   unfold act at hi
   rw [if_pos h9] at hi
   simp only [List.mem_cons, List.not_mem_nil, or_false]
   omega
  refine hO.drew.family (fun i hi => ?_) (fun i j hi hj hij => ?_)
  ·have := hp i hi
   simp only [List.mem_cons, List.not_mem_nil, or_false] at this
   rcases this with rfl | rfl | rfl | rfl | rfl | rfl | rfl | rfl <;> rfl
  ·have h1 := hp i hi
   have h2 := hp j hj
   simp only [List.mem_cons, List.not_mem_nil, or_false] at h1 h2
   omega
 ·refine ⟨?_, ?_, ?_, ?_, ?_, ?_, ?_, ?_, ?_, ?_, ?_, trivial⟩
  ·refine pur st9 rfl rfl fun L9 α a9 u9 K9 hL hcl hA hG hS h0 h1 hK => ?_
   have s5 := eS (vP B1) ((h0 5 (by kernel_rfl)).trans rfl)
   have e0 : R9 L9 α 1999 = row (B1) 28 #[vI loc] := rfl
   have hr := hG.rowAt 1999 (act_base 1999 rfl) e0
   have c0 : u9.cell? ⟨B1, 0, none⟩ = some (vI loc) := hr.cell rfl
   clear hr e0
   go_simp
   exact hK
  ·refine pur st9 rfl rfl fun L9 α a9 u9 K9 hL hcl hA hG hS h0 h1 hK => ?_
   have s0 := eS (vP pb) ((h0 0 (by kernel_rfl)).trans rfl)
   go_simp
   exact hK
  ·refine pur st9 rfl rfl fun L9 α a9 u9 K9 hL hcl hA hG hS h0 h1 hK => ?_
   have s5 := eS (vP B1) ((h0 5 (by kernel_rfl)).trans rfl)
   have e0 : R9 L9 α 1999 = row (B1) 28 #[vI loc] := rfl
   have hr := hG.rowAt 1999 (act_base 1999 rfl) e0
   have c0 : u9.cell? ⟨B1, 0, none⟩ = some (vI loc) := hr.cell rfl
   clear hr e0
   go_simp
   exact hK
  ·refine pur st9 rfl rfl fun L9 α a9 u9 K9 hL hcl hA hG hS h0 h1 hK => ?_
   have q2 : a9.tmps[2]? = some (.string nm) := (h0 2 (by kernel_rfl)).trans rfl
   have s2 := Rega.eval_of q2
   go_simp
   exact hK
  ·intro L9 α a9 u9 K9 hL hcl hA hG hS h0 h1 hK
   replace hL : L9 4 = false := hL
   have q10 : a9.tmps[10]? = some (vP pb) := hS 1 10 dc rfl (ltd 19 rfl)
   have s10 := Rega.eval_of q10
   have q11 : a9.tmps[11]? = some (.agg #[vI loc]) := hS 2 11 dc rfl (ltd 19 rfl)
   have s11 := Rega.eval_of q11
   have q12 : a9.tmps[12]? = some (.string nm) := hS 3 12 dc rfl (ltd 19 rfl)
   have s12 := Rega.eval_of q12
   go_simp
   have e0 : R9 L9 α 2999 = row (pb) 252 PC := by
    show rcallP01T2999 pb PC sb c st n src mp es k ms MC loc nm pt QC mu ul sx ln cp B1_1 B1 L9 α = _
    unfold rcallP01T2999
    rw [if_neg (by rw [hL]; decide)]
   have e1 : R9 L9 α 3999 = row (sb) 260 (full symZ (symL st) c) := by
    show rcallP01T3999 pb PC sb c st n src mp es k ms MC loc nm pt QC mu ul sx ln cp B1_1 B1 L9 α = _
    unfold rcallP01T3999
    rw [if_neg (by rw [hL]; decide)]
   have e2 : R9 L9 α 4999 = ((mp, .map es k) : Rw) := by
    show rcallP01T4999 pb PC sb c st n src mp es k ms MC loc nm pt QC mu ul sx ln cp B1_1 B1 L9 α = _
    unfold rcallP01T4999
    rw [if_neg (by rw [hL]; decide)]
   have e3 : R9 L9 α 5999 = row (ms) 99 MC := by
    show rcallP01T5999 pb PC sb c st n src mp es k ms MC loc nm pt QC mu ul sx ln cp B1_1 B1 L9 α = _
    unfold rcallP01T5999
    rw [if_neg (by rw [hL]; decide)]
   have e4 : R9 L9 α 6999 = row (pt) 107 QC := rfl
   have e5 : R9 L9 α 7999 = ((mu, .map (uA ul) (uN ul)) : Rw) := by
    show rcallP01T7999 pb PC sb c st n src mp es k ms MC loc nm pt QC mu ul sx ln cp B1_1 B1 L9 α = _
    unfold rcallP01T7999
    rw [if_neg (by rw [hL]; decide)]
   have hM : ∀ i, i ∈ [2999, 3999, 4999, 5999, 6999, 7999] → act rcallP01Cnt 8 L9 i := by
    intro i hi
    simp only [List.mem_cons, List.not_mem_nil, or_false] at hi
    rcases hi with rfl | rfl | rfl | rfl | rfl | rfl
    ·exact act_base 2999 rfl
    ·exact act_base 3999 rfl
    ·exact act_base 4999 rfl
    ·exact act_base 5999 rfl
    ·exact act_base 6999 rfl
    ·exact act_base 7999 rfl
   have hP : Own w0 u9 [row (pb) 252 PC, row (sb) 260 (full symZ (symL st) c), ((mp, .map es k) : Rw), row (ms) 99 MC, row (pt) 107 QC, ((mu, .map (uA ul) (uN ul)) : Rw)] _ := (hG.pick [2999, 3999, 4999, 5999, 6999, 7999] dc hM).conv (by
    show [R9 L9 α 2999, R9 L9 α 3999, R9 L9 α 4999, R9 L9 α 5999, R9 L9 α 6999, R9 L9 α 7999] = _
    rw [e0, e1, e2, e3, e4, e5])
   clear e0 e1 e2 e3 e4 e5 hM
   refine Calls.mono (impP0 pb PC sb c st n src mp es k ms MC loc nm pt QC mu ul _ _ _ hP hk350 hk32 hk105 hk66 hk117 hk187 hk106 hn hnb hgen hno hg0 hg1 hsu) ?_
   rintro e9 u1 ⟨b0, b2, b3, b1, b4, rfl, hQ⟩
   obtain ⟨α', hα'⟩ : ∃ α' : Rega.Atoms, α' = (fun j => if j = 4 then b0 else if j = 1004 then b1 else if j = 2004 then b2 else if j = 3004 then b3 else if j = 4004 then b4 else α j) := ⟨_, rfl⟩
   have f0 : R9 (Rega.ran L9 4) α' 2999 = row (pb) 252 (PC.setIfInBounds 106 (vS (α' 2004) (n + 1) (n + 1 + (α' 3004)))) := by
    show rcallP01T2999 pb PC sb c st n src mp es k ms MC loc nm pt QC mu ul sx ln cp B1_1 B1 (Rega.ran L9 4) α' = _
    unfold rcallP01T2999
    rw [if_pos (show Rega.ran L9 4 4 = true from rfl)]
   have f1 : R9 (Rega.ran L9 4) α' 3999 = row (α' 2004) 260 (full symZ (symL (bump (st ++ [syk nm 27]) n)) (α' 3004)) := by
    show rcallP01T3999 pb PC sb c st n src mp es k ms MC loc nm pt QC mu ul sx ln cp B1_1 B1 (Rega.ran L9 4) α' = _
    unfold rcallP01T3999
    rw [if_pos (show Rega.ran L9 4 4 = true from rfl)]
   have f2 : R9 (Rega.ran L9 4) α' 4999 = ((mp, .map (es.push ⟨.string nm, .agg #[vI loc, vU src, vU (n : Int)], k⟩) (k + 1)) : Rw) := by
    show rcallP01T4999 pb PC sb c st n src mp es k ms MC loc nm pt QC mu ul sx ln cp B1_1 B1 (Rega.ran L9 4) α' = _
    unfold rcallP01T4999
    rw [if_pos (show Rega.ran L9 4 4 = true from rfl)]
   have f3 : R9 (Rega.ran L9 4) α' 5999 = row (ms) 99 (MC.setIfInBounds 5 (vS (α' 1004) 1 (1 + (α' 4004)))) := by
    show rcallP01T5999 pb PC sb c st n src mp es k ms MC loc nm pt QC mu ul sx ln cp B1_1 B1 (Rega.ran L9 4) α' = _
    unfold rcallP01T5999
    rw [if_pos (show Rega.ran L9 4 4 = true from rfl)]
   have f4 : R9 (Rega.ran L9 4) α' 6999 = row (pt) 107 QC := rfl
   have f5 : R9 (Rega.ran L9 4) α' 7999 = ((mu, .map (uA (ubump ul src (n : Int))) (uN (ubump ul src (n : Int)))) : Rw) := by
    show rcallP01T7999 pb PC sb c st n src mp es k ms MC loc nm pt QC mu ul sx ln cp B1_1 B1 (Rega.ran L9 4) α' = _
    unfold rcallP01T7999
    rw [if_pos (show Rega.ran L9 4 4 = true from rfl)]
   have f6 : R9 (Rega.ran L9 4) α' 1004 = row (α' 1004) 31 (full refZ ([vU src, vU (n : Int)]) (α' 4004)) := rfl
   have f7 : R9 (Rega.ran L9 4) α' 4 = row (α' 4) 270 #[vU src, vU (n : Int), bF, bF, bF] := rfl
   have hα : ∀ j, j % 1000 ≠ 4 → α' j = α j := fun j hj => by rw [hα']; simp only []; rw [if_neg (by omega), if_neg (by omega), if_neg (by omega), if_neg (by omega), if_neg (by omega)]
   have hb0 : α' 4 = b0 := by rw [hα']; rfl
   have hb1 : α' 1004 = b1 := by rw [hα']; rfl
   have hb2 : α' 2004 = b2 := by rw [hα']; rfl
   have hb3 : α' 3004 = b3 := by rw [hα']; rfl
   have hb4 : α' 4004 = b4 := by rw [hα']; rfl
   skip
   refine hK _ α' _ hα ?_ (step_call (st9) hL hcl hα [2999, 3999, 4999, 5999, 6999, 7999] [2999, 3999, 4999, 5999, 6999, 7999, 1004, 4] dc dc dc (M := _) ?_ hG hQ)
   ·show _ = (.agg #[vF 267 (α' 4), vI loc] : Value)
    simp only [hb0]
   ·show [R9 (Rega.ran L9 4) α' 2999, R9 (Rega.ran L9 4) α' 3999, R9 (Rega.ran L9 4) α' 4999, R9 (Rega.ran L9 4) α' 5999, R9 (Rega.ran L9 4) α' 6999, R9 (Rega.ran L9 4) α' 7999, R9 (Rega.ran L9 4) α' 1004, R9 (Rega.ran L9 4) α' 4] = _
    rw [f0, f1, f2, f3, f4, f5, f6, f7]
    simp only [hb0, hb1, hb2, hb3, hb4]
    try rfl
  ·refine pur st9 rfl rfl fun L9 α a9 u9 K9 hL hcl hA hG hS h0 h1 hK => ?_
   have q3 : a9.tmps[3]? = some (vS sx ln cp) := (h0 3 (by kernel_rfl)).trans rfl
   have s3 := Rega.eval_of q3
   go_simp
   exact hK
  ·refine pur st9 rfl rfl fun L9 α a9 u9 K9 hL hcl hA hG hS h0 h1 hK => ?_
   have q13 : a9.tmps[13]? = some (.agg #[vF 267 (α 4), vI loc]) := hS 4 13 dc rfl (ltd 19 rfl)
   have s13 := Rega.eval_of q13
   have q14 : a9.tmps[14]? = some (vS sx ln cp) := hS 5 14 dc rfl (ltd 19 rfl)
   have s14 := Rega.eval_of q14
   go_simp
   exact hK
  ·intro L9 α a9 u9 K9 hL hcl hA hG hS h0 h1 hK
   replace hL : L9 7 = false := hL
   have q15 : a9.tmps[15]? = some (.agg #[vF 267 (α 4), vI loc, vS sx ln cp, vI 0, v8 0, v8 0, bF, bF]) := hS 6 15 dc rfl (ltd 19 rfl)
   have s15 := Rega.eval_of q15
   go_simp
   exact hK _ (fun j => if j = 7 then u9.heap.size else α j) _ (fun j hj => if_neg (fun e => hj (by rw [e]))) rfl (step_alloc st9 hL hcl rfl rfl dc _ rfl hG)
  ·refine pur st9 rfl rfl fun L9 α a9 u9 K9 hL hcl hA hG hS h0 h1 hK => ?_
   have s16 := eS (vP (α 7)) (hS 7 16 dc rfl (ltd 19 rfl))
   go_simp
   exact hK
  ·refine pur st9 rfl rfl fun L9 α a9 u9 K9 hL hcl hA hG hS h0 h1 hK => ?_
   have q9 : a9.tmps[9]? = some (.agg #[vI loc]) := hS 0 9 dc rfl (ltd 19 rfl)
   have s9 := Rega.eval_of q9
   have q17 : a9.tmps[17]? = some (vF 261 (α 7)) := hS 8 17 dc rfl (ltd 19 rfl)
   have s17 := Rega.eval_of q17
   go_simp
   exact hK
  ·intro L9 α a9 u9 K9 hL hcl hA hG hS h0 h1 hK
   replace hL : L9 10 = false := hL
   have q8 : a9.tmps[8]? = some (vP B1_1) := (h0 8 (by kernel_rfl)).trans rfl
   have s8 := Rega.eval_of q8
   have q18 : a9.tmps[18]? = some (.agg #[vF 261 (α 7), vI loc]) := hS 9 18 dc rfl (ltd 19 rfl)
   have s18 := Rega.eval_of q18
   have e0 : R9 L9 α 999 = row (B1_1) 52 #[.nilIface, vI 0] := by
    show rcallP01T999 pb PC sb c st n src mp es k ms MC loc nm pt QC mu ul sx ln cp B1_1 B1 L9 α = _
    unfold rcallP01T999
    rw [if_neg (by rw [hL]; decide)]
   have hr := hG.rowAt 999 (act_base 999 rfl) e0
   have c0 : u9.cell? ⟨B1_1, 0, none⟩ = some (.nilIface) := hr.cell rfl
   have y0 : u9.frozen? ⟨B1_1, 0, none⟩ = false := hr.free (0)
   have c1 : u9.cell? ⟨B1_1, 1, none⟩ = some (vI 0) := hr.cell rfl
   have y1 : u9.frozen? ⟨B1_1, 1, none⟩ = false := hr.free (1)
   clear hr
   have E0 := Lib.hid e0
   clear e0
   go_simp
   have e1 : R9 (Rega.ran L9 10) α 999 = row (B1_1) 52 #[vF 261 (α 7), vI loc] := by
    show rcallP01T999 pb PC sb c st n src mp es k ms MC loc nm pt QC mu ul sx ln cp B1_1 B1 (Rega.ran L9 10) α = _
    unfold rcallP01T999
    rw [if_pos (show Rega.ran L9 10 10 = true from rfl)]
   exact hK _ α _ (fun _ _ => rfl) rfl (step_sets (st9) hL hcl rfl 999 rfl (act_base 999 rfl) E0.out (0) [vF 261 (α 7), vI loc] (e1.trans rfl) hG)
 clear st9
 intro α u hG
 have e0 : R9 (fun k => decide (k < 11)) α 999 = row (B1_1) 52 #[vF 261 (α 7), vI loc] := by
  show rcallP01T999 pb PC sb c st n src mp es k ms MC loc nm pt QC mu ul sx ln cp B1_1 B1 (fun k => decide (k < 11)) α = _
  unfold rcallP01T999
  rw [if_pos dc]
 have e1 : R9 (fun k => decide (k < 11)) α 1999 = row (B1) 28 #[vI loc] := rfl
 have e2 : R9 (fun k => decide (k < 11)) α 2999 = row (pb) 252 (PC.setIfInBounds 106 (vS (α 2004) (n + 1) (n + 1 + (α 3004)))) := by
  show rcallP01T2999 pb PC sb c st n src mp es k ms MC loc nm pt QC mu ul sx ln cp B1_1 B1 (fun k => decide (k < 11)) α = _
  unfold rcallP01T2999
  rw [if_pos dc]
 have e3 : R9 (fun k => decide (k < 11)) α 3999 = row (α 2004) 260 (full symZ (symL (bump (st ++ [syk nm 27]) n)) (α 3004)) := by
  show rcallP01T3999 pb PC sb c st n src mp es k ms MC loc nm pt QC mu ul sx ln cp B1_1 B1 (fun k => decide (k < 11)) α = _
  unfold rcallP01T3999
  rw [if_pos dc]
 have e4 : R9 (fun k => decide (k < 11)) α 4999 = ((mp, .map (es.push ⟨.string nm, .agg #[vI loc, vU src, vU (n : Int)], k⟩) (k + 1)) : Rw) := by
  show rcallP01T4999 pb PC sb c st n src mp es k ms MC loc nm pt QC mu ul sx ln cp B1_1 B1 (fun k => decide (k < 11)) α = _
  unfold rcallP01T4999
  rw [if_pos dc]
 have e5 : R9 (fun k => decide (k < 11)) α 5999 = row (ms) 99 (MC.setIfInBounds 5 (vS (α 1004) 1 (1 + (α 4004)))) := by
  show rcallP01T5999 pb PC sb c st n src mp es k ms MC loc nm pt QC mu ul sx ln cp B1_1 B1 (fun k => decide (k < 11)) α = _
  unfold rcallP01T5999
  rw [if_pos dc]
 have e6 : R9 (fun k => decide (k < 11)) α 6999 = row (pt) 107 QC := rfl
 have e7 : R9 (fun k => decide (k < 11)) α 7999 = ((mu, .map (uA (ubump ul src (n : Int))) (uN (ubump ul src (n : Int)))) : Rw) := by
  show rcallP01T7999 pb PC sb c st n src mp es k ms MC loc nm pt QC mu ul sx ln cp B1_1 B1 (fun k => decide (k < 11)) α = _
  unfold rcallP01T7999
  rw [if_pos dc]
 have e8 : R9 (fun k => decide (k < 11)) α 4 = row (α 4) 270 #[vU src, vU (n : Int), bF, bF, bF] := rfl
 have e9 : R9 (fun k => decide (k < 11)) α 1004 = row (α 1004) 31 (full refZ ([vU src, vU (n : Int)]) (α 4004)) := rfl
 have e10 : R9 (fun k => decide (k < 11)) α 7 = row (α 7) 266 #[vF 267 (α 4), vI loc, vS sx ln cp, vI 0, v8 0, v8 0, bF, bF] := rfl
 have hO : Own w0 u [row (B1_1) 52 #[vF 261 (α 7), vI loc], row (B1) 28 #[vI loc], row (pb) 252 (PC.setIfInBounds 106 (vS (α 2004) (n + 1) (n + 1 + (α 3004)))), row (α 2004) 260 (full symZ (symL (bump (st ++ [syk nm 27]) n)) (α 3004)), ((mp, .map (es.push ⟨.string nm, .agg #[vI loc, vU src, vU (n : Int)], k⟩) (k + 1)) : Rw), row (ms) 99 (MC.setIfInBounds 5 (vS (α 1004) 1 (1 + (α 4004)))), row (pt) 107 QC, ((mu, .map (uA (ubump ul src (n : Int))) (uN (ubump ul src (n : Int)))) : Rw), row (α 4) 270 #[vU src, vU (n : Int), bF, bF, bF], row (α 1004) 31 (full refZ ([vU src, vU (n : Int)]) (α 4004)), row (α 7) 266 #[vF 267 (α 4), vI loc, vS sx ln cp, vI 0, v8 0, v8 0, bF, bF]] X := (hG.list [999, 1999, 2999, 3999, 4999, 5999, 6999, 7999, 4, 1004, 7] dc (act_all dc)).conv (by
  show [R9 (fun k => decide (k < 11)) α 999, R9 (fun k => decide (k < 11)) α 1999, R9 (fun k => decide (k < 11)) α 2999, R9 (fun k => decide (k < 11)) α 3999, R9 (fun k => decide (k < 11)) α 4999, R9 (fun k => decide (k < 11)) α 5999, R9 (fun k => decide (k < 11)) α 6999, R9 (fun k => decide (k < 11)) α 7999, R9 (fun k => decide (k < 11)) α 4, R9 (fun k => decide (k < 11)) α 1004, R9 (fun k => decide (k < 11)) α 7] = _
  rw [e0, e1, e2, e3, e4, e5, e6, e7, e8, e9, e10])
 clear hG e0 e1 e2 e3 e4 e5 e6 e7 e8 e9 e10 R9
 generalize hfr : Rega.frameAt _ _ _ _ _ = fr
 have hdf : fr = ⟨#[vP pb, .agg #[vI loc], .string nm, vS sx ln cp, undef, vP B1, undef, undef, vP B1_1, .agg #[vI loc], vP pb, .agg #[vI loc], .string nm, .agg #[vF 267 (α 4), vI loc], vS sx ln cp, .agg #[vF 267 (α 4), vI loc, vS sx ln cp, vI 0, v8 0, v8 0, bF, bF], vP (α 7), vF 261 (α 7), .agg #[vF 261 (α 7), vI loc]], []⟩ := by rw [← hfr]; kernel_rfl
 clear hfr
 subst hdf
 generalize α 4 = nd3 at hO ⊢
 generalize α 7 = nd4 at hO ⊢
 generalize α 1004 = nd5 at hO ⊢
 generalize α 2004 = nd6 at hO ⊢
 generalize α 3004 = nd7 at hO ⊢
 generalize α 4004 = nd8 at hO ⊢
 clear α
 replace hO : Own w0 u [row (B1_1) 52 #[vF 261 nd4, vI loc], row (B1) 28 #[vI loc], row (pb) 252 (PC.setIfInBounds 106 (vS nd6 (n + 1) (n + 1 + (nd7)))), row (nd6) 260 (full symZ (symL (bump (st ++ [syk nm 27]) n)) (nd7)), ((mp, .map (es.push ⟨.string nm, .agg #[vI loc, vU src, vU (n : Int)], k⟩) (k + 1)) : Rw), row (ms) 99 (MC.setIfInBounds 5 (vS nd5 1 (1 + (nd8)))), row (pt) 107 QC, ((mu, .map (uA (ubump ul src (n : Int))) (uN (ubump ul src (n : Int)))) : Rw), row (nd3) 270 #[vU src, vU (n : Int), bF, bF, bF], row (nd5) 31 (full refZ [vU src, vU (n : Int)] (nd8)), row (nd4) 266 #[vF 267 nd3, vI loc, vS sx ln cp, vI 0, v8 0, v8 0, bF, bF]] X := hO
 obtain ⟨ay, az, aL, aM, -⟩ := hO.k2 0 rfl
 obtain ⟨aF, aG, aH, -⟩ := hO.k1 1 rfl
 obtain ⟨aT, bA, bB, bC, bD, aU, aV, -⟩ := hO.k5 8 rfl
 obtain ⟨aW, bE, bG, bH, bI, bJ, bK, bL, aX, aY, -⟩ := hO.k8 10 rfl
 have HO := Lib.hid hO
 clear hO
 go_wp2_with (first | (with_reducible refine Own.stay (fn := Tryd.f48) ?_) | fail)
 try with_reducible refine Own.Stay.mk ?_
 have hO := HO.out
 clear HO ay az aL aM aF aG aH aT bA bB bC bD aU aV aW bE bG bH bI bJ bK bL aX aY
 have z9_0_0 : u.cell? ⟨B1_1, 0, none⟩ = some (vF 261 nd4) := hO.cell 0 rfl 0 rfl
 have z9_0_1 : u.cell? ⟨B1_1, 1, none⟩ = some (vI loc) := hO.cell 0 rfl 1 rfl
 refine bodyPost_ret (v := .agg #[vF 261 nd4, vI loc]) ?_ rfl ⟨nd4, nd3, nd6, nd7, nd5, nd8, rfl, hO.sub [2, 3, 4, 5, 6, 7, 9, 8, 10] dc⟩
 simp [results, Tryd.results48, go_sem, z9_0_0, z9_0_1]
end Go.Proofs.YtikopplofkemlaaDoor.Use
