/- Several texts in one. No condition. -/
import Derived.Test.YtikopplofkemlaaDoorApf
import Derived.Test.YtikopplofkemlaaDoorGnc
namespace Go.Proofs.YtikopplofkemlaaDoor.Use
open Go.ChangeShapes Go.WideShapes Go.ChangeAt Go.RowKit Go.Sort Own
set_option linter.unusedVariables false
noncomputable def restR4 : Code := cutC 4 (Tryd.f41.body.getD .skip)
noncomputable def restR11 : Code := cutC 6 (Tryd.f41.body.getD .skip)
noncomputable def restR13 : Code := cutC 8 (Tryd.f41.body.getD .skip)

def HuA (pb : Nat) (PC : Array Value) (sb : Nat) (c : Nat) (nm : ByteArray) (mp : Nat) (k : Nat) (ms : Nat) (MC : Array Value) (pt : Nat) (QC : Array Value) (mu : Nat) (cs : Nat) (KC : Array Value) (ini : Nat) (kd : Int) (dbx : Nat) (ib : Nat) (l0 : Int) (l3 : Int) (v3 : Value) (w0 : World) (X : Nat → Obj → Prop) (Q : Exit → Act → World → Prop) : Prop :=
 ∀ (sb2 c2 gb2 cg2 tr lx bb : Nat) ⦃A0 A2 A4 A5 A7 A8 A9 AA AB AC AD AE AF AG AH AI AJ AK AL AM AN AO AP AQ AR AS AT AU AV AW AX AY AZ B0 B2 B3 B4 B5 B6 B7 B8 B9 BA BB BC BD BE BF BG BH BI BJ BK BL BM BN BO BP BQ BR BS BT BU BV BW BX BY BZ C0 C1 C2 C3 C4 C5 C6 C7 C8 C9 CA CB CC CD CE CF CG CH CI CJ CK CL CM CN CO CP CQ CR CS CT CU CV CW CX CY CZ E1 E2 E3 E4 E5 E6 E7 E8 E9 EA EB EC ED EE EF EG EH EI EJ EK EL EM EN EO EP EQ ER ES ET EU EV EW EX EY EZ F0 F1 F2 F3 F4 F5 F6 F7 F8 F9 FA : Value⦄ ⦃w2 : World⦄, Own w0 w2 [row (pb) 252 (PC.setIfInBounds 106 (vS sb2 2 (2 + c2))), row (sb2) 260 (full symZ (symL [sy nm 0, sy (un nm) 0]) c2), ((mp, .map #[] k) : Rw), row (ms) 99 MC, row (pt) 107 QC, ((mu, .map (uA ([])) (uN ([]))) : Rw), row (cs) 99 (KC.setIfInBounds 5 (vS gb2 1 (1 + cg2))), row (gb2) 31 (full refZ [vU 0, vU 1] cg2), row (ini) 57 #[vS dbx 1 1, v8 kd, bF, bF], row (dbx) 54 #[vF 134 ib, vI l3, .nilIface, vI 0], row (ib) 136 #[vU 0, vU 0], row (tr) 31 #[vU 0, vU 1], row (lx) 28 #[vI l0], row (bb) 47 #[vF 134 ib, vI l3]] X → Code.wp Tryd.prog restR4 Q ⟨#[vP pb, A0, vP ini, v3, A2, vP lx, A4, A5, vP bb, vP ib, vP tr, A7, A8, A9, AA, AB, AC, AD, AE, AF, AG, AH, AI, AJ, AK, AL, AM, AN, AO, AP, AQ, AR, AS, AT, AU, AV, AW, AX, AY, AZ, B0, B2, B3, B4, B5, B6, B7, B8, B9, BA, BB, BC, BD, BE, BF, BG, BH, BI, BJ, BK, BL, BM, BN, BO, BP, BQ, BR, BS, BT, BU, BV, BW, BX, BY, BZ, C0, C1, C2, C3, C4, C5, C6, C7, C8, C9, CA, CB, CC, CD, CE, CF, CG, CH, CI, CJ, CK, CL, CM, CN, CO, CP, CQ, CR, CS, CT, CU, CV, CW, CX, CY, CZ, E1, E2, E3, E4, E5, E6, E7, E8, E9, EA, EB, EC, ED, EE, EF, EG, EH, EI, EJ, EK, EL, EM, EN, EO, EP, EQ, ER, ES, ET, EU, EV, EW, EX, EY, EZ, F0, F1, F2, F3, F4, F5, F6, F7, F8, F9, FA], []⟩ w2

def HuB (ini : Nat) (kd : Int) (dbx : Nat) (ib : Nat) (tr : Nat) (lx : Nat) (bb : Nat) (kb : Nat) (l0 : Int) (l3 : Int) (so : Option Addr) (k9 : Nat) (kcp : Nat) (clv : Value) (v0 : Value) (w0 : World) (X : Nat → Obj → Prop) (Q : Exit → Act → World → Prop) : Prop :=
 ∀ (tb tc nl nd ni ne : Nat) ⦃A0 A1 A2 A3 A4 A5 A6 A8 A9 AA AC AD AE AF AG AH AI AJ AK AL AM AN AO AP AQ AR AS AT AU AV AW AX AY AZ B0 B2 B3 B4 B5 B6 B7 B8 B9 BA BB BC BD BE BF BG BH BI BJ BK BL BM BN BO BP BQ BR BS BT BU BV BW BX BY BZ C0 C1 C2 C3 C4 C5 C6 C7 C8 C9 CA CB CC CD CE CF CG CH CI CJ CK CL CM CN CO CP CQ CR CS CT CU CV CW CX CY CZ E1 E2 E3 E4 E5 E6 E7 E8 E9 EA EB EC ED EE EF EG EH EI EJ EK EL EM EN EO EP EQ ER ES ET EU EV EW EX EY EZ F0 F1 F2 F3 F4 F5 F6 F7 F8 F9 FA : Value⦄ ⦃w2 : World⦄, Own w0 w2 [row (ini) 57 #[vS dbx 1 1, v8 kd, bF, bF], row (ib) 136 #[vU 0, vU 0], row (tr) 31 #[vU 0, vU 1], row (kb) 72 #[.slice so k9 kcp, clv], row (tb) 61 (full stmZ [vF 42 nl, vI l0] tc), row (nl) 57 #[vS nd 1 1, v8 kd, bF, bF], row (nd) 54 #[vF 134 ni, vI l3, vF 267 ne, vI l3], row (ni) 136 #[vU 0, vU 0], row (ne) 270 #[vU 0, vU 1, bF, bF, bF]] X → Code.wp Tryd.prog restR13 Q ⟨#[v0, A0, vP ini, A1, A2, A3, A4, A5, A6, vP ib, vP tr, vP kb, A8, A9, AA, vS tb 1 (1 + tc), AC, AD, AE, AF, AG, AH, AI, AJ, AK, AL, AM, AN, AO, AP, AQ, AR, AS, AT, AU, AV, AW, AX, AY, AZ, B0, B2, B3, B4, B5, B6, B7, B8, B9, BA, BB, BC, BD, BE, BF, BG, BH, BI, BJ, BK, BL, BM, BN, BO, BP, BQ, BR, BS, BT, BU, BV, BW, BX, BY, BZ, C0, C1, C2, C3, C4, C5, C6, C7, C8, C9, CA, CB, CC, CD, CE, CF, CG, CH, CI, CJ, CK, CL, CM, CN, CO, CP, CQ, CR, CS, CT, CU, CV, CW, CX, CY, CZ, E1, E2, E3, E4, E5, E6, E7, E8, E9, EA, EB, EC, ED, EE, EF, EG, EH, EI, EJ, EK, EL, EM, EN, EO, EP, EQ, ER, ES, ET, EU, EV, EW, EX, EY, EZ, F0, F1, F2, F3, F4, F5, F6, F7, F8, F9, FA], []⟩ w2

noncomputable def rFOA3E (pb : Nat) (PC : Array Value) (sb : Nat) (c : Nat) (nm : ByteArray) (cs : Nat) (KC : Array Value) (ib : Nat) : Nat → Rega.Atoms → Value
 | 0, α => vP pb
 | 1, α => vP pb
 | 2, α => vP pb
 | 3, α => .pointer (some ⟨pb, 106, none⟩)
 | 4, α => vS sb 1 (1 + c)
 | 5, α => vP ib
 | 6, α => vP ib
 | 7, α => vP ib
 | 8, α => .pointer (some ⟨ib, 1, none⟩)
 | 9, α => vU 0
 | 10, α => vP sb
 | 11, α => .pointer (some ⟨sb, 1, none⟩)
 | 12, α => .string nm
 | 13, α => .string (un nm)
 | 14, α => .agg #[vU 0, vU 1]
 | 15, α => vP (α 15)
 | 16, α => undef
 | _, _ => undef
noncomputable def rFOA3Anc : Nat → List Nat
 | 2 => [1]
 | 3 => [1, 2]
 | 4 => [1, 2, 3]
 | 6 => [5]
 | 7 => [5, 6]
 | 8 => [5, 6, 7]
 | 9 => [5, 6, 7, 8]
 | 10 => [1, 2, 3, 4, 5, 6, 7, 8, 9]
 | 11 => [1, 2, 3, 4, 5, 6, 7, 8, 9, 10]
 | 12 => [1, 2, 3, 4, 5, 6, 7, 8, 9, 10, 11]
 | 13 => [1, 2, 3, 4, 5, 6, 7, 8, 9, 10, 11, 12]
 | 14 => [0, 1, 2, 3, 4, 5, 6, 7, 8, 9, 10, 11, 12, 13]
 | 16 => [0, 1, 2, 3, 4, 5, 6, 7, 8, 9, 10, 11, 12, 13, 14, 15]
 | _ => []
noncomputable def rFOA3Trn : Nat → List Nat
 | 14 => [999, 1999, 2999]
 | 16 => [15]
 | _ => []
noncomputable def rFOA3Cnt : List (Nat × Nat) := [(14, 1), (15, 1)]
noncomputable def rFOA3T999 (pb : Nat) (PC : Array Value) (sb : Nat) (c : Nat) (nm : ByteArray) (cs : Nat) (KC : Array Value) (ib : Nat) (L9 : Nat → Bool) (α : Rega.Atoms) : Rw := if L9 14 = true then row (pb) 252 (PC.setIfInBounds 106 (vS (α 1014) (1 + 1) (1 + 1 + (α 2014)))) else row (pb) 252 PC
noncomputable def rFOA3T1999 (pb : Nat) (PC : Array Value) (sb : Nat) (c : Nat) (nm : ByteArray) (cs : Nat) (KC : Array Value) (ib : Nat) (L9 : Nat → Bool) (α : Rega.Atoms) : Rw := if L9 14 = true then row (α 1014) 260 (full symZ (symL (([sy nm 0]) ++ [syk (un nm) 27])) (α 2014)) else row (sb) 260 (full symZ (symL [sy nm 0]) c)
noncomputable def rFOA3T2999 (pb : Nat) (PC : Array Value) (sb : Nat) (c : Nat) (nm : ByteArray) (cs : Nat) (KC : Array Value) (ib : Nat) (L9 : Nat → Bool) (α : Rega.Atoms) : Rw := if L9 14 = true then row (cs) 99 (KC.setIfInBounds 5 (vS (α 14) 1 (1 + (α 3014)))) else row (cs) 99 KC
noncomputable def rFOA3T15 (pb : Nat) (PC : Array Value) (sb : Nat) (c : Nat) (nm : ByteArray) (cs : Nat) (KC : Array Value) (ib : Nat) (L9 : Nat → Bool) (α : Rega.Atoms) : Rw := if L9 16 = true then row (α 15) 31 #[vU 0, vU 1] else row (α 15) 31 #[vU 0, vU 0]
noncomputable def rFOA3R (pb : Nat) (PC : Array Value) (sb : Nat) (c : Nat) (nm : ByteArray) (cs : Nat) (KC : Array Value) (ib : Nat) (L9 : Nat → Bool) (α : Rega.Atoms) (ix9 : Nat) : Rw := if ix9 = 999 then rFOA3T999 pb PC sb c nm cs KC ib L9 α else if ix9 = 1999 then rFOA3T1999 pb PC sb c nm cs KC ib L9 α else if ix9 = 2999 then rFOA3T2999 pb PC sb c nm cs KC ib L9 α else if ix9 = 3999 then row (ib) 136 #[vU 0, vU 0] else if ix9 = 14 then row (α 14) 31 (full refZ ([vU 0, vU 1]) (α 3014)) else if ix9 = 15 then rFOA3T15 pb PC sb c nm cs KC ib L9 α else (0, .map #[] 0)
theorem rFOA3_he (pb : Nat) (PC : Array Value) (sb : Nat) (c : Nat) (nm : ByteArray) (cs : Nat) (KC : Array Value) (ib : Nat) : ∀ kk α α', (∀ j, (j % 1000 = kk ∨ j % 1000 ∈ rFOA3Anc kk) → α j = α' j) → rFOA3E pb PC sb c nm cs KC ib kk α = rFOA3E pb PC sb c nm cs KC ib kk α' := by
 intro kk α α' h
 match kk with
 | 0 => rfl
 | 1 => rfl
 | 2 => rfl
 | 3 => rfl
 | 4 => rfl
 | 5 => rfl
 | 6 => rfl
 | 7 => rfl
 | 8 => rfl
 | 9 => rfl
 | 10 => rfl
 | 11 => rfl
 | 12 => rfl
 | 13 => rfl
 | 14 => rfl
 | 15 => simp only [rFOA3E, h 15 (Or.inl rfl)]
 | 16 => rfl
 | n + 17 => rfl
theorem rFOA3_st (pb : Nat) (PC : Array Value) (sb : Nat) (c : Nat) (nm : ByteArray) (cs : Nat) (KC : Array Value) (ib : Nat) : Stable rFOA3Cnt 4 rFOA3Anc rFOA3Trn (rFOA3R pb PC sb c nm cs KC ib) := by
 intro k9 L9 α α' ix9 hk hcl hα hact ht
 have hp := act_places hact
 replace hp : ix9 ∈ [999, 1999, 2999, 3999, 14, 15] := hp
 simp only [List.mem_cons, List.not_mem_nil, or_false] at hp
 rcases hp with rfl | rfl | rfl | rfl | rfl | rfl
 ·show rFOA3T999 pb PC sb c nm cs KC ib (Rega.ran L9 k9) α' = rFOA3T999 pb PC sb c nm cs KC ib L9 α
  unfold rFOA3T999
  have n14 : 14 ≠ k9 := fun e => ht (by rw [← e]; decide)
  rw [ran_ne n14]
  by_cases e14 : L9 14 = true
  ·first | rw [if_pos e14, if_pos e14] | rw [if_pos e14]
   try simp only [hα 1014 (ne_ran hk e14), hα 2014 (ne_ran hk e14)]
  first | rw [if_neg e14, if_neg e14] | rw [if_neg e14]
 ·show rFOA3T1999 pb PC sb c nm cs KC ib (Rega.ran L9 k9) α' = rFOA3T1999 pb PC sb c nm cs KC ib L9 α
  unfold rFOA3T1999
  have n14 : 14 ≠ k9 := fun e => ht (by rw [← e]; decide)
  rw [ran_ne n14]
  by_cases e14 : L9 14 = true
  ·first | rw [if_pos e14, if_pos e14] | rw [if_pos e14]
   try simp only [hα 1014 (ne_ran hk e14), hα 2014 (ne_ran hk e14)]
  first | rw [if_neg e14, if_neg e14] | rw [if_neg e14]
 ·show rFOA3T2999 pb PC sb c nm cs KC ib (Rega.ran L9 k9) α' = rFOA3T2999 pb PC sb c nm cs KC ib L9 α
  unfold rFOA3T2999
  have n14 : 14 ≠ k9 := fun e => ht (by rw [← e]; decide)
  rw [ran_ne n14]
  by_cases e14 : L9 14 = true
  ·first | rw [if_pos e14, if_pos e14] | rw [if_pos e14]
   try simp only [hα 14 (ne_ran hk e14), hα 3014 (ne_ran hk e14)]
  first | rw [if_neg e14, if_neg e14] | rw [if_neg e14]
 ·rfl
 ·have e0 : L9 14 = true := act_lt hact dc
  show row (α' 14) 31 (full refZ ([vU 0, vU 1]) (α' 3014)) = row (α 14) 31 (full refZ ([vU 0, vU 1]) (α 3014))
  simp only [hα 14 (ne_ran hk e0), hα 3014 (ne_ran hk e0)]
 ·have e0 : L9 15 = true := act_lt hact dc
  show rFOA3T15 pb PC sb c nm cs KC ib (Rega.ran L9 k9) α' = rFOA3T15 pb PC sb c nm cs KC ib L9 α
  unfold rFOA3T15
  have n16 : 16 ≠ k9 := fun e => ht (by rw [← e]; decide)
  rw [ran_ne n16]
  by_cases e16 : L9 16 = true
  ·first | rw [if_pos e16, if_pos e16] | rw [if_pos e16]
   try simp only [hα 15 (ne_ran hk (hcl 16 e16 15 dc))]
  first | rw [if_neg e16, if_neg e16] | rw [if_neg e16]
  try simp only [hα 15 (ne_ran hk e0)]

set_option maxRecDepth 100000 in
set_option maxHeartbeats 4000000 in
theorem foa (pb : Nat) (PC : Array Value) (sb c : Nat) (nm : ByteArray) (mp k ms : Nat) (MC : Array Value) (pt : Nat) (QC : Array Value) (mu cs : Nat) (KC : Array Value) (ini : Nat) (kd : Int) (dbx ib : Nat) (l0 l3 : Int) (v3 : Value) (w0 w : World) (X : Nat → Obj → Prop) (Post : Ending → World → Prop) (hB : HuA pb PC sb c nm mp k ms MC pt QC mu cs KC ini kd dbx ib l0 l3 v3 w0 X (bodyPost Tryd.prog Tryd.f41 Post)) (hO : Own w0 w [row (pb) 252 PC, row (sb) 260 (full symZ (symL [sy nm 0]) c), ((mp, .map #[] k) : Rw), row (ms) 99 MC, row (pt) 107 QC, ((mu, .map (uA ([])) (uN ([]))) : Rw), row (cs) 99 KC, row (ini) 57 #[vS dbx 1 1, v8 kd, bF, bF], row (dbx) 54 #[vF 134 ib, vI l3, .nilIface, vI 0], row (ib) 136 #[vU 0, vU 0]] X) (hk66 : PC[66]? = some (vU 0)) (hk32 : PC[32]? = some (bF)) (hk104 : PC[104]? = some (vP cs)) (hk106 : PC[106]? = some (vS sb 1 (1 + c))) (hkind : KC[15]? = some (v8 8)) (hcg : KC[5]? = some (vN)) (hnm : nm.size ≤ 65536) (hg0 : w0.cell? ⟨0, 0, none⟩ = some (vU 4294967295)) (hg1 : w0.cell? ⟨0, 1, none⟩ = some (vU 4294967295)) :
  Calls Tryd.prog 41 #[vP pb, .agg #[vI l0], vP ini, v3] w Post := by
 go_enter Tryd.func41, Tryd.ntmps41
 have HB := Lib.hid hB
 clear hB
 obtain ⟨c8, hc8⟩ : ∃ c, c = restR4 := ⟨_, rfl⟩
 have HC8 := Lib.hid hc8
 simp only [restR4, Tryd.f41, Option.getD_some, cutC] at hc8
 rw [← hc8]
 clear hc8
 obtain ⟨aA, aD, aE, aF, aB, aC, -⟩ := hO.k4 7 rfl
 obtain ⟨aG, aH, aI, aJ, aK, aL, -⟩ := hO.k4 8 rfl
 obtain ⟨aM, aN, aO, aP, -⟩ := hO.k2 9 rfl
 have HO := Lib.hid hO
 clear hO
 have htn : (⟨#[95]⟩ : ByteArray) ++ nm = un nm := rfl
 have hnz2 : ¬ 9223372036854775807 < 1 + nm.size := by omega
 have hnz3 : (nm.size : Int) ≤ 8388608 := by omega
 go_wp2_with (first | (with_reducible refine Own.stay (fn := Tryd.f41) ?_) | fail)
 try with_reducible refine Own.Stay.mk ?_
 have hO := HO.out
 clear HO aA aD aE aF aB aC aG aH aI aJ aK aL aM aN aO aP
 generalize hW : World.alloc _ _ = W2
 have hN : Own w0 W2 [row (w.heap.size + 1) 47 #[vF 134 ib, vI l3], row (w.heap.size) 28 #[vI l0], row (pb) 252 PC, row (sb) 260 (full symZ (symL [sy nm 0]) c), ((mp, .map #[] k) : Rw), row (ms) 99 MC, row (pt) 107 QC, ((mu, .map (uA ([])) (uN ([]))) : Rw), row (cs) 99 KC, row (ini) 57 #[vS dbx 1 1, v8 kd, bF, bF], row (dbx) 54 #[vF 134 ib, vI l3, .nilIface, vI 0], row (ib) 136 #[vU 0, vU 0]] X := by
  rw [← hW]
  exact ((hO).alloc' _ (w.heap.size) (by simp)).alloc' _ (w.heap.size + 1) (by simp)
 clear hW hO
 generalize w.heap.size + 1 = B1_1 at hN ⊢
 generalize w.heap.size = B1 at hN ⊢
 have hO := hN
 clear hN
 obtain ⟨HL, HX⟩ := hid2 hO
 have hP9 := hO.pick [2, 3, 8, 11] dc
 generalize hX9_3 : Own.Rest _ _ X = X9_3 at hP9
 replace hP9 : Own w0 W2 [row (pb) 252 PC, row (sb) 260 (full symZ (symL [sy nm 0]) c), row (cs) 99 KC, row (ib) 136 #[vU 0, vU 0]] X9_3 := hP9
 clear hO
 have hO := hP9
 clear hP9
 have st9 := rFOA3_st pb PC sb c nm cs KC ib
 let R9 := rFOA3R pb PC sb c nm cs KC ib
 refine wp_region_own (e := rFOA3E pb PC sb c nm cs KC ib) (anc := rFOA3Anc) (G := (fun L9 α u9 => OwnF w0 u9 (act rFOA3Cnt 4 L9) (rFOA3R pb PC sb c nm cs KC ib L9 α) X9_3)) (by kernel_rfl) (by kernel_rfl) (by kernel_rfl) (by kernel_rfl) (rFOA3_he pb PC sb c nm cs KC ib) ?_ (RunsAll.all ?_) ?_
 ·have hp : ∀ i, act rFOA3Cnt 4 (fun _ => false) i → i ∈ [999, 1999, 2999, 3999] := by
   intro i hi
   have h9 : i % 1000 = 999 := by
    by_cases h : i % 1000 = 999
    ·exact h
    ·exact absurd (act_lt hi h) (by simp)
   unfold act at hi
   rw [if_pos h9] at hi
   simp only [List.mem_cons, List.not_mem_nil, or_false]
   omega
  refine hO.drew.family (fun i hi => ?_) (fun i j hi hj hij => ?_)
  ·have := hp i hi
   simp only [List.mem_cons, List.not_mem_nil, or_false] at this
   rcases this with rfl | rfl | rfl | rfl <;> rfl
  ·have h1 := hp i hi
   have h2 := hp j hj
   simp only [List.mem_cons, List.not_mem_nil, or_false] at h1 h2
   omega
 ·refine ⟨?_, ?_, ?_, ?_, ?_, ?_, ?_, ?_, ?_, ?_, ?_, ?_, ?_, ?_, ?_, ?_, ?_, trivial⟩
  ·refine pur st9 rfl rfl fun L9 α a9 u9 K9 hL hcl hA hG hS h0 h1 hK => ?_
   have s0 := eS (vP pb) ((h0 0 (by kernel_rfl)).trans rfl)
   go_simp
   exact hK
  ·refine pur st9 rfl rfl fun L9 α a9 u9 K9 hL hcl hA hG hS h0 h1 hK => ?_
   have s0 := eS (vP pb) ((h0 0 (by kernel_rfl)).trans rfl)
   go_simp
   exact hK
  ·refine pur st9 rfl rfl fun L9 α a9 u9 K9 hL hcl hA hG hS h0 h1 hK => ?_
   have s28 := eS (vP pb) (hS 1 28 dc rfl (ltd 157 rfl))
   go_simp
   exact hK
  ·refine pur st9 rfl rfl fun L9 α a9 u9 K9 hL hcl hA hG hS h0 h1 hK => ?_
   have s29 := eS (vP pb) (hS 2 29 dc rfl (ltd 157 rfl))
   go_simp
   exact hK
  ·refine pur st9 rfl rfl fun L9 α a9 u9 K9 hL hcl hA hG hS h0 h1 hK => ?_
   replace hL : L9 4 = false := hL
   have s30 := eS (.pointer (some ⟨pb, 106, none⟩)) (hS 3 30 dc rfl (ltd 157 rfl))
   have e0 : R9 L9 α 999 = row (pb) 252 PC := by
    show rFOA3T999 pb PC sb c nm cs KC ib L9 α = _
    unfold rFOA3T999
    rw [if_neg (fun e => by have := hcl 14 e 4 dc; rw [hL] at this; cases this)]
   have hr := hG.rowAt 999 (act_base 999 rfl) e0
   have c0 : u9.cell? ⟨pb, 106, none⟩ = some (vS sb 1 (1 + c)) := hr.cell (hk106)
   clear hr e0
   go_simp
   exact hK
  ·refine pur st9 rfl rfl fun L9 α a9 u9 K9 hL hcl hA hG hS h0 h1 hK => ?_
   have s9 := eS (vP ib) ((h0 9 (by kernel_rfl)).trans rfl)
   go_simp
   exact hK
  ·refine pur st9 rfl rfl fun L9 α a9 u9 K9 hL hcl hA hG hS h0 h1 hK => ?_
   have s32 := eS (vP ib) (hS 5 32 dc rfl (ltd 157 rfl))
   go_simp
   exact hK
  ·refine pur st9 rfl rfl fun L9 α a9 u9 K9 hL hcl hA hG hS h0 h1 hK => ?_
   have s33 := eS (vP ib) (hS 6 33 dc rfl (ltd 157 rfl))
   go_simp
   exact hK
  ·refine pur st9 rfl rfl fun L9 α a9 u9 K9 hL hcl hA hG hS h0 h1 hK => ?_
   have s34 := eS (vP ib) (hS 7 34 dc rfl (ltd 157 rfl))
   go_simp
   exact hK
  ·refine pur st9 rfl rfl fun L9 α a9 u9 K9 hL hcl hA hG hS h0 h1 hK => ?_
   have s35 := eS (.pointer (some ⟨ib, 1, none⟩)) (hS 8 35 dc rfl (ltd 157 rfl))
   have e0 : R9 L9 α 3999 = row (ib) 136 #[vU 0, vU 0] := rfl
   have hr := hG.rowAt 3999 (act_base 3999 rfl) e0
   have c0 : u9.cell? ⟨ib, 1, none⟩ = some (vU 0) := hr.cell rfl
   clear hr e0
   go_simp
   exact hK
  ·refine pur st9 rfl rfl fun L9 α a9 u9 K9 hL hcl hA hG hS h0 h1 hK => ?_
   have q31 : a9.tmps[31]? = some (vS sb 1 (1 + c)) := hS 4 31 dc rfl (ltd 157 rfl)
   have s31 := Rega.eval_of q31
   have q36 : a9.tmps[36]? = some (vU 0) := hS 9 36 dc rfl (ltd 157 rfl)
   have s36 := Rega.eval_of q36
   go_simp
   exact hK
  ·refine pur st9 rfl rfl fun L9 α a9 u9 K9 hL hcl hA hG hS h0 h1 hK => ?_
   have s37 := eS (vP sb) (hS 10 37 dc rfl (ltd 157 rfl))
   go_simp
   exact hK
  ·refine pur st9 rfl rfl fun L9 α a9 u9 K9 hL hcl hA hG hS h0 h1 hK => ?_
   replace hL : L9 12 = false := hL
   have s38 := eS (.pointer (some ⟨sb, 1, none⟩)) (hS 11 38 dc rfl (ltd 157 rfl))
   have e0 : R9 L9 α 1999 = row (sb) 260 (full symZ (symL [sy nm 0]) c) := by
    show rFOA3T1999 pb PC sb c nm cs KC ib L9 α = _
    unfold rFOA3T1999
    rw [if_neg (fun e => by have := hcl 14 e 12 dc; rw [hL] at this; cases this)]
   have hr := hG.rowAt 1999 (act_base 1999 rfl) e0
   have c0 : u9.cell? ⟨sb, 1, none⟩ = some (.string nm) := hr.cell ((full_at rfl))
   clear hr e0
   go_simp
   exact hK
  ·refine pur st9 rfl rfl fun L9 α a9 u9 K9 hL hcl hA hG hS h0 h1 hK => ?_
   have q39 : a9.tmps[39]? = some (.string nm) := hS 12 39 dc rfl (ltd 157 rfl)
   have s39 := Rega.eval_of q39
   go_simp
   exact hK
  ·intro L9 α a9 u9 K9 hL hcl hA hG hS h0 h1 hK
   replace hL : L9 14 = false := hL
   have q27 : a9.tmps[27]? = some (vP pb) := hS 0 27 dc rfl (ltd 157 rfl)
   have s27 := Rega.eval_of q27
   have q40 : a9.tmps[40]? = some (.string (un nm)) := hS 13 40 dc rfl (ltd 157 rfl)
   have s40 := Rega.eval_of q40
   go_simp
   have e0 : R9 L9 α 999 = row (pb) 252 PC := by
    show rFOA3T999 pb PC sb c nm cs KC ib L9 α = _
    unfold rFOA3T999
    rw [if_neg (by rw [hL]; decide)]
   have e1 : R9 L9 α 1999 = row (sb) 260 (full symZ (symL [sy nm 0]) c) := by
    show rFOA3T1999 pb PC sb c nm cs KC ib L9 α = _
    unfold rFOA3T1999
    rw [if_neg (by rw [hL]; decide)]
   have e2 : R9 L9 α 2999 = row (cs) 99 KC := by
    show rFOA3T2999 pb PC sb c nm cs KC ib L9 α = _
    unfold rFOA3T2999
    rw [if_neg (by rw [hL]; decide)]
   have hM : ∀ i, i ∈ [999, 1999, 2999] → act rFOA3Cnt 4 L9 i := by
    intro i hi
    simp only [List.mem_cons, List.not_mem_nil, or_false] at hi
    rcases hi with rfl | rfl | rfl
    ·exact act_base 999 rfl
    ·exact act_base 1999 rfl
    ·exact act_base 2999 rfl
   have hP : Own w0 u9 [row (pb) 252 PC, row (sb) 260 (full symZ (symL [sy nm 0]) c), row (cs) 99 KC] _ := (hG.pick [999, 1999, 2999] dc hM).conv (by
    show [R9 L9 α 999, R9 L9 α 1999, R9 L9 α 2999] = _
    rw [e0, e1, e2])
   clear e0 e1 e2 hM
   refine Calls.mono (gtP0 pb PC sb c ([sy nm 0]) 1 0 (un nm) cs KC _ _ _ hP hk66 hk32 hk104 hk106 (by rfl) (by omega) hkind hcg (un_ne nm) hg0 hg1) ?_
   rintro e9 u1 ⟨b1, b2, b0, b3, rfl, hQ⟩
   obtain ⟨α', hα'⟩ : ∃ α' : Rega.Atoms, α' = (fun j => if j = 14 then b0 else if j = 1014 then b1 else if j = 2014 then b2 else if j = 3014 then b3 else α j) := ⟨_, rfl⟩
   have f0 : R9 (Rega.ran L9 14) α' 999 = row (pb) 252 (PC.setIfInBounds 106 (vS (α' 1014) (1 + 1) (1 + 1 + (α' 2014)))) := by
    show rFOA3T999 pb PC sb c nm cs KC ib (Rega.ran L9 14) α' = _
    unfold rFOA3T999
    rw [if_pos (show Rega.ran L9 14 14 = true from rfl)]
   have f1 : R9 (Rega.ran L9 14) α' 1999 = row (α' 1014) 260 (full symZ (symL (([sy nm 0]) ++ [syk (un nm) 27])) (α' 2014)) := by
    show rFOA3T1999 pb PC sb c nm cs KC ib (Rega.ran L9 14) α' = _
    unfold rFOA3T1999
    rw [if_pos (show Rega.ran L9 14 14 = true from rfl)]
   have f2 : R9 (Rega.ran L9 14) α' 2999 = row (cs) 99 (KC.setIfInBounds 5 (vS (α' 14) 1 (1 + (α' 3014)))) := by
    show rFOA3T2999 pb PC sb c nm cs KC ib (Rega.ran L9 14) α' = _
    unfold rFOA3T2999
    rw [if_pos (show Rega.ran L9 14 14 = true from rfl)]
   have f3 : R9 (Rega.ran L9 14) α' 14 = row (α' 14) 31 (full refZ ([vU 0, vU 1]) (α' 3014)) := rfl
   have hα : ∀ j, j % 1000 ≠ 14 → α' j = α j := fun j hj => by rw [hα']; simp only []; rw [if_neg (by omega), if_neg (by omega), if_neg (by omega), if_neg (by omega)]
   have hb0 : α' 14 = b0 := by rw [hα']; rfl
   have hb1 : α' 1014 = b1 := by rw [hα']; rfl
   have hb2 : α' 2014 = b2 := by rw [hα']; rfl
   have hb3 : α' 3014 = b3 := by rw [hα']; rfl
   skip
   refine hK _ α' _ hα ?_ (step_call (st9) hL hcl hα [999, 1999, 2999] [999, 1999, 2999, 14] dc dc dc (M := _) ?_ hG hQ)
   ·rfl
   ·show [R9 (Rega.ran L9 14) α' 999, R9 (Rega.ran L9 14) α' 1999, R9 (Rega.ran L9 14) α' 2999, R9 (Rega.ran L9 14) α' 14] = _
    rw [f0, f1, f2, f3]
    simp only [hb0, hb1, hb2, hb3]
    try rfl
  ·intro L9 α a9 u9 K9 hL hcl hA hG hS h0 h1 hK
   replace hL : L9 15 = false := hL
   go_simp
   have e1 : R9 (Rega.ran L9 15) (fun j => if j = 15 then u9.heap.size else α j) 15 = row (u9.heap.size) 31 #[vU 0, vU 0] := by
    show rFOA3T15 pb PC sb c nm cs KC ib (Rega.ran L9 15) (fun j => if j = 15 then u9.heap.size else α j) = _
    unfold rFOA3T15
    exact ((if_neg (fun e => (fun e => by have := hcl 16 e 15 dc; rw [hL] at this; cases this) ((ran_ne dc).symm.trans e))).trans rfl)
   exact hK _ (fun j => if j = 15 then u9.heap.size else α j) _ (fun j hj => if_neg (fun e => hj (by rw [e]))) rfl (step_alloc st9 hL hcl rfl rfl dc _ e1 hG)
  ·intro L9 α a9 u9 K9 hL hcl hA hG hS h0 h1 hK
   replace hL : L9 16 = false := hL
   have q10 : a9.tmps[10]? = some (vP (α 15)) := hS 15 10 dc rfl (ltd 157 rfl)
   have s10 := Rega.eval_of q10
   have q41 : a9.tmps[41]? = some (.agg #[vU 0, vU 1]) := hS 14 41 dc rfl (ltd 157 rfl)
   have s41 := Rega.eval_of q41
   have e0 : R9 L9 α 15 = row (α 15) 31 #[vU 0, vU 0] := by
    show rFOA3T15 pb PC sb c nm cs KC ib L9 α = _
    unfold rFOA3T15
    rw [if_neg (by rw [hL]; decide)]
   have hr := hG.rowAt 15 (act_new 15 rfl (hA 15 dc)) e0
   have c0 : u9.cell? ⟨α 15, 0, none⟩ = some (vU 0) := hr.cell rfl
   have y0 : u9.frozen? ⟨α 15, 0, none⟩ = false := hr.free (0)
   have c1 : u9.cell? ⟨α 15, 1, none⟩ = some (vU 0) := hr.cell rfl
   have y1 : u9.frozen? ⟨α 15, 1, none⟩ = false := hr.free (1)
   clear hr
   have E0 := Lib.hid e0
   clear e0
   go_simp
   have e1 : R9 (Rega.ran L9 16) α 15 = row (α 15) 31 #[vU 0, vU 1] := by
    show rFOA3T15 pb PC sb c nm cs KC ib (Rega.ran L9 16) α = _
    unfold rFOA3T15
    rw [if_pos (show Rega.ran L9 16 16 = true from rfl)]
   exact hK _ α _ (fun _ _ => rfl) rfl (step_sets (st9) hL hcl rfl 15 rfl (act_new 15 rfl (hA 15 dc)) E0.out (0) [vU 0, vU 1] (e1.trans rfl) hG)
 clear st9
 intro α u hG
 have e0 : R9 (fun k => decide (k < 17)) α 999 = row (pb) 252 (PC.setIfInBounds 106 (vS (α 1014) (1 + 1) (1 + 1 + (α 2014)))) := by
  show rFOA3T999 pb PC sb c nm cs KC ib (fun k => decide (k < 17)) α = _
  unfold rFOA3T999
  rw [if_pos dc]
 have e1 : R9 (fun k => decide (k < 17)) α 1999 = row (α 1014) 260 (full symZ (symL (([sy nm 0]) ++ [syk (un nm) 27])) (α 2014)) := by
  show rFOA3T1999 pb PC sb c nm cs KC ib (fun k => decide (k < 17)) α = _
  unfold rFOA3T1999
  rw [if_pos dc]
 have e2 : R9 (fun k => decide (k < 17)) α 2999 = row (cs) 99 (KC.setIfInBounds 5 (vS (α 14) 1 (1 + (α 3014)))) := by
  show rFOA3T2999 pb PC sb c nm cs KC ib (fun k => decide (k < 17)) α = _
  unfold rFOA3T2999
  rw [if_pos dc]
 have e3 : R9 (fun k => decide (k < 17)) α 3999 = row (ib) 136 #[vU 0, vU 0] := rfl
 have e4 : R9 (fun k => decide (k < 17)) α 14 = row (α 14) 31 (full refZ ([vU 0, vU 1]) (α 3014)) := rfl
 have e5 : R9 (fun k => decide (k < 17)) α 15 = row (α 15) 31 #[vU 0, vU 1] := by
  show rFOA3T15 pb PC sb c nm cs KC ib (fun k => decide (k < 17)) α = _
  unfold rFOA3T15
  rw [if_pos dc]
 have hO : Own w0 u [row (pb) 252 (PC.setIfInBounds 106 (vS (α 1014) (1 + 1) (1 + 1 + (α 2014)))), row (α 1014) 260 (full symZ (symL (([sy nm 0]) ++ [syk (un nm) 27])) (α 2014)), row (cs) 99 (KC.setIfInBounds 5 (vS (α 14) 1 (1 + (α 3014)))), row (ib) 136 #[vU 0, vU 0], row (α 14) 31 (full refZ ([vU 0, vU 1]) (α 3014)), row (α 15) 31 #[vU 0, vU 1]] X9_3 := (hG.list [999, 1999, 2999, 3999, 14, 15] dc (act_all dc)).conv (by
  show [R9 (fun k => decide (k < 17)) α 999, R9 (fun k => decide (k < 17)) α 1999, R9 (fun k => decide (k < 17)) α 2999, R9 (fun k => decide (k < 17)) α 3999, R9 (fun k => decide (k < 17)) α 14, R9 (fun k => decide (k < 17)) α 15] = _
  rw [e0, e1, e2, e3, e4, e5])
 clear hG e0 e1 e2 e3 e4 e5 R9
 generalize hfr : Rega.frameAt _ _ _ _ _ = fr
 have hdf : fr = ⟨#[vP pb, .agg #[vI l0], vP ini, v3, undef, vP B1, undef, undef, vP B1_1, vP ib, vP (α 15), undef, undef, undef, undef, undef, undef, vP ini, vP ini, vP ini, vS dbx 1 1, vP dbx, vP dbx, .agg #[vF 134 ib, vI l3], vP B1_1, vF 134 ib, vP ib, vP pb, vP pb, vP pb, .pointer (some ⟨pb, 106, none⟩), vS sb 1 (1 + c), vP ib, vP ib, vP ib, .pointer (some ⟨ib, 1, none⟩), vU 0, vP sb, .pointer (some ⟨sb, 1, none⟩), .string nm, .string (un nm), .agg #[vU 0, vU 1], undef, undef, undef, undef, undef, undef, undef, undef, undef, undef, undef, undef, undef, undef, undef, undef, undef, undef, undef, undef, undef, undef, undef, undef, undef, undef, undef, undef, undef, undef, undef, undef, undef, undef, undef, undef, undef, undef, undef, undef, undef, undef, undef, undef, undef, undef, undef, undef, undef, undef, undef, undef, undef, undef, undef, undef, undef, undef, undef, undef, undef, undef, undef, undef, undef, undef, undef, undef, undef, undef, undef, undef, undef, undef, undef, undef, undef, undef, undef, undef, undef, undef, undef, undef, undef, undef, undef, undef, undef, undef, undef, undef, undef, undef, undef, undef, undef, undef, undef, undef, undef, undef, undef, undef, undef, undef, undef, undef, undef, undef, undef, undef, undef, undef, undef], []⟩ := by rw [← hfr]; kernel_rfl
 clear hfr
 subst hdf
 generalize α 14 = nd4 at hO ⊢
 generalize α 15 = nd5 at hO ⊢
 generalize α 1014 = nd6 at hO ⊢
 generalize α 2014 = nd7 at hO ⊢
 generalize α 3014 = nd8 at hO ⊢
 clear α
 subst hX9_3
 replace hO : Own w0 u [row (pb) 252 (PC.setIfInBounds 106 (vS nd6 (1 + 1) (1 + 1 + (nd7)))), row (nd6) 260 (full symZ (symL (([sy nm 0]) ++ [syk (un nm) 27])) (nd7)), row (cs) 99 (KC.setIfInBounds 5 (vS nd4 1 (1 + (nd8)))), row (ib) 136 #[vU 0, vU 0], row (nd4) 31 (full refZ ([vU 0, vU 1]) (nd8)), row (nd5) 31 #[vU 0, vU 1], row (B1_1) 47 #[vF 134 ib, vI l3], row (B1) 28 #[vI l0], ((mp, .map #[] k) : Rw), row (ms) 99 MC, row (pt) 107 QC, ((mu, .map (uA ([])) (uN ([]))) : Rw), row (ini) 57 #[vS dbx 1 1, v8 kd, bF, bF], row (dbx) 54 #[vF 134 ib, vI l3, .nilIface, vI 0]] X := hO.back HL.out HX.out [0, 1, 4, 5, 6, 7, 9, 10] dc dc
 clear HL HX
 replace hO : Own w0 u [row (pb) 252 (PC.setIfInBounds 106 (vS nd6 (1 + 1) (1 + 1 + (nd7)))), row (nd6) 260 (full symZ (symL ([sy nm 0, sy (un nm) 0])) (nd7)), row (cs) 99 (KC.setIfInBounds 5 (vS nd4 1 (1 + (nd8)))), row (ib) 136 #[vU 0, vU 0], row (nd4) 31 (full refZ [vU 0, vU 1] (nd8)), row (nd5) 31 #[vU 0, vU 1], row (B1_1) 47 #[vF 134 ib, vI l3], row (B1) 28 #[vI l0], ((mp, .map #[] k) : Rw), row (ms) 99 MC, row (pt) 107 QC, ((mu, .map (uA ([])) (uN ([]))) : Rw), row (ini) 57 #[vS dbx 1 1, v8 kd, bF, bF], row (dbx) 54 #[vF 134 ib, vI l3, .nilIface, vI 0]] X := hO
 obtain ⟨aQ, aR, aS, aT, -⟩ := hO.k2 3 rfl
 obtain ⟨aU, aV, aW, aX, -⟩ := hO.k2 5 rfl
 obtain ⟨aY, aZ, aa, ab, -⟩ := hO.k2 6 rfl
 obtain ⟨aA, aB, aC, -⟩ := hO.k1 7 rfl
 obtain ⟨ac, ad, ae, af, ag, ah, -⟩ := hO.k4 12 rfl
 obtain ⟨ai, aj, ak, al, am, an, -⟩ := hO.k4 13 rfl
 have HO := Lib.hid hO
 clear hO
 go_wp2_with (first | (with_reducible refine Own.stay (fn := Tryd.f41) ?_) | fail)
 try with_reducible refine Own.Stay.mk ?_
 have hO := HO.out
 clear HO aQ aR aS aT aU aV aW aX aY aZ aa ab aA aB aC ac ad ae af ag ah ai aj ak al am an
 rw [HC8.out]
 have hM : Own w0 u [row (pb) 252 (PC.setIfInBounds 106 (vS nd6 2 (2 + nd7))), row (nd6) 260 (full symZ (symL [sy nm 0, sy (un nm) 0]) nd7), ((mp, .map #[] k) : Rw), row (ms) 99 MC, row (pt) 107 QC, ((mu, .map (uA ([])) (uN ([]))) : Rw), row (cs) 99 (KC.setIfInBounds 5 (vS nd4 1 (1 + nd8))), row (nd4) 31 (full refZ [vU 0, vU 1] nd8), row (ini) 57 #[vS dbx 1 1, v8 kd, bF, bF], row (dbx) 54 #[vF 134 ib, vI l3, .nilIface, vI 0], row (ib) 136 #[vU 0, vU 0], row (nd5) 31 #[vU 0, vU 1], row (B1) 28 #[vI l0], row (B1_1) 47 #[vF 134 ib, vI l3]] X := (hO.sub [0, 1, 8, 9, 10, 11, 2, 4, 12, 13, 3, 5, 7, 6] dc).conv rfl
 exact HB.out nd6 nd7 nd4 nd8 nd5 B1 B1_1 hM
end Go.Proofs.YtikopplofkemlaaDoor.Use
namespace Go.Proofs.YtikopplofkemlaaDoor.Use
open Go.ChangeShapes Go.WideShapes Go.ChangeAt Go.RowKit Go.Sort Own
set_option linter.unusedVariables false
noncomputable def rFOB12E (ini : Nat) (kd : Int) (dbx : Nat) (ib : Nat) (tr : Nat) (lx : Nat) (bb : Nat) (kb : Nat) (l0 : Int) (l3 : Int) (so : Option Addr) (kl : Nat) (kcp : Nat) (clv : Value) (B1 : Nat) : Nat → Rega.Atoms → Value
 | 0, α => vS B1 0 (kl + 1)
 | 1, α => .agg #[vI l0]
 | 2, α => vP ini
 | 3, α => vP ini
 | 4, α => .pointer (some ⟨ini, 1, none⟩)
 | 5, α => v8 kd
 | 6, α => .pointer (some ⟨bb, 1, none⟩)
 | 7, α => .agg #[vI l3]
 | 8, α => vP ib
 | 9, α => vP ib
 | 10, α => vP ib
 | 11, α => .agg #[vU 0, vU 0]
 | 12, α => .agg #[vU 0, vU 0]
 | 13, α => vP (α 13)
 | 14, α => vF 134 (α 13)
 | 15, α => .agg #[vF 134 (α 13), vI l3]
 | 16, α => .pointer (some ⟨bb, 1, none⟩)
 | 17, α => .agg #[vI l3]
 | 18, α => .agg #[vU 0, vU 1]
 | 19, α => .agg #[vU 0, vU 1, bF, bF, bF]
 | 20, α => vP (α 20)
 | 21, α => vF 267 (α 20)
 | 22, α => .agg #[vF 267 (α 20), vI l3]
 | 23, α => .agg #[vF 134 (α 13), vI l3, vF 267 (α 20), vI l3]
 | 24, α => vS (α 24) 1 1
 | 25, α => .agg #[vS (α 24) 1 1, v8 kd, bF, bF]
 | 26, α => vP (α 26)
 | 27, α => vF 42 (α 26)
 | 28, α => .agg #[vF 42 (α 26), vI l0]
 | 29, α => vS (α 29) 1 1
 | 30, α => vS (α 30) 1 (1 + α 1030)
 | 31, α => vS (α 30) 1 (1 + α 1030)
 | _, _ => undef
noncomputable def rFOB12Anc : Nat → List Nat
 | 3 => [2]
 | 4 => [2, 3]
 | 5 => [2, 3, 4]
 | 7 => [6]
 | 9 => [8]
 | 10 => [8, 9]
 | 11 => [8, 9, 10]
 | 12 => [8, 9, 10, 11]
 | 13 => [8, 9, 10, 11, 12]
 | 14 => [8, 9, 10, 11, 12, 13]
 | 15 => [6, 7, 8, 9, 10, 11, 12, 13, 14]
 | 17 => [16]
 | 19 => [18]
 | 20 => [18, 19]
 | 21 => [18, 19, 20]
 | 22 => [16, 17, 18, 19, 20, 21]
 | 23 => [6, 7, 8, 9, 10, 11, 12, 13, 14, 15, 16, 17, 18, 19, 20, 21, 22]
 | 24 => [6, 7, 8, 9, 10, 11, 12, 13, 14, 15, 16, 17, 18, 19, 20, 21, 22, 23]
 | 25 => [2, 3, 4, 5, 6, 7, 8, 9, 10, 11, 12, 13, 14, 15, 16, 17, 18, 19, 20, 21, 22, 23, 24]
 | 26 => [2, 3, 4, 5, 6, 7, 8, 9, 10, 11, 12, 13, 14, 15, 16, 17, 18, 19, 20, 21, 22, 23, 24, 25]
 | 27 => [2, 3, 4, 5, 6, 7, 8, 9, 10, 11, 12, 13, 14, 15, 16, 17, 18, 19, 20, 21, 22, 23, 24, 25, 26]
 | 28 => [1, 2, 3, 4, 5, 6, 7, 8, 9, 10, 11, 12, 13, 14, 15, 16, 17, 18, 19, 20, 21, 22, 23, 24, 25, 26, 27]
 | 29 => [1, 2, 3, 4, 5, 6, 7, 8, 9, 10, 11, 12, 13, 14, 15, 16, 17, 18, 19, 20, 21, 22, 23, 24, 25, 26, 27, 28]
 | 30 => [0, 1, 2, 3, 4, 5, 6, 7, 8, 9, 10, 11, 12, 13, 14, 15, 16, 17, 18, 19, 20, 21, 22, 23, 24, 25, 26, 27, 28, 29]
 | 31 => [0, 1, 2, 3, 4, 5, 6, 7, 8, 9, 10, 11, 12, 13, 14, 15, 16, 17, 18, 19, 20, 21, 22, 23, 24, 25, 26, 27, 28, 29, 30]
 | _ => []
noncomputable def rFOB12Trn : Nat → List Nat
 | 30 => [999]
 | _ => []
noncomputable def rFOB12Cnt : List (Nat × Nat) := [(13, 1), (20, 1), (24, 1), (26, 1), (29, 1)]
noncomputable def rFOB12T999 (ini : Nat) (kd : Int) (dbx : Nat) (ib : Nat) (tr : Nat) (lx : Nat) (bb : Nat) (kb : Nat) (l0 : Int) (l3 : Int) (so : Option Addr) (kl : Nat) (kcp : Nat) (clv : Value) (B1 : Nat) (L9 : Nat → Bool) (α : Rega.Atoms) : Rw := if L9 30 = true then row (α 30) 61 (full stmZ ([] ++ [vF 42 (α 26), vI l0]) (α 1030)) else row (B1) 61 (full stmZ [] (kl + 1))
noncomputable def rFOB12R (ini : Nat) (kd : Int) (dbx : Nat) (ib : Nat) (tr : Nat) (lx : Nat) (bb : Nat) (kb : Nat) (l0 : Int) (l3 : Int) (so : Option Addr) (kl : Nat) (kcp : Nat) (clv : Value) (B1 : Nat) (L9 : Nat → Bool) (α : Rega.Atoms) (ix9 : Nat) : Rw := if ix9 = 999 then rFOB12T999 ini kd dbx ib tr lx bb kb l0 l3 so kl kcp clv B1 L9 α else if ix9 = 1999 then row (ini) 57 #[vS dbx 1 1, v8 kd, bF, bF] else if ix9 = 2999 then row (ib) 136 #[vU 0, vU 0] else if ix9 = 3999 then row (tr) 31 #[vU 0, vU 1] else if ix9 = 4999 then row (lx) 28 #[vI l0] else if ix9 = 5999 then row (bb) 47 #[vF 134 ib, vI l3] else if ix9 = 6999 then row (kb) 72 #[.slice so kl kcp, clv] else if ix9 = 13 then row (α 13) 136 #[vU 0, vU 0] else if ix9 = 20 then row (α 20) 270 #[vU 0, vU 1, bF, bF, bF] else if ix9 = 24 then row (α 24) 54 #[vF 134 (α 13), vI l3, vF 267 (α 20), vI l3] else if ix9 = 26 then row (α 26) 57 #[vS (α 24) 1 1, v8 kd, bF, bF] else if ix9 = 29 then row (α 29) 61 #[vF 42 (α 26), vI l0] else (0, .map #[] 0)
theorem rFOB12_he (ini : Nat) (kd : Int) (dbx : Nat) (ib : Nat) (tr : Nat) (lx : Nat) (bb : Nat) (kb : Nat) (l0 : Int) (l3 : Int) (so : Option Addr) (kl : Nat) (kcp : Nat) (clv : Value) (B1 : Nat) : ∀ kk α α', (∀ j, (j % 1000 = kk ∨ j % 1000 ∈ rFOB12Anc kk) → α j = α' j) → rFOB12E ini kd dbx ib tr lx bb kb l0 l3 so kl kcp clv B1 kk α = rFOB12E ini kd dbx ib tr lx bb kb l0 l3 so kl kcp clv B1 kk α' := by
 intro kk α α' h
 match kk with
 | 0 => rfl
 | 1 => rfl
 | 2 => rfl
 | 3 => rfl
 | 4 => rfl
 | 5 => rfl
 | 6 => rfl
 | 7 => rfl
 | 8 => rfl
 | 9 => rfl
 | 10 => rfl
 | 11 => rfl
 | 12 => rfl
 | 13 => simp only [rFOB12E, h 13 (Or.inl rfl)]
 | 14 => simp only [rFOB12E, h 13 (Or.inr dc)]
 | 15 => simp only [rFOB12E, h 13 (Or.inr dc)]
 | 16 => rfl
 | 17 => rfl
 | 18 => rfl
 | 19 => rfl
 | 20 => simp only [rFOB12E, h 20 (Or.inl rfl)]
 | 21 => simp only [rFOB12E, h 20 (Or.inr dc)]
 | 22 => simp only [rFOB12E, h 20 (Or.inr dc)]
 | 23 => simp only [rFOB12E, h 13 (Or.inr dc), h 20 (Or.inr dc)]
 | 24 => simp only [rFOB12E, h 24 (Or.inl rfl)]
 | 25 => simp only [rFOB12E, h 24 (Or.inr dc)]
 | 26 => simp only [rFOB12E, h 26 (Or.inl rfl)]
 | 27 => simp only [rFOB12E, h 26 (Or.inr dc)]
 | 28 => simp only [rFOB12E, h 26 (Or.inr dc)]
 | 29 => simp only [rFOB12E, h 29 (Or.inl rfl)]
 | 30 => simp only [rFOB12E, h 30 (Or.inl rfl), h 1030 (Or.inl rfl)]
 | 31 => simp only [rFOB12E, h 30 (Or.inr dc), h 1030 (Or.inr dc)]
 | n + 32 => rfl
theorem rFOB12_st (ini : Nat) (kd : Int) (dbx : Nat) (ib : Nat) (tr : Nat) (lx : Nat) (bb : Nat) (kb : Nat) (l0 : Int) (l3 : Int) (so : Option Addr) (kl : Nat) (kcp : Nat) (clv : Value) (B1 : Nat) : Stable rFOB12Cnt 7 rFOB12Anc rFOB12Trn (rFOB12R ini kd dbx ib tr lx bb kb l0 l3 so kl kcp clv B1) := by
 intro k9 L9 α α' ix9 hk hcl hα hact ht
 have hp := act_places hact
 replace hp : ix9 ∈ [999, 1999, 2999, 3999, 4999, 5999, 6999, 13, 20, 24, 26, 29] := hp
 simp only [List.mem_cons, List.not_mem_nil, or_false] at hp
 rcases hp with rfl | rfl | rfl | rfl | rfl | rfl | rfl | rfl | rfl | rfl | rfl | rfl
 ·show rFOB12T999 ini kd dbx ib tr lx bb kb l0 l3 so kl kcp clv B1 (Rega.ran L9 k9) α' = rFOB12T999 ini kd dbx ib tr lx bb kb l0 l3 so kl kcp clv B1 L9 α
  unfold rFOB12T999
  have n30 : 30 ≠ k9 := fun e => ht (by rw [← e]; decide)
  rw [ran_ne n30]
  by_cases e30 : L9 30 = true
  ·first | rw [if_pos e30, if_pos e30] | rw [if_pos e30]
   try simp only [hα 26 (ne_ran hk (hcl 30 e30 26 dc)), hα 30 (ne_ran hk e30), hα 1030 (ne_ran hk e30)]
  first | rw [if_neg e30, if_neg e30] | rw [if_neg e30]
 ·rfl
 ·rfl
 ·rfl
 ·rfl
 ·rfl
 ·rfl
 ·have e0 : L9 13 = true := act_lt hact dc
  show row (α' 13) 136 #[vU 0, vU 0] = row (α 13) 136 #[vU 0, vU 0]
  simp only [hα 13 (ne_ran hk e0)]
 ·have e0 : L9 20 = true := act_lt hact dc
  show row (α' 20) 270 #[vU 0, vU 1, bF, bF, bF] = row (α 20) 270 #[vU 0, vU 1, bF, bF, bF]
  simp only [hα 20 (ne_ran hk e0)]
 ·have e0 : L9 24 = true := act_lt hact dc
  show row (α' 24) 54 #[vF 134 (α' 13), vI l3, vF 267 (α' 20), vI l3] = row (α 24) 54 #[vF 134 (α 13), vI l3, vF 267 (α 20), vI l3]
  simp only [hα 13 (ne_ran hk (hcl 24 e0 13 dc)), hα 20 (ne_ran hk (hcl 24 e0 20 dc)), hα 24 (ne_ran hk e0)]
 ·have e0 : L9 26 = true := act_lt hact dc
  show row (α' 26) 57 #[vS (α' 24) 1 1, v8 kd, bF, bF] = row (α 26) 57 #[vS (α 24) 1 1, v8 kd, bF, bF]
  simp only [hα 24 (ne_ran hk (hcl 26 e0 24 dc)), hα 26 (ne_ran hk e0)]
 ·have e0 : L9 29 = true := act_lt hact dc
  show row (α' 29) 61 #[vF 42 (α' 26), vI l0] = row (α 29) 61 #[vF 42 (α 26), vI l0]
  simp only [hα 26 (ne_ran hk (hcl 29 e0 26 dc)), hα 29 (ne_ran hk e0)]

set_option maxRecDepth 100000 in
set_option maxHeartbeats 4000000 in
theorem fob (ini : Nat) (kd : Int) (dbx ib tr lx bb kb : Nat) (l0 l3 : Int) (so : Option Addr) (kl kcp : Nat) (clv v0 : Value) {A0 A1 A2 A3 A4 A5 A6 A7 A8 A9 AA AB AC AD AE AF AG AH AI AJ AK AL AM AN AO AP AQ AR AS AT AU AV AW AX AY AZ B0 B2 B3 B4 B5 B6 B7 B8 B9 BA BB BC BD BE BF BG BH BI BJ BK BL BM BN BO BP BQ BR BS BT BU BV BW BX BY BZ C0 C1 C2 C3 C4 C5 C6 C7 C8 C9 CA CB CC CD CE CF CG CH CI CJ CK CL CM CN CO CP CQ CR CS CT CU CV CW CX CY CZ E0 E1 E2 E3 E4 E5 E6 E7 E8 E9 EA EB EC ED EE EF EG EH EI EJ EK EL EM EN EO EP EQ ER ES ET EU EV EW EX EY EZ F0 F1 F2 F3 F4 F5 F6 : Value} (w0 w : World) (X : Nat → Obj → Prop) (Q : Exit → Act → World → Prop) (hB : HuB ini kd dbx ib tr lx bb kb l0 l3 so kl kcp clv v0 w0 X Q) (hO : Own w0 w [row (ini) 57 #[vS dbx 1 1, v8 kd, bF, bF], row (ib) 136 #[vU 0, vU 0], row (tr) 31 #[vU 0, vU 1], row (lx) 28 #[vI l0], row (bb) 47 #[vF 134 ib, vI l3], row (kb) 72 #[.slice so kl kcp, clv]] X) (hk9 : kl ≤ 5000) :
  Code.wp Tryd.prog restR11 Q ⟨#[v0, A0, vP ini, A1, A2, vP lx, A3, A4, vP bb, vP ib, vP tr, vP kb, A5, A6, A7, A8, A9, AA, AB, AC, AD, AE, AF, AG, AH, AI, AJ, AK, AL, AM, AN, AO, AP, AQ, AR, AS, AT, AU, AV, AW, AX, AY, AZ, B0, B2, B3, B4, B5, B6, B7, B8, B9, BA, BB, BC, BD, BE, BF, BG, BH, BI, BJ, BK, BL, BM, BN, BO, BP, BQ, BR, BS, BT, BU, BV, BW, BX, BY, BZ, C0, C1, C2, C3, C4, C5, C6, C7, C8, C9, CA, CB, CC, CD, CE, CF, CG, CH, CI, CJ, CK, CL, CM, CN, CO, CP, CQ, CR, CS, CT, CU, CV, CW, CX, CY, CZ, E0, E1, E2, E3, E4, E5, E6, E7, E8, E9, EA, EB, EC, ED, EE, EF, EG, EH, EI, EJ, EK, EL, EM, EN, EO, EP, EQ, ER, ES, ET, EU, EV, EW, EX, EY, EZ, F0, F1, F2, F3, F4, F5, F6], []⟩ w := by
 have HB := Lib.hid hB
 clear hB
 have hmk : ∀ w : World, (Instr.makeSlice 40 (v6 0) (v6 ((kl : Int) + 1))).run Tryd.prog w = .ok (vS w.heap.size 0 (kl + 1)) (w.alloc (.cells (full stmZ [] (kl + 1)) 61)) := fun w => makeRoom (kl + 1) (by omega) w
 have hm9 : (kl : Int) ≤ 5000 := by omega
 have hm8 : (0 : Int) ≤ (kl : Int) := by omega
 have hw1 : IntKind.i64.wrap (1 + (kl : Int)) = ((kl + 1 : Nat) : Int) := by rw [IntKind.wrap_i64]; omega
 obtain ⟨c8, hc8⟩ : ∃ c, c = restR13 := ⟨_, rfl⟩
 have HC8 := Lib.hid hc8
 simp only [restR13, Tryd.f41, Option.getD_some, cutC] at hc8
 simp only [restR11, Tryd.f41, Option.getD_some, cutC]
 rw [← hc8]
 clear hc8
 obtain ⟨aS, aT, aU, aV, aW, aX, -⟩ := hO.k4 0 rfl
 obtain ⟨aA, aB, aC, aD, -⟩ := hO.k2 1 rfl
 obtain ⟨aE, aF, aG, aH, -⟩ := hO.k2 2 rfl
 obtain ⟨aI, aJ, aK, -⟩ := hO.k1 3 rfl
 obtain ⟨aL, aY, aM, aN, -⟩ := hO.k2 4 rfl
 obtain ⟨aO, aP, aQ, aR, -⟩ := hO.k2 5 rfl
 have HO := Lib.hid hO
 clear hO
 go_wp2_with (first | (with_reducible refine Own.stay (fn := Tryd.f41) ?_) | fail)
 try with_reducible refine Own.Stay.mk ?_
 have hO := HO.out
 clear HO aS aT aU aV aW aX aA aB aC aD aE aF aG aH aI aJ aK aL aY aM aN aO aP aQ aR
 generalize hW : World.alloc _ _ = W2
 have hN : Own w0 W2 [row (w.heap.size) 61 (full stmZ [] (kl + 1)), row (ini) 57 #[vS dbx 1 1, v8 kd, bF, bF], row (ib) 136 #[vU 0, vU 0], row (tr) 31 #[vU 0, vU 1], row (lx) 28 #[vI l0], row (bb) 47 #[vF 134 ib, vI l3], row (kb) 72 #[.slice so kl kcp, clv]] X := by
  rw [← hW]
  exact (hO).alloc' _ (w.heap.size) (by simp)
 clear hW hO
 generalize w.heap.size = B1 at hN ⊢
 have hO := hN
 clear hN
 have st9 := rFOB12_st ini kd dbx ib tr lx bb kb l0 l3 so kl kcp clv B1
 let R9 := rFOB12R ini kd dbx ib tr lx bb kb l0 l3 so kl kcp clv B1
 refine wp_region_own (e := rFOB12E ini kd dbx ib tr lx bb kb l0 l3 so kl kcp clv B1) (anc := rFOB12Anc) (G := (fun L9 α u9 => OwnF w0 u9 (act rFOB12Cnt 7 L9) (rFOB12R ini kd dbx ib tr lx bb kb l0 l3 so kl kcp clv B1 L9 α) X)) (by kernel_rfl) (by kernel_rfl) (by kernel_rfl) (by kernel_rfl) (rFOB12_he ini kd dbx ib tr lx bb kb l0 l3 so kl kcp clv B1) ?_ (RunsAll.all ?_) ?_
 ·have hp : ∀ i, act rFOB12Cnt 7 (fun _ => false) i → i ∈ [999, 1999, 2999, 3999, 4999, 5999, 6999] := by
   intro i hi
   have h9 : i % 1000 = 999 := by
    by_cases h : i % 1000 = 999
    ·exact h
    ·exact absurd (act_lt hi h) (by simp)
   unfold act at hi
   rw [if_pos h9] at hi
   simp only [List.mem_cons, List.not_mem_nil, or_false]
   omega
  refine hO.drew.family (fun i hi => ?_) (fun i j hi hj hij => ?_)
  ·have := hp i hi
   simp only [List.mem_cons, List.not_mem_nil, or_false] at this
   rcases this with rfl | rfl | rfl | rfl | rfl | rfl | rfl <;> rfl
  ·have h1 := hp i hi
   have h2 := hp j hj
   simp only [List.mem_cons, List.not_mem_nil, or_false] at h1 h2
   omega
 ·refine ⟨?_, ?_, ?_, ?_, ?_, ?_, ?_, ?_, ?_, ?_, ?_, ?_, ?_, ?_, ?_, ?_, ?_, ?_, ?_, ?_, ?_, ?_, ?_, ?_, ?_, ?_, ?_, ?_, ?_, ?_, ?_, ?_, trivial⟩
  ·refine pur st9 rfl rfl fun L9 α a9 u9 K9 hL hcl hA hG hS h0 h1 hK => ?_
   replace hL : L9 0 = false := hL
   have q15 : a9.tmps[15]? = some (vS B1 0 (kl + 1)) := (h1 15 31 (by kernel_rfl) (by
    cases hz : L9 31 with
    | false => rfl
    | true =>
     have := hcl 31 hz 0 dc
     rw [hL] at this
     cases this)).trans rfl
   have s15 := Rega.eval_of q15
   go_simp
   exact hK
  ·refine pur st9 rfl rfl fun L9 α a9 u9 K9 hL hcl hA hG hS h0 h1 hK => ?_
   have s5 := eS (vP lx) ((h0 5 (by kernel_rfl)).trans rfl)
   have e0 : R9 L9 α 4999 = row (lx) 28 #[vI l0] := rfl
   have hr := hG.rowAt 4999 (act_base 4999 rfl) e0
   have c0 : u9.cell? ⟨lx, 0, none⟩ = some (vI l0) := hr.cell rfl
   clear hr e0
   go_simp
   exact hK
  ·refine pur st9 rfl rfl fun L9 α a9 u9 K9 hL hcl hA hG hS h0 h1 hK => ?_
   have s2 := eS (vP ini) ((h0 2 (by kernel_rfl)).trans rfl)
   go_simp
   exact hK
  ·refine pur st9 rfl rfl fun L9 α a9 u9 K9 hL hcl hA hG hS h0 h1 hK => ?_
   have s90 := eS (vP ini) (hS 2 90 dc rfl (ltd 157 rfl))
   go_simp
   exact hK
  ·refine pur st9 rfl rfl fun L9 α a9 u9 K9 hL hcl hA hG hS h0 h1 hK => ?_
   have s91 := eS (vP ini) (hS 3 91 dc rfl (ltd 157 rfl))
   go_simp
   exact hK
  ·refine pur st9 rfl rfl fun L9 α a9 u9 K9 hL hcl hA hG hS h0 h1 hK => ?_
   have s92 := eS (.pointer (some ⟨ini, 1, none⟩)) (hS 4 92 dc rfl (ltd 157 rfl))
   have e0 : R9 L9 α 1999 = row (ini) 57 #[vS dbx 1 1, v8 kd, bF, bF] := rfl
   have hr := hG.rowAt 1999 (act_base 1999 rfl) e0
   have c0 : u9.cell? ⟨ini, 1, none⟩ = some (v8 kd) := hr.cell rfl
   clear hr e0
   go_simp
   exact hK
  ·refine pur st9 rfl rfl fun L9 α a9 u9 K9 hL hcl hA hG hS h0 h1 hK => ?_
   have s8 := eS (vP bb) ((h0 8 (by kernel_rfl)).trans rfl)
   go_simp
   exact hK
  ·refine pur st9 rfl rfl fun L9 α a9 u9 K9 hL hcl hA hG hS h0 h1 hK => ?_
   have s94 := eS (.pointer (some ⟨bb, 1, none⟩)) (hS 6 94 dc rfl (ltd 157 rfl))
   have e0 : R9 L9 α 5999 = row (bb) 47 #[vF 134 ib, vI l3] := rfl
   have hr := hG.rowAt 5999 (act_base 5999 rfl) e0
   have c0 : u9.cell? ⟨bb, 1, none⟩ = some (vI l3) := hr.cell rfl
   clear hr e0
   go_simp
   exact hK
  ·refine pur st9 rfl rfl fun L9 α a9 u9 K9 hL hcl hA hG hS h0 h1 hK => ?_
   have s9 := eS (vP ib) ((h0 9 (by kernel_rfl)).trans rfl)
   go_simp
   exact hK
  ·refine pur st9 rfl rfl fun L9 α a9 u9 K9 hL hcl hA hG hS h0 h1 hK => ?_
   have s96 := eS (vP ib) (hS 8 96 dc rfl (ltd 157 rfl))
   go_simp
   exact hK
  ·refine pur st9 rfl rfl fun L9 α a9 u9 K9 hL hcl hA hG hS h0 h1 hK => ?_
   have s97 := eS (vP ib) (hS 9 97 dc rfl (ltd 157 rfl))
   go_simp
   exact hK
  ·refine pur st9 rfl rfl fun L9 α a9 u9 K9 hL hcl hA hG hS h0 h1 hK => ?_
   have s98 := eS (vP ib) (hS 10 98 dc rfl (ltd 157 rfl))
   have e0 : R9 L9 α 2999 = row (ib) 136 #[vU 0, vU 0] := rfl
   have hr := hG.rowAt 2999 (act_base 2999 rfl) e0
   have c0 : u9.cell? ⟨ib, 0, none⟩ = some (vU 0) := hr.cell rfl
   have c1 : u9.cell? ⟨ib, 1, none⟩ = some (vU 0) := hr.cell rfl
   clear hr e0
   go_simp
   exact hK
  ·refine pur st9 rfl rfl fun L9 α a9 u9 K9 hL hcl hA hG hS h0 h1 hK => ?_
   have q99 : a9.tmps[99]? = some (.agg #[vU 0, vU 0]) := hS 11 99 dc rfl (ltd 157 rfl)
   have s99 := Rega.eval_of q99
   go_simp
   exact hK
  ·intro L9 α a9 u9 K9 hL hcl hA hG hS h0 h1 hK
   replace hL : L9 13 = false := hL
   have q100 : a9.tmps[100]? = some (.agg #[vU 0, vU 0]) := hS 12 100 dc rfl (ltd 157 rfl)
   have s100 := Rega.eval_of q100
   go_simp
   exact hK _ (fun j => if j = 13 then u9.heap.size else α j) _ (fun j hj => if_neg (fun e => hj (by rw [e]))) rfl (step_alloc st9 hL hcl rfl rfl dc _ rfl hG)
  ·refine pur st9 rfl rfl fun L9 α a9 u9 K9 hL hcl hA hG hS h0 h1 hK => ?_
   have s101 := eS (vP (α 13)) (hS 13 101 dc rfl (ltd 157 rfl))
   go_simp
   exact hK
  ·refine pur st9 rfl rfl fun L9 α a9 u9 K9 hL hcl hA hG hS h0 h1 hK => ?_
   have q95 : a9.tmps[95]? = some (.agg #[vI l3]) := hS 7 95 dc rfl (ltd 157 rfl)
   have s95 := Rega.eval_of q95
   have q102 : a9.tmps[102]? = some (vF 134 (α 13)) := hS 14 102 dc rfl (ltd 157 rfl)
   have s102 := Rega.eval_of q102
   go_simp
   exact hK
  ·refine pur st9 rfl rfl fun L9 α a9 u9 K9 hL hcl hA hG hS h0 h1 hK => ?_
   have s8 := eS (vP bb) ((h0 8 (by kernel_rfl)).trans rfl)
   go_simp
   exact hK
  ·refine pur st9 rfl rfl fun L9 α a9 u9 K9 hL hcl hA hG hS h0 h1 hK => ?_
   have s104 := eS (.pointer (some ⟨bb, 1, none⟩)) (hS 16 104 dc rfl (ltd 157 rfl))
   have e0 : R9 L9 α 5999 = row (bb) 47 #[vF 134 ib, vI l3] := rfl
   have hr := hG.rowAt 5999 (act_base 5999 rfl) e0
   have c0 : u9.cell? ⟨bb, 1, none⟩ = some (vI l3) := hr.cell rfl
   clear hr e0
   go_simp
   exact hK
  ·refine pur st9 rfl rfl fun L9 α a9 u9 K9 hL hcl hA hG hS h0 h1 hK => ?_
   have s10 := eS (vP tr) ((h0 10 (by kernel_rfl)).trans rfl)
   have e0 : R9 L9 α 3999 = row (tr) 31 #[vU 0, vU 1] := rfl
   have hr := hG.rowAt 3999 (act_base 3999 rfl) e0
   have c0 : u9.cell? ⟨tr, 0, none⟩ = some (vU 0) := hr.cell rfl
   have c1 : u9.cell? ⟨tr, 1, none⟩ = some (vU 1) := hr.cell rfl
   clear hr e0
   go_simp
   exact hK
  ·refine pur st9 rfl rfl fun L9 α a9 u9 K9 hL hcl hA hG hS h0 h1 hK => ?_
   have q106 : a9.tmps[106]? = some (.agg #[vU 0, vU 1]) := hS 18 106 dc rfl (ltd 157 rfl)
   have s106 := Rega.eval_of q106
   go_simp
   exact hK
  ·intro L9 α a9 u9 K9 hL hcl hA hG hS h0 h1 hK
   replace hL : L9 20 = false := hL
   have q107 : a9.tmps[107]? = some (.agg #[vU 0, vU 1, bF, bF, bF]) := hS 19 107 dc rfl (ltd 157 rfl)
   have s107 := Rega.eval_of q107
   go_simp
   exact hK _ (fun j => if j = 20 then u9.heap.size else α j) _ (fun j hj => if_neg (fun e => hj (by rw [e]))) rfl (step_alloc st9 hL hcl rfl rfl dc _ rfl hG)
  ·refine pur st9 rfl rfl fun L9 α a9 u9 K9 hL hcl hA hG hS h0 h1 hK => ?_
   have s108 := eS (vP (α 20)) (hS 20 108 dc rfl (ltd 157 rfl))
   go_simp
   exact hK
  ·refine pur st9 rfl rfl fun L9 α a9 u9 K9 hL hcl hA hG hS h0 h1 hK => ?_
   have q105 : a9.tmps[105]? = some (.agg #[vI l3]) := hS 17 105 dc rfl (ltd 157 rfl)
   have s105 := Rega.eval_of q105
   have q109 : a9.tmps[109]? = some (vF 267 (α 20)) := hS 21 109 dc rfl (ltd 157 rfl)
   have s109 := Rega.eval_of q109
   go_simp
   exact hK
  ·refine pur st9 rfl rfl fun L9 α a9 u9 K9 hL hcl hA hG hS h0 h1 hK => ?_
   have q103 : a9.tmps[103]? = some (.agg #[vF 134 (α 13), vI l3]) := hS 15 103 dc rfl (ltd 157 rfl)
   have s103 := Rega.eval_of q103
   have q110 : a9.tmps[110]? = some (.agg #[vF 267 (α 20), vI l3]) := hS 22 110 dc rfl (ltd 157 rfl)
   have s110 := Rega.eval_of q110
   go_simp
   exact hK
  ·intro L9 α a9 u9 K9 hL hcl hA hG hS h0 h1 hK
   replace hL : L9 24 = false := hL
   have q111 : a9.tmps[111]? = some (.agg #[vF 134 (α 13), vI l3, vF 267 (α 20), vI l3]) := hS 23 111 dc rfl (ltd 157 rfl)
   have s111 := Rega.eval_of q111
   go_simp
   exact hK _ (fun j => if j = 24 then u9.heap.size else α j) _ (fun j hj => if_neg (fun e => hj (by rw [e]))) rfl (step_alloc st9 hL hcl rfl rfl dc _ rfl hG)
  ·refine pur st9 rfl rfl fun L9 α a9 u9 K9 hL hcl hA hG hS h0 h1 hK => ?_
   have q93 : a9.tmps[93]? = some (v8 kd) := hS 5 93 dc rfl (ltd 157 rfl)
   have s93 := Rega.eval_of q93
   have q112 : a9.tmps[112]? = some (vS (α 24) 1 1) := hS 24 112 dc rfl (ltd 157 rfl)
   have s112 := Rega.eval_of q112
   go_simp
   exact hK
  ·intro L9 α a9 u9 K9 hL hcl hA hG hS h0 h1 hK
   replace hL : L9 26 = false := hL
   have q113 : a9.tmps[113]? = some (.agg #[vS (α 24) 1 1, v8 kd, bF, bF]) := hS 25 113 dc rfl (ltd 157 rfl)
   have s113 := Rega.eval_of q113
   go_simp
   exact hK _ (fun j => if j = 26 then u9.heap.size else α j) _ (fun j hj => if_neg (fun e => hj (by rw [e]))) rfl (step_alloc st9 hL hcl rfl rfl dc _ rfl hG)
  ·refine pur st9 rfl rfl fun L9 α a9 u9 K9 hL hcl hA hG hS h0 h1 hK => ?_
   have s114 := eS (vP (α 26)) (hS 26 114 dc rfl (ltd 157 rfl))
   go_simp
   exact hK
  ·refine pur st9 rfl rfl fun L9 α a9 u9 K9 hL hcl hA hG hS h0 h1 hK => ?_
   have q89 : a9.tmps[89]? = some (.agg #[vI l0]) := hS 1 89 dc rfl (ltd 157 rfl)
   have s89 := Rega.eval_of q89
   have q115 : a9.tmps[115]? = some (vF 42 (α 26)) := hS 27 115 dc rfl (ltd 157 rfl)
   have s115 := Rega.eval_of q115
   go_simp
   exact hK
  ·intro L9 α a9 u9 K9 hL hcl hA hG hS h0 h1 hK
   replace hL : L9 29 = false := hL
   have q116 : a9.tmps[116]? = some (.agg #[vF 42 (α 26), vI l0]) := hS 28 116 dc rfl (ltd 157 rfl)
   have s116 := Rega.eval_of q116
   go_simp
   exact hK _ (fun j => if j = 29 then u9.heap.size else α j) _ (fun j hj => if_neg (fun e => hj (by rw [e]))) rfl (step_alloc st9 hL hcl rfl rfl dc _ rfl hG)
  ·intro L9 α a9 u9 K9 hL hcl hA hG hS h0 h1 hK
   replace hL : L9 30 = false := hL
   have q88 : a9.tmps[88]? = some (vS B1 0 (kl + 1)) := hS 0 88 dc rfl (ltd 157 rfl)
   have s88 := Rega.eval_of q88
   have q117 : a9.tmps[117]? = some (vS (α 29) 1 1) := hS 29 117 dc rfl (ltd 157 rfl)
   have s117 := Rega.eval_of q117
   simp only [Region.wanted, if_true]
   have e0 : R9 L9 α 999 = row (B1) 61 (full stmZ [] (kl + 1)) := by
    show rFOB12T999 ini kd dbx ib tr lx bb kb l0 l3 so kl kcp clv B1 L9 α = _
    unfold rFOB12T999
    rw [if_neg (by rw [hL]; decide)]
   have e1 : R9 L9 α 29 = row (α 29) 61 #[vF 42 (α 26), vI l0] := rfl
   have hM : ∀ i, i ∈ [999, 29] → act rFOB12Cnt 7 L9 i := by
    intro i hi
    simp only [List.mem_cons, List.not_mem_nil, or_false] at hi
    rcases hi with rfl | rfl
    ·exact act_base 999 rfl
    ·exact act_new 29 rfl (hA 29 dc)
   have hP : Own w0 u9 [row (B1) 61 (full stmZ [] (kl + 1)), row (α 29) 61 #[vF 42 (α 26), vI l0]] _ := (hG.pick [999, 29] dc hM).conv (by
    show [R9 L9 α 999, R9 L9 α 29] = _
    rw [e0, e1])
   clear e0 e1 hM
   obtain ⟨i9, hi9, z1, z2, z3⟩ := info_parts infoStm
   refine wp_append_full (Operand.tmp 88) (Operand.tmp 117) 40 rfl 61 i9 (.agg stmZ) 2 24 Tryd.underlying40 hi9 z1 z2 z3 rfl dc hP s88 s117 (by first | rfl | assumption | (simp; done) | (simp; omega)) (by first | rfl | assumption | omega) rfl (oneAll rfl) (by first | decide | omega | (unfold maxLen; omega)) (by first | decide | omega | (unfold maxLen; omega)) ?_
   intro b0 b1 u1 hQ
   obtain ⟨α', hα'⟩ : ∃ α' : Rega.Atoms, α' = (fun j => if j = 30 then b0 else if j = 1030 then b1 else α j) := ⟨_, rfl⟩
   have f0 : R9 (Rega.ran L9 30) α' 999 = row (α' 30) 61 (full stmZ ([] ++ [vF 42 (α' 26), vI l0]) (α' 1030)) := by
    show rFOB12T999 ini kd dbx ib tr lx bb kb l0 l3 so kl kcp clv B1 (Rega.ran L9 30) α' = _
    unfold rFOB12T999
    rw [if_pos (show Rega.ran L9 30 30 = true from rfl)]
   have f1 : R9 (Rega.ran L9 30) α' 29 = row (α' 29) 61 #[vF 42 (α' 26), vI l0] := rfl
   have hα : ∀ j, j % 1000 ≠ 30 → α' j = α j := fun j hj => by rw [hα']; simp only []; rw [if_neg (by omega), if_neg (by omega)]
   have hb0 : α' 30 = b0 := by rw [hα']; rfl
   have hb1 : α' 1030 = b1 := by rw [hα']; rfl
   have ha26 : α' 26 = α 26 := hα 26 dc
   have ha29 : α' 29 = α 29 := hα 29 dc
   refine hK _ α' _ hα ?_ (step_call (st9) hL hcl hα [999, 29] [999, 29] dc dc dc (M := _) ?_ hG hQ)
   ·show _ = (vS (α' 30) 1 (1 + α' 1030) : Value)
    simp only [hb0, hb1]
   ·show [R9 (Rega.ran L9 30) α' 999, R9 (Rega.ran L9 30) α' 29] = _
    rw [f0, f1]
    simp only [hb0, hb1, ha26, ha29]
    try rfl
  ·refine pur st9 rfl rfl fun L9 α a9 u9 K9 hL hcl hA hG hS h0 h1 hK => ?_
   have q118 : a9.tmps[118]? = some (vS (α 30) 1 (1 + α 1030)) := hS 30 118 dc rfl (ltd 157 rfl)
   have s118 := Rega.eval_of q118
   go_simp
   exact hK
 clear st9
 intro α u hG
 have e0 : R9 (fun k => decide (k < 32)) α 999 = row (α 30) 61 (full stmZ ([] ++ [vF 42 (α 26), vI l0]) (α 1030)) := by
  show rFOB12T999 ini kd dbx ib tr lx bb kb l0 l3 so kl kcp clv B1 (fun k => decide (k < 32)) α = _
  unfold rFOB12T999
  rw [if_pos dc]
 have e1 : R9 (fun k => decide (k < 32)) α 1999 = row (ini) 57 #[vS dbx 1 1, v8 kd, bF, bF] := rfl
 have e2 : R9 (fun k => decide (k < 32)) α 2999 = row (ib) 136 #[vU 0, vU 0] := rfl
 have e3 : R9 (fun k => decide (k < 32)) α 3999 = row (tr) 31 #[vU 0, vU 1] := rfl
 have e4 : R9 (fun k => decide (k < 32)) α 4999 = row (lx) 28 #[vI l0] := rfl
 have e5 : R9 (fun k => decide (k < 32)) α 5999 = row (bb) 47 #[vF 134 ib, vI l3] := rfl
 have e6 : R9 (fun k => decide (k < 32)) α 6999 = row (kb) 72 #[.slice so kl kcp, clv] := rfl
 have e7 : R9 (fun k => decide (k < 32)) α 13 = row (α 13) 136 #[vU 0, vU 0] := rfl
 have e8 : R9 (fun k => decide (k < 32)) α 20 = row (α 20) 270 #[vU 0, vU 1, bF, bF, bF] := rfl
 have e9 : R9 (fun k => decide (k < 32)) α 24 = row (α 24) 54 #[vF 134 (α 13), vI l3, vF 267 (α 20), vI l3] := rfl
 have e10 : R9 (fun k => decide (k < 32)) α 26 = row (α 26) 57 #[vS (α 24) 1 1, v8 kd, bF, bF] := rfl
 have e11 : R9 (fun k => decide (k < 32)) α 29 = row (α 29) 61 #[vF 42 (α 26), vI l0] := rfl
 have hO : Own w0 u [row (α 30) 61 (full stmZ ([] ++ [vF 42 (α 26), vI l0]) (α 1030)), row (ini) 57 #[vS dbx 1 1, v8 kd, bF, bF], row (ib) 136 #[vU 0, vU 0], row (tr) 31 #[vU 0, vU 1], row (lx) 28 #[vI l0], row (bb) 47 #[vF 134 ib, vI l3], row (kb) 72 #[.slice so kl kcp, clv], row (α 13) 136 #[vU 0, vU 0], row (α 20) 270 #[vU 0, vU 1, bF, bF, bF], row (α 24) 54 #[vF 134 (α 13), vI l3, vF 267 (α 20), vI l3], row (α 26) 57 #[vS (α 24) 1 1, v8 kd, bF, bF], row (α 29) 61 #[vF 42 (α 26), vI l0]] X := (hG.list [999, 1999, 2999, 3999, 4999, 5999, 6999, 13, 20, 24, 26, 29] dc (act_all dc)).conv (by
  show [R9 (fun k => decide (k < 32)) α 999, R9 (fun k => decide (k < 32)) α 1999, R9 (fun k => decide (k < 32)) α 2999, R9 (fun k => decide (k < 32)) α 3999, R9 (fun k => decide (k < 32)) α 4999, R9 (fun k => decide (k < 32)) α 5999, R9 (fun k => decide (k < 32)) α 6999, R9 (fun k => decide (k < 32)) α 13, R9 (fun k => decide (k < 32)) α 20, R9 (fun k => decide (k < 32)) α 24, R9 (fun k => decide (k < 32)) α 26, R9 (fun k => decide (k < 32)) α 29] = _
  rw [e0, e1, e2, e3, e4, e5, e6, e7, e8, e9, e10, e11])
 clear hG e0 e1 e2 e3 e4 e5 e6 e7 e8 e9 e10 e11 R9
 generalize hfr : Rega.frameAt _ _ _ _ _ = fr
 have hdf : fr = ⟨#[v0, A0, vP ini, A1, A2, vP lx, A3, A4, vP bb, vP ib, vP tr, vP kb, A5, A6, A7, vS (α 30) 1 (1 + α 1030), A9, AA, AB, AC, AD, AE, AF, AG, AH, AI, AJ, AK, AL, AM, AN, AO, AP, AQ, AR, AS, AT, AU, AV, AW, AX, AY, AZ, B0, B2, B3, B4, B5, B6, B7, B8, B9, BA, BB, BC, BD, BE, BF, BG, BH, BI, BJ, BK, BL, BM, BN, BO, BP, BQ, BR, BS, BT, BU, BV, BW, BX, BY, BZ, C0, C1, C2, vP kb, vP kb, vP kb, .slice so kl kcp, v6 (kl : Int), v6 ((kl : Int) + 1), vS B1 0 (kl + 1), vS B1 0 (kl + 1), .agg #[vI l0], vP ini, vP ini, .pointer (some ⟨ini, 1, none⟩), v8 kd, .pointer (some ⟨bb, 1, none⟩), .agg #[vI l3], vP ib, vP ib, vP ib, .agg #[vU 0, vU 0], .agg #[vU 0, vU 0], vP (α 13), vF 134 (α 13), .agg #[vF 134 (α 13), vI l3], .pointer (some ⟨bb, 1, none⟩), .agg #[vI l3], .agg #[vU 0, vU 1], .agg #[vU 0, vU 1, bF, bF, bF], vP (α 20), vF 267 (α 20), .agg #[vF 267 (α 20), vI l3], .agg #[vF 134 (α 13), vI l3, vF 267 (α 20), vI l3], vS (α 24) 1 1, .agg #[vS (α 24) 1 1, v8 kd, bF, bF], vP (α 26), vF 42 (α 26), .agg #[vF 42 (α 26), vI l0], vS (α 29) 1 1, vS (α 30) 1 (1 + α 1030), E5, E6, E7, E8, E9, EA, EB, EC, ED, EE, EF, EG, EH, EI, EJ, EK, EL, EM, EN, EO, EP, EQ, ER, ES, ET, EU, EV, EW, EX, EY, EZ, F0, F1, F2, F3, F4, F5, F6], []⟩ := by rw [← hfr]; kernel_rfl
 clear hfr
 subst hdf
 generalize α 13 = nd3 at hO ⊢
 generalize α 20 = nd4 at hO ⊢
 generalize α 24 = nd5 at hO ⊢
 generalize α 26 = nd6 at hO ⊢
 generalize α 29 = nd7 at hO ⊢
 generalize α 30 = nd8 at hO ⊢
 generalize α 1030 = nd9 at hO ⊢
 clear α
 replace hO : Own w0 u [row (nd8) 61 (full stmZ [vF 42 nd6, vI l0] (nd9)), row (ini) 57 #[vS dbx 1 1, v8 kd, bF, bF], row (ib) 136 #[vU 0, vU 0], row (tr) 31 #[vU 0, vU 1], row (lx) 28 #[vI l0], row (bb) 47 #[vF 134 ib, vI l3], row (kb) 72 #[.slice so kl kcp, clv], row (nd3) 136 #[vU 0, vU 0], row (nd4) 270 #[vU 0, vU 1, bF, bF, bF], row (nd5) 54 #[vF 134 nd3, vI l3, vF 267 nd4, vI l3], row (nd6) 57 #[vS nd5 1 1, v8 kd, bF, bF], row (nd7) 61 #[vF 42 nd6, vI l0]] X := hO
 obtain ⟨aA, aB, aZ, aa, aC, aD, -⟩ := hO.k4 1 rfl
 obtain ⟨aE, aF, aG, aH, -⟩ := hO.k2 2 rfl
 obtain ⟨aI, ab, aJ, aK, -⟩ := hO.k2 3 rfl
 obtain ⟨aL, aM, aN, -⟩ := hO.k1 4 rfl
 obtain ⟨aO, aP, aQ, aR, -⟩ := hO.k2 5 rfl
 obtain ⟨ac, ad, ae, af, -⟩ := hO.k2 6 rfl
 obtain ⟨ag, ah, ai, aj, -⟩ := hO.k2 7 rfl
 obtain ⟨ak, al, am, an, ao, ap, aq, -⟩ := hO.k5 8 rfl
 obtain ⟨ar, au, av, aw, ax, ay, -⟩ := hO.k4 9 rfl
 obtain ⟨az, bA, bB, bC, bD, bE, -⟩ := hO.k4 10 rfl
 obtain ⟨bG, bH, bI, bJ, -⟩ := hO.k2 11 rfl
 have HO := Lib.hid hO
 clear hO
 go_wp2_with (first | (with_reducible refine Own.stay (fn := Tryd.f41) ?_) | fail)
 try with_reducible refine Own.Stay.mk ?_
 have hO := HO.out
 clear HO aA aB aZ aa aC aD aE aF aG aH aI ab aJ aK aL aM aN aO aP aQ aR ac ad ae af ag ah ai aj ak al am an ao ap aq ar au av aw ax ay az bA bB bC bD bE bG bH bI bJ
 rw [HC8.out]
 have hM : Own w0 u [row (ini) 57 #[vS dbx 1 1, v8 kd, bF, bF], row (ib) 136 #[vU 0, vU 0], row (tr) 31 #[vU 0, vU 1], row (kb) 72 #[.slice so kl kcp, clv], row (nd8) 61 (full stmZ [vF 42 nd6, vI l0] nd9), row (nd6) 57 #[vS nd5 1 1, v8 kd, bF, bF], row (nd5) 54 #[vF 134 nd3, vI l3, vF 267 nd4, vI l3], row (nd3) 136 #[vU 0, vU 0], row (nd4) 270 #[vU 0, vU 1, bF, bF, bF]] X := (hO.sub [1, 2, 3, 6, 0, 10, 9, 7, 8] dc).conv rfl
 exact HB.out nd8 nd9 nd6 nd5 nd3 nd4 hM
end Go.Proofs.YtikopplofkemlaaDoor.Use
namespace Go.Proofs.YtikopplofkemlaaDoor.Use
open Go.ChangeShapes Go.WideShapes Go.ChangeAt Go.RowKit Go.Sort Own
set_option linter.unusedVariables false

set_option maxRecDepth 100000 in
set_option maxHeartbeats 4000000 in
theorem foh0 (pb : Nat) (PC : Array Value) (sb c : Nat) (nm : ByteArray) (mp k ms : Nat) (MC : Array Value) (pt : Nat) (QC : Array Value) (mu cs : Nat) (KC : Array Value) (ini : Nat) (kd : Int) (dbx ib bx : Nat) (l0 l3 lv : Int) (kb tb0 m : Nat) (ad : Nat → Nat) (lc : Nat → Int) (w0 w : World) (X : Nat → Obj → Prop) (Post : Ending → World → Prop) (hB : Hu pb PC sb c nm mp k ms MC pt QC mu cs KC ini kd dbx ib bx l0 l3 lv m ad lc w0 X (bodyPost Tryd.prog Tryd.f41 Post)) (hO : Own w0 w [row (pb) 252 PC, row (sb) 260 (full symZ (symL [sy nm 0]) c), ((mp, .map #[] k) : Rw), row (ms) 99 MC, row (pt) 107 QC, ((mu, .map (uA ([])) (uN ([]))) : Rw), row (cs) 99 KC, row (ini) 57 #[vS dbx 1 1, v8 kd, bF, bF], row (dbx) 54 #[vF 134 ib, vI l3, .nilIface, vI 0], row (ib) 136 #[vU 0, vU 0], row (bx) 61 #[vF 110 kb, vI lv], row (kb) 72 #[vS tb0 m m, vI 0], row (tb0) 61 (full stmZ (stL (dtL ad lc) (List.range m)) 0)] X) (hk66 : PC[66]? = some (vU 0)) (hk32 : PC[32]? = some (bF)) (hk104 : PC[104]? = some (vP cs)) (hk106 : PC[106]? = some (vS sb 1 (1 + c))) (hkind : KC[15]? = some (v8 8)) (hcg : KC[5]? = some (vN)) (hnm : nm.size ≤ 65536) (hm : m ≤ 4096) (hg0 : w0.cell? ⟨0, 0, none⟩ = some (vU 4294967295)) (hg1 : w0.cell? ⟨0, 1, none⟩ = some (vU 4294967295)) :
  Calls Tryd.prog 41 #[vP pb, .agg #[vI l0], vP ini, vP bx] w Post := by
 have HB := Lib.hid hB
 clear hB
 obtain ⟨HL, HX⟩ := hid2 hO
 have hP9 := hO.pick [0, 1, 2, 3, 4, 5, 6, 7, 8, 9] dc
 refine foa pb PC sb c nm mp k ms MC pt QC mu cs KC ini kd dbx ib l0 l3 (vP bx) w0 w _ _ ?_ hP9 hk66 hk32 hk104 hk106 hkind hcg hnm hg0 hg1
 clear hP9
 unfold HuA
 intro sb2 c2 gb2 cg2 tr lx bb A1 A4 A6 A7 A11 A12 A13 A14 A15 A16 A17 A18 A19 A20 A21 A22 A23 A24 A25 A26 A27 A28 A29 A30 A31 A32 A33 A34 A35 A36 A37 A38 A39 A40 A41 A42 A43 A44 A45 A46 A47 A48 A49 A50 A51 A52 A53 A54 A55 A56 A57 A58 A59 A60 A61 A62 A63 A64 A65 A66 A67 A68 A69 A70 A71 A72 A73 A74 A75 A76 A77 A78 A79 A80 A81 A82 A83 A84 A85 A86 A87 A88 A89 A90 A91 A92 A93 A94 A95 A96 A97 A98 A99 A100 A101 A102 A103 A104 A105 A106 A107 A108 A109 A110 A111 A112 A113 A114 A115 A116 A117 A118 A119 A120 A121 A122 A123 A124 A125 A126 A127 A128 A129 A130 A131 A132 A133 A134 A135 A136 A137 A138 A139 A140 A141 A142 A143 A144 A145 A146 A147 A148 A149 A150 A151 A152 A153 A154 A155 A156 w2 hQ
 replace hO : Own w0 w2 [row (pb) 252 (PC.setIfInBounds 106 (vS sb2 2 (2 + c2))), row (sb2) 260 (full symZ (symL [sy nm 0, sy (un nm) 0]) c2), ((mp, .map #[] k) : Rw), row (ms) 99 MC, row (pt) 107 QC, ((mu, .map (uA ([])) (uN ([]))) : Rw), row (cs) 99 (KC.setIfInBounds 5 (vS gb2 1 (1 + cg2))), row (gb2) 31 (full refZ [vU 0, vU 1] cg2), row (ini) 57 #[vS dbx 1 1, v8 kd, bF, bF], row (dbx) 54 #[vF 134 ib, vI l3, .nilIface, vI 0], row (ib) 136 #[vU 0, vU 0], row (tr) 31 #[vU 0, vU 1], row (lx) 28 #[vI l0], row (bb) 47 #[vF 134 ib, vI l3], row (bx) 61 #[vF 110 kb, vI lv], row (kb) 72 #[vS tb0 m m, vI 0], row (tb0) 61 (full stmZ (stL (dtL ad lc) (List.range m)) 0)] X := hQ.back HL.out HX.out [10, 11, 12] dc dc
 clear hQ HL HX
 obtain ⟨c8, hc8⟩ : ∃ c, c = restR11 := ⟨_, rfl⟩
 have HC8 := Lib.hid hc8
 simp only [restR11, Tryd.f41, Option.getD_some, cutC] at hc8
 simp only [restR4, Tryd.f41, Option.getD_some, cutC]
 rw [← hc8]
 clear hc8
 obtain ⟨aA, aB, aE, aF, aC, aD, -⟩ := hO.k4 8 rfl
 obtain ⟨aG, aH, aI, aJ, aK, aL, -⟩ := hO.k4 9 rfl
 obtain ⟨an, ao, ap, aq, -⟩ := hO.k2 10 rfl
 obtain ⟨ar, au, av, aw, -⟩ := hO.k2 11 rfl
 obtain ⟨ax, ay, az, -⟩ := hO.k1 12 rfl
 obtain ⟨bA, bB, bC, bD, -⟩ := hO.k2 13 rfl
 obtain ⟨bE, bG, bH, bI, -⟩ := hO.k2 14 rfl
 obtain ⟨bJ, bK, bL, bM, -⟩ := hO.k2 15 rfl
 have HO := Lib.hid hO
 clear hO
 go_wp2_with (first | (with_reducible refine Own.stay (fn := Tryd.f41) ?_) | (at_builtin; refine Own.appStop ?_) | fail)
 try with_reducible refine Own.Stay.mk ?_
 have hO := HO.out
 clear HO aA aB aE aF aC aD aG aH aI aJ aK aL an ao ap aq ar au av aw ax ay az bA bB bC bD bE bG bH bI bJ bK bL bM
 rw [HC8.out]
 clear HC8
 obtain ⟨HL, HX⟩ := hid2 hO
 have hP9 := hO.pick [8, 10, 11, 12, 13, 15] dc
 refine fob ini kd dbx ib tr lx bb kb l0 l3 (some ⟨tb0, 0, none⟩) m m (vI 0) (vP pb) w0 w2 _ _ ?_ hP9 (by omega)
 clear hP9
 unfold HuB
 intro tb tc nl nd ni ne C1 C3 C4 C5 C6 C7 C8 C12 C13 C14 C16 C17 C18 C19 C20 C21 C22 C23 C24 C25 C26 C27 C28 C29 C30 C31 C32 C33 C34 C35 C36 C37 C38 C39 C40 C41 C42 C43 C44 C45 C46 C47 C48 C49 C50 C51 C52 C53 C54 C55 C56 C57 C58 C59 C60 C61 C62 C63 C64 C65 C66 C67 C68 C69 C70 C71 C72 C73 C74 C75 C76 C77 C78 C79 C80 C81 C82 C83 C84 C85 C86 C87 C88 C89 C90 C91 C92 C93 C94 C95 C96 C97 C98 C99 C100 C101 C102 C103 C104 C105 C106 C107 C108 C109 C110 C111 C112 C113 C114 C115 C116 C117 C118 C119 C120 C121 C122 C123 C124 C125 C126 C127 C128 C129 C130 C131 C132 C133 C134 C135 C136 C137 C138 C139 C140 C141 C142 C143 C144 C145 C146 C147 C148 C149 C150 C151 C152 C153 C154 C155 C156 w3 hQ
 replace hO : Own w0 w3 [row (ini) 57 #[vS dbx 1 1, v8 kd, bF, bF], row (ib) 136 #[vU 0, vU 0], row (tr) 31 #[vU 0, vU 1], row (kb) 72 #[vS tb0 m m, (vI 0)], row (tb) 61 (full stmZ [vF 42 nl, vI l0] tc), row (nl) 57 #[vS nd 1 1, v8 kd, bF, bF], row (nd) 54 #[vF 134 ni, vI l3, vF 267 ne, vI l3], row (ni) 136 #[vU 0, vU 0], row (ne) 270 #[vU 0, vU 1, bF, bF, bF], row (pb) 252 (PC.setIfInBounds 106 (vS sb2 2 (2 + c2))), row (sb2) 260 (full symZ (symL [sy nm 0, sy (un nm) 0]) c2), ((mp, .map #[] k) : Rw), row (ms) 99 MC, row (pt) 107 QC, ((mu, .map (uA ([])) (uN ([]))) : Rw), row (cs) 99 (KC.setIfInBounds 5 (vS gb2 1 (1 + cg2))), row (gb2) 31 (full refZ [vU 0, vU 1] cg2), row (dbx) 54 #[vF 134 ib, vI l3, .nilIface, vI 0], row (bx) 61 #[vF 110 kb, vI lv], row (tb0) 61 (full stmZ (stL (dtL ad lc) (List.range m)) 0)] X := hQ.back HL.out HX.out [0, 1, 2, 3, 4, 5, 6, 7, 9, 14, 16] dc dc
 clear hQ HL HX
 obtain ⟨c9, hc9⟩ : ∃ c, c = restU := ⟨_, rfl⟩
 have HC9 := Lib.hid hc9
 simp only [restU, Tryd.f41, Option.getD_some, cutC] at hc9
 simp only [restR13, Tryd.f41, Option.getD_some, cutC]
 rw [← hc9]
 clear hc9
 obtain ⟨bN, bO, bP, bQ, bR, bS, -⟩ := hO.k4 0 rfl
 obtain ⟨bT, bU, bV, bW, -⟩ := hO.k2 1 rfl
 obtain ⟨aM, aN, aO, aP, -⟩ := hO.k2 2 rfl
 obtain ⟨aQ, aR, aS, aT, -⟩ := hO.k2 3 rfl
 obtain ⟨aU, aV, bX, bY, aW, aX, -⟩ := hO.k4 5 rfl
 obtain ⟨aY, aZ, aa, ab, ac, ae, -⟩ := hO.k4 6 rfl
 obtain ⟨af, ag, ah, ai, -⟩ := hO.k2 7 rfl
 obtain ⟨aA, aB, aE, aF, bZ, aC, aD, -⟩ := hO.k5 8 rfl
 obtain ⟨ba, bc, bd, be, bf, bg, -⟩ := hO.k4 17 rfl
 obtain ⟨aj, ak, al, am, -⟩ := hO.k2 18 rfl
 have HO := Lib.hid hO
 clear hO
 go_wp2_with (first | (with_reducible refine Own.stay (fn := Tryd.f41) ?_) | (at_builtin; refine Own.appStop ?_) | fail)
 try with_reducible refine Own.Stay.mk ?_
 have hO := HO.out
 clear HO bN bO bP bQ bR bS bT bU bV bW aM aN aO aP aQ aR aS aT aU aV bX bY aW aX aY aZ aa ab ac ae af ag ah ai aA aB aE aF bZ aC aD ba bc bd be bf bg aj ak al am
 refine Own.AppStop.mk ?_
 obtain ⟨i9, hi9, z1, z2, z3⟩ := info_parts infoStm
 obtain ⟨HL, HX⟩ := hid2 hO
 have hP9 := hO.pick [4, 19] dc
 refine wpList_append_src (news := stL (dtL ad lc) (List.range m)) rfl (.tmp 119) (.tmp 123) 40 rfl 61 i9 (.agg stmZ) 2 24 Tryd.underlying40 hi9 z1 z2 z3 rfl dc hP9 rfl rfl (by first | rfl | assumption | (simp; done) | (simp; omega)) (by first | rfl | assumption | omega) (by rw [stL_length, List.length_range]) (fun j u h => full_at h) (stL_one' _ _) (by first | decide | omega | (unfold maxLen; omega)) (by first | decide | omega | (unfold maxLen; omega)) ?_
 intro nd1 nc2 u3 hQ
 clear hP9
 rw [Nat.add_comm 1 m]
 replace hO : Own w0 u3 [row (nd1) 61 (full stmZ ([vF 42 nl, vI l0] ++ (stL (dtL ad lc) (List.range m))) nc2), row (tb0) 61 (full stmZ (stL (dtL ad lc) (List.range m)) 0), row (ini) 57 #[vS dbx 1 1, v8 kd, bF, bF], row (ib) 136 #[vU 0, vU 0], row (tr) 31 #[vU 0, vU 1], row (kb) 72 #[vS tb0 m m, (vI 0)], row (nl) 57 #[vS nd 1 1, v8 kd, bF, bF], row (nd) 54 #[vF 134 ni, vI l3, vF 267 ne, vI l3], row (ni) 136 #[vU 0, vU 0], row (ne) 270 #[vU 0, vU 1, bF, bF, bF], row (pb) 252 (PC.setIfInBounds 106 (vS sb2 2 (2 + c2))), row (sb2) 260 (full symZ (symL [sy nm 0, sy (un nm) 0]) c2), ((mp, .map #[] k) : Rw), row (ms) 99 MC, row (pt) 107 QC, ((mu, .map (uA ([])) (uN ([]))) : Rw), row (cs) 99 (KC.setIfInBounds 5 (vS gb2 1 (1 + cg2))), row (gb2) 31 (full refZ [vU 0, vU 1] cg2), row (dbx) 54 #[vF 134 ib, vI l3, .nilIface, vI 0], row (bx) 61 #[vF 110 kb, vI lv]] X := hQ.back HL.out HX.out [0, 1, 2, 3, 5, 6, 7, 8, 9, 10, 11, 12, 13, 14, 15, 16, 17, 18] dc dc
 clear hQ HL HX
 obtain ⟨aM, aN, bh, bi, aO, aP, -⟩ := hO.k4 2 rfl
 obtain ⟨aQ, aR, aS, aT, -⟩ := hO.k2 3 rfl
 obtain ⟨bj, bk, bl, bm, -⟩ := hO.k2 4 rfl
 obtain ⟨aU, aV, aW, aX, -⟩ := hO.k2 5 rfl
 obtain ⟨aY, aZ, aa, ab, ac, ae, -⟩ := hO.k4 6 rfl
 obtain ⟨af, ag, bn, bo, ah, ai, -⟩ := hO.k4 7 rfl
 obtain ⟨aA, aB, aC, aD, -⟩ := hO.k2 8 rfl
 obtain ⟨aG, aH, aI, aJ, bp, aK, aL, -⟩ := hO.k5 9 rfl
 obtain ⟨aj, ak, bq, br, al, am, -⟩ := hO.k4 18 rfl
 obtain ⟨bs, bt, bu, bv, -⟩ := hO.k2 19 rfl
 have HO := Lib.hid hO
 clear hO
 go_wp2_with (first | (with_reducible refine Own.stay (fn := Tryd.f41) ?_) | (at_builtin; refine Own.appStop ?_) | fail)
 try with_reducible refine Own.Stay.mk ?_
 have hO := HO.out
 clear HO aM aN bh bi aO aP aQ aR aS aT bj bk bl bm aU aV aW aX aY aZ aa ab ac ae af ag bn bo ah ai aA aB aC aD aG aH aI aJ bp aK aL aj ak bq br al am bs bt bu bv
 rw [HC9.out]
 have hM : Own w0 u3 [row (pb) 252 (PC.setIfInBounds 106 (vS sb2 2 (2 + c2))), row (sb2) 260 (full symZ (symL [sy nm 0, sy (un nm) 0]) c2), ((mp, .map #[] k) : Rw), row (ms) 99 MC, row (pt) 107 QC, ((mu, .map (uA ([])) (uN ([]))) : Rw), row (cs) 99 (KC.setIfInBounds 5 (vS gb2 1 (1 + cg2))), row (gb2) 31 (full refZ [vU 0, vU 1] cg2), row (ini) 57 #[vS dbx 1 1, v8 kd, bF, bF], row (dbx) 54 #[vF 134 ib, vI l3, .nilIface, vI 0], row (ib) 136 #[vU 0, vU 0], row (tr) 31 #[vU 0, vU 1], row (kb) 72 #[(vS tb0 m m), (vI 0)], row (nd1) 61 (full stmZ (stL (dtL (adS nl ad) (lcS l0 lc)) (List.range (m + 1))) nc2), row (nl) 57 #[vS nd 1 1, v8 kd, bF, bF], row (nd) 54 #[vF 134 ni, vI l3, vF 267 ne, vI l3], row (ni) 136 #[vU 0, vU 0], row (ne) 270 #[vU 0, vU 1, bF, bF, bF], row (bx) 61 #[vF 110 kb, vI lv]] X := (hO.sub [10, 11, 12, 13, 14, 15, 16, 17, 2, 18, 3, 4, 5, 0, 6, 7, 8, 9, 19] dc).conv (by
  rw [← stL_front nl l0 ad lc m]
  rfl)
 exact HB.out sb2 c2 gb2 cg2 tr kb nd1 nc2 nl nd ni ne (vS tb0 m m) (vI 0) hM
end Go.Proofs.YtikopplofkemlaaDoor.Use
namespace Go.Proofs.YtikopplofkemlaaDoor.Use
open Go.ChangeShapes Go.WideShapes Go.ChangeAt Go.RowKit Go.Sort Own
set_option linter.unusedVariables false
noncomputable def rFH1_0E (bx : Nat) (lv : Int) (bn : Nat) (B1 : Nat) : Nat → Rega.Atoms → Value
 | 0, α => vP B1
 | 1, α => vP B1
 | 2, α => vP B1
 | 3, α => vP B1
 | 4, α => vN
 | 5, α => vP bx
 | 6, α => vP bx
 | 7, α => .agg #[vF 42 bn, vI lv]
 | 8, α => vS (α 8) 1 1
 | 9, α => vS (α 9) 1 (1 + α 1009)
 | 10, α => vP B1
 | 11, α => vP B1
 | 12, α => undef
 | _, _ => undef
noncomputable def rFH1_0Anc : Nat → List Nat
 | 2 => [1]
 | 3 => [1, 2]
 | 4 => [1, 2, 3]
 | 6 => [5]
 | 7 => [5, 6]
 | 8 => [5, 6, 7]
 | 9 => [1, 2, 3, 4, 5, 6, 7, 8]
 | 10 => [0, 1, 2, 3, 4, 5, 6, 7, 8, 9]
 | 11 => [0, 1, 2, 3, 4, 5, 6, 7, 8, 9, 10]
 | 12 => [0, 1, 2, 3, 4, 5, 6, 7, 8, 9, 10, 11]
 | _ => []
noncomputable def rFH1_0Trn : Nat → List Nat
 | 12 => [999]
 | _ => []
noncomputable def rFH1_0Cnt : List (Nat × Nat) := [(8, 1), (9, 1)]
noncomputable def rFH1_0T999 (bx : Nat) (lv : Int) (bn : Nat) (B1 : Nat) (L9 : Nat → Bool) (α : Rega.Atoms) : Rw := if L9 12 = true then row (B1) 72 #[vS (α 9) 1 (1 + α 1009), vI 0] else row (B1) 72 #[vN, vI 0]
noncomputable def rFH1_0R (bx : Nat) (lv : Int) (bn : Nat) (B1 : Nat) (L9 : Nat → Bool) (α : Rega.Atoms) (ix9 : Nat) : Rw := if ix9 = 999 then rFH1_0T999 bx lv bn B1 L9 α else if ix9 = 1999 then row (bx) 61 #[vF 42 bn, vI lv] else if ix9 = 8 then row (α 8) 61 #[vF 42 bn, vI lv] else if ix9 = 9 then row (α 9) 61 (full stmZ [vF 42 bn, vI lv] (α 1009)) else (0, .map #[] 0)
theorem rFH1_0_he (bx : Nat) (lv : Int) (bn : Nat) (B1 : Nat) : ∀ kk α α', (∀ j, (j % 1000 = kk ∨ j % 1000 ∈ rFH1_0Anc kk) → α j = α' j) → rFH1_0E bx lv bn B1 kk α = rFH1_0E bx lv bn B1 kk α' := by
 intro kk α α' h
 match kk with
 | 0 => rfl
 | 1 => rfl
 | 2 => rfl
 | 3 => rfl
 | 4 => rfl
 | 5 => rfl
 | 6 => rfl
 | 7 => rfl
 | 8 => simp only [rFH1_0E, h 8 (Or.inl rfl)]
 | 9 => simp only [rFH1_0E, h 9 (Or.inl rfl), h 1009 (Or.inl rfl)]
 | 10 => rfl
 | 11 => rfl
 | 12 => rfl
 | n + 13 => rfl
theorem rFH1_0_st (bx : Nat) (lv : Int) (bn : Nat) (B1 : Nat) : Stable rFH1_0Cnt 2 rFH1_0Anc rFH1_0Trn (rFH1_0R bx lv bn B1) := by
 intro k9 L9 α α' ix9 hk hcl hα hact ht
 have hp := act_places hact
 replace hp : ix9 ∈ [999, 1999, 8, 9] := hp
 simp only [List.mem_cons, List.not_mem_nil, or_false] at hp
 rcases hp with rfl | rfl | rfl | rfl
 ·show rFH1_0T999 bx lv bn B1 (Rega.ran L9 k9) α' = rFH1_0T999 bx lv bn B1 L9 α
  unfold rFH1_0T999
  have n12 : 12 ≠ k9 := fun e => ht (by rw [← e]; decide)
  rw [ran_ne n12]
  by_cases e12 : L9 12 = true
  ·first | rw [if_pos e12, if_pos e12] | rw [if_pos e12]
   try simp only [hα 9 (ne_ran hk (hcl 12 e12 9 dc)), hα 1009 (ne_ran hk (hcl 12 e12 9 dc))]
  first | rw [if_neg e12, if_neg e12] | rw [if_neg e12]
 ·rfl
 ·have e0 : L9 8 = true := act_lt hact dc
  show row (α' 8) 61 #[vF 42 bn, vI lv] = row (α 8) 61 #[vF 42 bn, vI lv]
  simp only [hα 8 (ne_ran hk e0)]
 ·have e0 : L9 9 = true := act_lt hact dc
  show row (α' 9) 61 (full stmZ [vF 42 bn, vI lv] (α' 1009)) = row (α 9) 61 (full stmZ [vF 42 bn, vI lv] (α 1009))
  simp only [hα 9 (ne_ran hk e0), hα 1009 (ne_ran hk e0)]

set_option maxRecDepth 100000 in
set_option maxHeartbeats 4000000 in
theorem foh1 (pb : Nat) (PC : Array Value) (sb c : Nat) (nm : ByteArray) (mp k ms : Nat) (MC : Array Value) (pt : Nat) (QC : Array Value) (mu cs : Nat) (KC : Array Value) (ini : Nat) (kd : Int) (dbx ib bx : Nat) (l0 l3 lv : Int) (bn : Nat) (w0 w : World) (X : Nat → Obj → Prop) (Post : Ending → World → Prop) (hB : Hu pb PC sb c nm mp k ms MC pt QC mu cs KC ini kd dbx ib bx l0 l3 lv 1 (fun _ => bn) (fun _ => lv) w0 X (bodyPost Tryd.prog Tryd.f41 Post)) (hO : Own w0 w [row (pb) 252 PC, row (sb) 260 (full symZ (symL [sy nm 0]) c), ((mp, .map #[] k) : Rw), row (ms) 99 MC, row (pt) 107 QC, ((mu, .map (uA ([])) (uN ([]))) : Rw), row (cs) 99 KC, row (ini) 57 #[vS dbx 1 1, v8 kd, bF, bF], row (dbx) 54 #[vF 134 ib, vI l3, .nilIface, vI 0], row (ib) 136 #[vU 0, vU 0], row (bx) 61 #[vF 42 bn, vI lv]] X) (hk66 : PC[66]? = some (vU 0)) (hk32 : PC[32]? = some (bF)) (hk104 : PC[104]? = some (vP cs)) (hk106 : PC[106]? = some (vS sb 1 (1 + c))) (hkind : KC[15]? = some (v8 8)) (hcg : KC[5]? = some (vN)) (hnm : nm.size ≤ 65536) (hg0 : w0.cell? ⟨0, 0, none⟩ = some (vU 4294967295)) (hg1 : w0.cell? ⟨0, 1, none⟩ = some (vU 4294967295)) :
  Calls Tryd.prog 41 #[vP pb, .agg #[vI l0], vP ini, vP bx] w Post := by
 have HB := Lib.hid hB
 clear hB
 obtain ⟨HL, HX⟩ := hid2 hO
 have hP9 := hO.pick [0, 1, 2, 3, 4, 5, 6, 7, 8, 9] dc
 refine foa pb PC sb c nm mp k ms MC pt QC mu cs KC ini kd dbx ib l0 l3 (vP bx) w0 w _ _ ?_ hP9 hk66 hk32 hk104 hk106 hkind hcg hnm hg0 hg1
 clear hP9
 unfold HuA
 intro sb2 c2 gb2 cg2 tr lx bb A1 A4 A6 A7 A11 A12 A13 A14 A15 A16 A17 A18 A19 A20 A21 A22 A23 A24 A25 A26 A27 A28 A29 A30 A31 A32 A33 A34 A35 A36 A37 A38 A39 A40 A41 A42 A43 A44 A45 A46 A47 A48 A49 A50 A51 A52 A53 A54 A55 A56 A57 A58 A59 A60 A61 A62 A63 A64 A65 A66 A67 A68 A69 A70 A71 A72 A73 A74 A75 A76 A77 A78 A79 A80 A81 A82 A83 A84 A85 A86 A87 A88 A89 A90 A91 A92 A93 A94 A95 A96 A97 A98 A99 A100 A101 A102 A103 A104 A105 A106 A107 A108 A109 A110 A111 A112 A113 A114 A115 A116 A117 A118 A119 A120 A121 A122 A123 A124 A125 A126 A127 A128 A129 A130 A131 A132 A133 A134 A135 A136 A137 A138 A139 A140 A141 A142 A143 A144 A145 A146 A147 A148 A149 A150 A151 A152 A153 A154 A155 A156 w2 hQ
 replace hO : Own w0 w2 [row (pb) 252 (PC.setIfInBounds 106 (vS sb2 2 (2 + c2))), row (sb2) 260 (full symZ (symL [sy nm 0, sy (un nm) 0]) c2), ((mp, .map #[] k) : Rw), row (ms) 99 MC, row (pt) 107 QC, ((mu, .map (uA ([])) (uN ([]))) : Rw), row (cs) 99 (KC.setIfInBounds 5 (vS gb2 1 (1 + cg2))), row (gb2) 31 (full refZ [vU 0, vU 1] cg2), row (ini) 57 #[vS dbx 1 1, v8 kd, bF, bF], row (dbx) 54 #[vF 134 ib, vI l3, .nilIface, vI 0], row (ib) 136 #[vU 0, vU 0], row (tr) 31 #[vU 0, vU 1], row (lx) 28 #[vI l0], row (bb) 47 #[vF 134 ib, vI l3], row (bx) 61 #[vF 42 bn, vI lv]] X := hQ.back HL.out HX.out [10] dc dc
 clear hQ HL HX
 obtain ⟨c8, hc8⟩ : ∃ c, c = restR11 := ⟨_, rfl⟩
 have HC8 := Lib.hid hc8
 simp only [restR11, Tryd.f41, Option.getD_some, cutC] at hc8
 simp only [restR4, Tryd.f41, Option.getD_some, cutC]
 rw [← hc8]
 clear hc8
 obtain ⟨aA, aB, aQ, aR, aC, aD, -⟩ := hO.k4 8 rfl
 obtain ⟨aE, aF, aS, aT, aG, aH, -⟩ := hO.k4 9 rfl
 obtain ⟨aI, aJ, aK, aL, -⟩ := hO.k2 10 rfl
 obtain ⟨aU, aV, aW, aX, -⟩ := hO.k2 11 rfl
 obtain ⟨aY, aZ, aa, -⟩ := hO.k1 12 rfl
 obtain ⟨ab, ac, ad, ae, -⟩ := hO.k2 13 rfl
 obtain ⟨af, ag, ah, ai, -⟩ := hO.k2 14 rfl
 have HO := Lib.hid hO
 clear hO
 go_wp2_with (first | (with_reducible refine Own.stay (fn := Tryd.f41) ?_) | (at_builtin; refine Own.appStop ?_) | fail)
 try with_reducible refine Own.Stay.mk ?_
 have hO := HO.out
 clear HO aA aB aQ aR aC aD aE aF aS aT aG aH aI aJ aK aL aU aV aW aX aY aZ aa ab ac ad ae af ag ah ai
 generalize hW : World.alloc _ _ = W2
 have hN : Own w0 W2 [row (w2.heap.size) 72 #[vN, vI 0], row (pb) 252 (PC.setIfInBounds 106 (vS sb2 2 (2 + c2))), row (sb2) 260 (full symZ (symL [sy nm 0, sy (un nm) 0]) c2), ((mp, .map #[] k) : Rw), row (ms) 99 MC, row (pt) 107 QC, ((mu, .map (uA ([])) (uN ([]))) : Rw), row (cs) 99 (KC.setIfInBounds 5 (vS gb2 1 (1 + cg2))), row (gb2) 31 (full refZ [vU 0, vU 1] cg2), row (ini) 57 #[vS dbx 1 1, v8 kd, bF, bF], row (dbx) 54 #[vF 134 ib, vI l3, .nilIface, vI 0], row (ib) 136 #[vU 0, vU 0], row (tr) 31 #[vU 0, vU 1], row (lx) 28 #[vI l0], row (bb) 47 #[vF 134 ib, vI l3], row (bx) 61 #[vF 42 bn, vI lv]] X := by
  rw [← hW]
  exact (hO).alloc' _ (w2.heap.size) (by simp)
 clear hW hO
 generalize w2.heap.size = B1 at hN ⊢
 have hO := hN
 clear hN
 obtain ⟨HL, HX⟩ := hid2 hO
 have hP9 := hO.pick [0, 15] dc
 generalize hX9_3 : Own.Rest _ _ X = X9_3 at hP9
 replace hP9 : Own w0 W2 [row (B1) 72 #[vN, vI 0], row (bx) 61 #[vF 42 bn, vI lv]] X9_3 := hP9
 clear hO
 have hO := hP9
 clear hP9
 have st9 := rFH1_0_st bx lv bn B1
 refine wp_region_own (e := rFH1_0E bx lv bn B1) (anc := rFH1_0Anc) (G := (fun L9 α u9 => OwnF w0 u9 (act rFH1_0Cnt 2 L9) (rFH1_0R bx lv bn B1 L9 α) X9_3)) (by kernel_rfl) (by kernel_rfl) (by kernel_rfl) (by kernel_rfl) (rFH1_0_he bx lv bn B1) ?_ (RunsAll.all ?_) ?_
 ·have hp : ∀ i, act rFH1_0Cnt 2 (fun _ => false) i → i ∈ [999, 1999] := by
   intro i hi
   have h9 : i % 1000 = 999 := by
    by_cases h : i % 1000 = 999
    ·exact h
    ·exact absurd (act_lt hi h) (by simp)
   unfold act at hi
   rw [if_pos h9] at hi
   simp only [List.mem_cons, List.not_mem_nil, or_false]
   omega
  refine hO.drew.family (fun i hi => ?_) (fun i j hi hj hij => ?_)
  ·have := hp i hi
   simp only [List.mem_cons, List.not_mem_nil, or_false] at this
   rcases this with rfl | rfl <;> rfl
  ·have h1 := hp i hi
   have h2 := hp j hj
   simp only [List.mem_cons, List.not_mem_nil, or_false] at h1 h2
   omega
 ·refine ⟨?_, ?_, ?_, ?_, ?_, ?_, ?_, ?_, ?_, ?_, ?_, ?_, ?_, trivial⟩
  ·refine pur st9 rfl rfl fun L9 α a9 u9 K9 hL hcl hA hG hS h0 h1 hK => ?_
   have s11 := eS (vP B1) ((h0 11 (by kernel_rfl)).trans rfl)
   go_simp
   exact hK
  ·refine pur st9 rfl rfl fun L9 α a9 u9 K9 hL hcl hA hG hS h0 h1 hK => ?_
   have s11 := eS (vP B1) ((h0 11 (by kernel_rfl)).trans rfl)
   go_simp
   exact hK
  ·refine pur st9 rfl rfl fun L9 α a9 u9 K9 hL hcl hA hG hS h0 h1 hK => ?_
   have s65 := eS (vP B1) (hS 1 65 dc rfl (ltd 157 rfl))
   go_simp
   exact hK
  ·refine pur st9 rfl rfl fun L9 α a9 u9 K9 hL hcl hA hG hS h0 h1 hK => ?_
   have s66 := eS (vP B1) (hS 2 66 dc rfl (ltd 157 rfl))
   go_simp
   exact hK
  ·refine pur st9 rfl rfl fun L9 α a9 u9 K9 hL hcl hA hG hS h0 h1 hK => ?_
   replace hL : L9 4 = false := hL
   have s67 := eS (vP B1) (hS 3 67 dc rfl (ltd 157 rfl))
   have e0 : rFH1_0R bx lv bn B1 L9 α 999 = row (B1) 72 #[vN, vI 0] := by
    show rFH1_0T999 bx lv bn B1 L9 α = _
    unfold rFH1_0T999
    rw [if_neg (fun e => by have := hcl 12 e 4 dc; rw [hL] at this; cases this)]
   have hr := hG.rowAt 999 (act_base 999 rfl) e0
   have c0 : u9.cell? ⟨B1, 0, none⟩ = some (vN) := hr.cell rfl
   clear hr e0
   go_simp
   exact hK
  ·refine pur st9 rfl rfl fun L9 α a9 u9 K9 hL hcl hA hG hS h0 h1 hK => ?_
   have s3 := eS (vP bx) ((h0 3 (by kernel_rfl)).trans rfl)
   go_simp
   exact hK
  ·refine pur st9 rfl rfl fun L9 α a9 u9 K9 hL hcl hA hG hS h0 h1 hK => ?_
   have s69 := eS (vP bx) (hS 5 69 dc rfl (ltd 157 rfl))
   go_simp
   exact hK
  ·refine pur st9 rfl rfl fun L9 α a9 u9 K9 hL hcl hA hG hS h0 h1 hK => ?_
   have s70 := eS (vP bx) (hS 6 70 dc rfl (ltd 157 rfl))
   have e0 : rFH1_0R bx lv bn B1 L9 α 1999 = row (bx) 61 #[vF 42 bn, vI lv] := rfl
   have hr := hG.rowAt 1999 (act_base 1999 rfl) e0
   have c0 : u9.cell? ⟨bx, 0, none⟩ = some (vF 42 bn) := hr.cell rfl
   have c1 : u9.cell? ⟨bx, 1, none⟩ = some (vI lv) := hr.cell rfl
   clear hr e0
   go_simp
   exact hK
  ·intro L9 α a9 u9 K9 hL hcl hA hG hS h0 h1 hK
   replace hL : L9 8 = false := hL
   have q71 : a9.tmps[71]? = some (.agg #[vF 42 bn, vI lv]) := hS 7 71 dc rfl (ltd 157 rfl)
   have s71 := Rega.eval_of q71
   go_simp
   exact hK _ (fun j => if j = 8 then u9.heap.size else α j) _ (fun j hj => if_neg (fun e => hj (by rw [e]))) rfl (step_alloc st9 hL hcl rfl rfl dc _ rfl hG)
  ·intro L9 α a9 u9 K9 hL hcl hA hG hS h0 h1 hK
   replace hL : L9 9 = false := hL
   have q68 : a9.tmps[68]? = some (vN) := hS 4 68 dc rfl (ltd 157 rfl)
   have s68 := Rega.eval_of q68
   have q72 : a9.tmps[72]? = some (vS (α 8) 1 1) := hS 8 72 dc rfl (ltd 157 rfl)
   have s72 := Rega.eval_of q72
   simp only [Region.wanted, if_true]
   have e0 : rFH1_0R bx lv bn B1 L9 α 8 = row (α 8) 61 #[vF 42 bn, vI lv] := rfl
   have hM : ∀ i, i ∈ [8] → act rFH1_0Cnt 2 L9 i := by
    intro i hi
    simp only [List.mem_cons, List.not_mem_nil, or_false] at hi
    subst hi
    exact act_new 8 rfl (hA 8 dc)
   have hP : Own w0 u9 [row (α 8) 61 #[vF 42 bn, vI lv]] _ := (hG.pick [8] dc hM).conv (by
    show [rFH1_0R bx lv bn B1 L9 α 8] = _
    rw [e0])
   clear e0 hM
   obtain ⟨i9, hi9, z1, z2, z3⟩ := info_parts infoStm
   refine wp_append_full_nil (Operand.tmp 68) (Operand.tmp 72) 40 rfl 61 i9 (.agg stmZ) 2 24 Tryd.underlying40 hi9 z1 z2 z3 hP s68 s72 rfl dc (by first | decide | omega | (unfold maxLen; omega)) (by first | decide | omega | (unfold maxLen; omega)) ?_
   intro b0 b1 u1 hQ
   obtain ⟨α', hα'⟩ : ∃ α' : Rega.Atoms, α' = (fun j => if j = 9 then b0 else if j = 1009 then b1 else α j) := ⟨_, rfl⟩
   have f0 : rFH1_0R bx lv bn B1 (Rega.ran L9 9) α' 9 = row (α' 9) 61 (full stmZ [vF 42 bn, vI lv] (α' 1009)) := rfl
   have f1 : rFH1_0R bx lv bn B1 (Rega.ran L9 9) α' 8 = row (α' 8) 61 #[vF 42 bn, vI lv] := rfl
   have hα : ∀ j, j % 1000 ≠ 9 → α' j = α j := fun j hj => by rw [hα']; simp only []; rw [if_neg (by omega), if_neg (by omega)]
   have hb0 : α' 9 = b0 := by rw [hα']; rfl
   have hb1 : α' 1009 = b1 := by rw [hα']; rfl
   have ha8 : α' 8 = α 8 := hα 8 dc
   refine hK _ α' _ hα ?_ (step_call (st9) hL hcl hα [8] [9, 8] dc dc dc (M := _) ?_ hG hQ)
   ·show _ = (vS (α' 9) 1 (1 + α' 1009) : Value)
    simp only [hb0, hb1]
   ·show [rFH1_0R bx lv bn B1 (Rega.ran L9 9) α' 9, rFH1_0R bx lv bn B1 (Rega.ran L9 9) α' 8] = _
    rw [f0, f1]
    simp only [hb0, hb1, ha8]
    try rfl
  ·refine pur st9 rfl rfl fun L9 α a9 u9 K9 hL hcl hA hG hS h0 h1 hK => ?_
   have s64 := eS (vP B1) (hS 0 64 dc rfl (ltd 157 rfl))
   go_simp
   exact hK
  ·refine pur st9 rfl rfl fun L9 α a9 u9 K9 hL hcl hA hG hS h0 h1 hK => ?_
   have s74 := eS (vP B1) (hS 10 74 dc rfl (ltd 157 rfl))
   go_simp
   exact hK
  ·intro L9 α a9 u9 K9 hL hcl hA hG hS h0 h1 hK
   replace hL : L9 12 = false := hL
   have q75 : a9.tmps[75]? = some (vP B1) := hS 11 75 dc rfl (ltd 157 rfl)
   have s75 := Rega.eval_of q75
   have q73 : a9.tmps[73]? = some (vS (α 9) 1 (1 + α 1009)) := hS 9 73 dc rfl (ltd 157 rfl)
   have s73 := Rega.eval_of q73
   have e0 : rFH1_0R bx lv bn B1 L9 α 999 = row (B1) 72 #[vN, vI 0] := by
    show rFH1_0T999 bx lv bn B1 L9 α = _
    unfold rFH1_0T999
    rw [if_neg (by rw [hL]; decide)]
   have hr := hG.rowAt 999 (act_base 999 rfl) e0
   have c0 : u9.cell? ⟨B1, 0, none⟩ = some (vN) := hr.cell rfl
   have y0 : u9.frozen? ⟨B1, 0, none⟩ = false := hr.free (0)
   clear hr
   have E0 := Lib.hid e0
   clear e0
   go_simp
   have e1 : rFH1_0R bx lv bn B1 (Rega.ran L9 12) α 999 = row (B1) 72 #[vS (α 9) 1 (1 + α 1009), vI 0] := by
    show rFH1_0T999 bx lv bn B1 (Rega.ran L9 12) α = _
    unfold rFH1_0T999
    rw [if_pos (show Rega.ran L9 12 12 = true from rfl)]
   exact hK _ α _ (fun _ _ => rfl) rfl (step_sets (st9) hL hcl rfl 999 rfl (act_base 999 rfl) E0.out (0) [vS (α 9) 1 (1 + α 1009)] (e1.trans rfl) hG)
 clear st9
 intro α u hG
 have e0 : rFH1_0R bx lv bn B1 (fun k => decide (k < 13)) α 999 = row (B1) 72 #[vS (α 9) 1 (1 + α 1009), vI 0] := by
  show rFH1_0T999 bx lv bn B1 (fun k => decide (k < 13)) α = _
  unfold rFH1_0T999
  rw [if_pos dc]
 have e1 : rFH1_0R bx lv bn B1 (fun k => decide (k < 13)) α 1999 = row (bx) 61 #[vF 42 bn, vI lv] := rfl
 have e2 : rFH1_0R bx lv bn B1 (fun k => decide (k < 13)) α 8 = row (α 8) 61 #[vF 42 bn, vI lv] := rfl
 have e3 : rFH1_0R bx lv bn B1 (fun k => decide (k < 13)) α 9 = row (α 9) 61 (full stmZ [vF 42 bn, vI lv] (α 1009)) := rfl
 have hO : Own w0 u [row (B1) 72 #[vS (α 9) 1 (1 + α 1009), vI 0], row (bx) 61 #[vF 42 bn, vI lv], row (α 8) 61 #[vF 42 bn, vI lv], row (α 9) 61 (full stmZ [vF 42 bn, vI lv] (α 1009))] X9_3 := (hG.list [999, 1999, 8, 9] dc (act_all dc)).conv (by
  show [rFH1_0R bx lv bn B1 (fun k => decide (k < 13)) α 999, rFH1_0R bx lv bn B1 (fun k => decide (k < 13)) α 1999, rFH1_0R bx lv bn B1 (fun k => decide (k < 13)) α 8, rFH1_0R bx lv bn B1 (fun k => decide (k < 13)) α 9] = _
  rw [e0, e1, e2, e3])
 clear hG e0 e1 e2 e3
 generalize hfr : Rega.frameAt _ _ _ _ _ = fr
 have hdf : fr = ⟨#[vP pb, A1, vP ini, vP bx, A4, vP lx, A6, A7, vP bb, vP ib, vP tr, vP B1, bF, vO, bF, A15, A16, A17, A18, A19, A20, A21, A22, A23, A24, A25, A26, A27, A28, A29, A30, A31, A32, A33, A34, A35, A36, A37, A38, A39, A40, A41, .tuple #[vO, bF], vP bx, vP bx, vP bx, vF 42 bn, .tuple #[vO, bF], vO, bF, bF, .bool true, .agg #[vN, vI 0], vP B1, .tuple #[vO, bF], vP bx, vP bx, vP bx, vF 42 bn, .tuple #[vO, bF], vO, bF, bF, .bool true, vP B1, vP B1, vP B1, vP B1, vN, vP bx, vP bx, .agg #[vF 42 bn, vI lv], vS (α 8) 1 1, vS (α 9) 1 (1 + α 1009), vP B1, vP B1, A76, A77, A78, A79, A80, A81, A82, A83, A84, A85, A86, A87, A88, A89, A90, A91, A92, A93, A94, A95, A96, A97, A98, A99, A100, A101, A102, A103, A104, A105, A106, A107, A108, A109, A110, A111, A112, A113, A114, A115, A116, A117, A118, A119, A120, A121, A122, A123, A124, A125, A126, A127, A128, A129, A130, A131, A132, A133, A134, A135, A136, A137, A138, A139, A140, A141, A142, A143, A144, A145, A146, A147, A148, A149, A150, A151, A152, A153, A154, A155, A156], []⟩ := by rw [← hfr]; kernel_rfl
 clear hfr
 subst hdf
 generalize α 8 = nd4 at hO ⊢
 generalize α 9 = nd5 at hO ⊢
 generalize α 1009 = nd6 at hO ⊢
 clear α
 subst hX9_3
 replace hO : Own w0 u [row (B1) 72 #[vS nd5 1 (1 + nd6), vI 0], row (bx) 61 #[vF 42 bn, vI lv], row (nd4) 61 #[vF 42 bn, vI lv], row (nd5) 61 (full stmZ [vF 42 bn, vI lv] (nd6)), row (pb) 252 (PC.setIfInBounds 106 (vS sb2 2 (2 + c2))), row (sb2) 260 (full symZ (symL [sy nm 0, sy (un nm) 0]) c2), ((mp, .map #[] k) : Rw), row (ms) 99 MC, row (pt) 107 QC, ((mu, .map (uA ([])) (uN ([]))) : Rw), row (cs) 99 (KC.setIfInBounds 5 (vS gb2 1 (1 + cg2))), row (gb2) 31 (full refZ [vU 0, vU 1] cg2), row (ini) 57 #[vS dbx 1 1, v8 kd, bF, bF], row (dbx) 54 #[vF 134 ib, vI l3, .nilIface, vI 0], row (ib) 136 #[vU 0, vU 0], row (tr) 31 #[vU 0, vU 1], row (lx) 28 #[vI l0], row (bb) 47 #[vF 134 ib, vI l3]] X := hO.back HL.out HX.out [1, 2, 3, 4, 5, 6, 7, 8, 9, 10, 11, 12, 13, 14] dc dc
 clear HL HX
 replace hO : Own w0 u [row (B1) 72 #[vS nd5 1 (1 + nd6), vI 0], row (bx) 61 #[vF 42 bn, vI lv], row (nd4) 61 #[vF 42 bn, vI lv], row (nd5) 61 (full stmZ [vF 42 bn, vI lv] (nd6)), row (pb) 252 (PC.setIfInBounds 106 (vS sb2 2 (2 + c2))), row (sb2) 260 (full symZ (symL ([sy nm 0, sy (un nm) 0])) c2), ((mp, .map #[] k) : Rw), row (ms) 99 MC, row (pt) 107 QC, ((mu, .map (uA ([])) (uN ([]))) : Rw), row (cs) 99 (KC.setIfInBounds 5 (vS gb2 1 (1 + cg2))), row (gb2) 31 (full refZ [vU 0, vU 1] cg2), row (ini) 57 #[vS dbx 1 1, v8 kd, bF, bF], row (dbx) 54 #[vF 134 ib, vI l3, .nilIface, vI 0], row (ib) 136 #[vU 0, vU 0], row (tr) 31 #[vU 0, vU 1], row (lx) 28 #[vI l0], row (bb) 47 #[vF 134 ib, vI l3]] X := hO
 obtain ⟨aj, ak, al, am, -⟩ := hO.k2 0 rfl
 obtain ⟨an, ao, ap, aq, -⟩ := hO.k2 1 rfl
 obtain ⟨aM, aN, aO, aP, -⟩ := hO.k2 2 rfl
 obtain ⟨aY, bS, bT, bU, aZ, aa, -⟩ := hO.k4 12 rfl
 obtain ⟨ab, ac, bV, bW, ad, ae, -⟩ := hO.k4 13 rfl
 obtain ⟨af, ag, ah, ai, -⟩ := hO.k2 14 rfl
 obtain ⟨bX, bY, bZ, ba, -⟩ := hO.k2 15 rfl
 obtain ⟨bc, bd, be, -⟩ := hO.k1 16 rfl
 obtain ⟨bf, bg, bh, bi, -⟩ := hO.k2 17 rfl
 have HO := Lib.hid hO
 clear hO
 go_wp2_with (first | (with_reducible refine Own.stay (fn := Tryd.f41) ?_) | (at_builtin; refine Own.appStop ?_) | fail)
 try with_reducible refine Own.Stay.mk ?_
 have hO := HO.out
 clear HO aj ak al am an ao ap aq aM aN aO aP aY bS bT bU aZ aa ab ac bV bW ad ae af ag ah ai bX bY bZ ba bc bd be bf bg bh bi
 generalize hW : World.setCell _ _ _ = W8
 have hN : Own w0 W8 [row (B1) 72 #[vS nd5 1 (1 + nd6), vI 0], row (bx) 61 #[vF 110 B1, vI lv], row (nd4) 61 #[vF 42 bn, vI lv], row (nd5) 61 (full stmZ [vF 42 bn, vI lv] (nd6)), row (pb) 252 (PC.setIfInBounds 106 (vS sb2 2 (2 + c2))), row (sb2) 260 (full symZ (symL ([sy nm 0, sy (un nm) 0])) c2), ((mp, .map #[] k) : Rw), row (ms) 99 MC, row (pt) 107 QC, ((mu, .map (uA ([])) (uN ([]))) : Rw), row (cs) 99 (KC.setIfInBounds 5 (vS gb2 1 (1 + cg2))), row (gb2) 31 (full refZ [vU 0, vU 1] cg2), row (ini) 57 #[vS dbx 1 1, v8 kd, bF, bF], row (dbx) 54 #[vF 134 ib, vI l3, .nilIface, vI 0], row (ib) 136 #[vU 0, vU 0], row (tr) 31 #[vU 0, vU 1], row (lx) 28 #[vI l0], row (bb) 47 #[vF 134 ib, vI l3]] X := by
  rw [← hW]
  exact (hO).set 1 rfl 0 _
 clear hW hO
 have hO := hN
 clear hN
 rw [HC8.out]
 clear HC8
 obtain ⟨HL, HX⟩ := hid2 hO
 have hP9 := hO.pick [12, 14, 15, 16, 17, 0] dc
 refine fob ini kd dbx ib tr lx bb B1 l0 l3 (some ⟨nd5, 0, none⟩) 1 (1 + nd6) (vI 0) (vP pb) w0 W8 _ _ ?_ hP9 (by omega)
 clear hP9
 unfold HuB
 intro tb tc nl nd ni ne C1 C3 C4 C5 C6 C7 C8 C12 C13 C14 C16 C17 C18 C19 C20 C21 C22 C23 C24 C25 C26 C27 C28 C29 C30 C31 C32 C33 C34 C35 C36 C37 C38 C39 C40 C41 C42 C43 C44 C45 C46 C47 C48 C49 C50 C51 C52 C53 C54 C55 C56 C57 C58 C59 C60 C61 C62 C63 C64 C65 C66 C67 C68 C69 C70 C71 C72 C73 C74 C75 C76 C77 C78 C79 C80 C81 C82 C83 C84 C85 C86 C87 C88 C89 C90 C91 C92 C93 C94 C95 C96 C97 C98 C99 C100 C101 C102 C103 C104 C105 C106 C107 C108 C109 C110 C111 C112 C113 C114 C115 C116 C117 C118 C119 C120 C121 C122 C123 C124 C125 C126 C127 C128 C129 C130 C131 C132 C133 C134 C135 C136 C137 C138 C139 C140 C141 C142 C143 C144 C145 C146 C147 C148 C149 C150 C151 C152 C153 C154 C155 C156 w3 hQ
 replace hO : Own w0 w3 [row (ini) 57 #[vS dbx 1 1, v8 kd, bF, bF], row (ib) 136 #[vU 0, vU 0], row (tr) 31 #[vU 0, vU 1], row (B1) 72 #[vS nd5 1 (1 + nd6), (vI 0)], row (tb) 61 (full stmZ [vF 42 nl, vI l0] tc), row (nl) 57 #[vS nd 1 1, v8 kd, bF, bF], row (nd) 54 #[vF 134 ni, vI l3, vF 267 ne, vI l3], row (ni) 136 #[vU 0, vU 0], row (ne) 270 #[vU 0, vU 1, bF, bF, bF], row (bx) 61 #[vF 110 B1, vI lv], row (nd4) 61 #[vF 42 bn, vI lv], row (nd5) 61 (full stmZ [vF 42 bn, vI lv] (nd6)), row (pb) 252 (PC.setIfInBounds 106 (vS sb2 2 (2 + c2))), row (sb2) 260 (full symZ (symL ([sy nm 0, sy (un nm) 0])) c2), ((mp, .map #[] k) : Rw), row (ms) 99 MC, row (pt) 107 QC, ((mu, .map (uA ([])) (uN ([]))) : Rw), row (cs) 99 (KC.setIfInBounds 5 (vS gb2 1 (1 + cg2))), row (gb2) 31 (full refZ [vU 0, vU 1] cg2), row (dbx) 54 #[vF 134 ib, vI l3, .nilIface, vI 0]] X := hQ.back HL.out HX.out [1, 2, 3, 4, 5, 6, 7, 8, 9, 10, 11, 13] dc dc
 clear hQ HL HX
 obtain ⟨c9, hc9⟩ : ∃ c, c = restU := ⟨_, rfl⟩
 have HC9 := Lib.hid hc9
 simp only [restU, Tryd.f41, Option.getD_some, cutC] at hc9
 simp only [restR13, Tryd.f41, Option.getD_some, cutC]
 rw [← hc9]
 clear hc9
 obtain ⟨aj, ak, bj, bk, al, am, -⟩ := hO.k4 0 rfl
 obtain ⟨an, ao, ap, aq, -⟩ := hO.k2 1 rfl
 obtain ⟨aM, aN, aO, aP, -⟩ := hO.k2 2 rfl
 obtain ⟨ar, au, av, aw, -⟩ := hO.k2 3 rfl
 obtain ⟨ax, ay, bl, bm, az, bA, -⟩ := hO.k4 5 rfl
 obtain ⟨bB, bC, bD, bE, bG, bH, -⟩ := hO.k4 6 rfl
 obtain ⟨bI, bJ, bK, bL, -⟩ := hO.k2 7 rfl
 obtain ⟨aA, aB, aQ, aR, bo, aC, aD, -⟩ := hO.k5 8 rfl
 obtain ⟨aE, aF, aG, aH, -⟩ := hO.k2 9 rfl
 obtain ⟨aI, aJ, aK, aL, -⟩ := hO.k2 10 rfl
 obtain ⟨bM, bN, bO, bP, bQ, bR, -⟩ := hO.k4 20 rfl
 have HO := Lib.hid hO
 clear hO
 go_wp2_with (first | (with_reducible refine Own.stay (fn := Tryd.f41) ?_) | (at_builtin; refine Own.appStop ?_) | fail)
 try with_reducible refine Own.Stay.mk ?_
 have hO := HO.out
 clear HO aj ak bj bk al am an ao ap aq aM aN aO aP ar au av aw ax ay bl bm az bA bB bC bD bE bG bH bI bJ bK bL aA aB aQ aR bo aC aD aE aF aG aH aI aJ aK aL bM bN bO bP bQ bR
 refine Own.AppStop.mk ?_
 obtain ⟨i9, hi9, z1, z2, z3⟩ := info_parts infoStm
 obtain ⟨HL, HX⟩ := hid2 hO
 have hP9 := hO.pick [4, 11] dc
 refine wpList_append_src (news := [vF 42 bn, vI lv]) rfl (.tmp 119) (.tmp 123) 40 rfl 61 i9 (.agg stmZ) 2 24 Tryd.underlying40 hi9 z1 z2 z3 rfl dc hP9 rfl rfl (by first | rfl | assumption | (simp; done) | (simp; omega)) (by first | rfl | assumption | omega) rfl (fun j u h => full_at h) (oneAll rfl) (by first | decide | omega | (unfold maxLen; omega)) (by first | decide | omega | (unfold maxLen; omega)) ?_
 intro nd9 nc10 u11 hQ
 clear hP9
 replace hO : Own w0 u11 [row (nd9) 61 (full stmZ ([vF 42 nl, vI l0] ++ ([vF 42 bn, vI lv])) nc10), row (nd5) 61 (full stmZ [vF 42 bn, vI lv] (nd6)), row (ini) 57 #[vS dbx 1 1, v8 kd, bF, bF], row (ib) 136 #[vU 0, vU 0], row (tr) 31 #[vU 0, vU 1], row (B1) 72 #[vS nd5 1 (1 + nd6), (vI 0)], row (nl) 57 #[vS nd 1 1, v8 kd, bF, bF], row (nd) 54 #[vF 134 ni, vI l3, vF 267 ne, vI l3], row (ni) 136 #[vU 0, vU 0], row (ne) 270 #[vU 0, vU 1, bF, bF, bF], row (bx) 61 #[vF 110 B1, vI lv], row (nd4) 61 #[vF 42 bn, vI lv], row (pb) 252 (PC.setIfInBounds 106 (vS sb2 2 (2 + c2))), row (sb2) 260 (full symZ (symL ([sy nm 0, sy (un nm) 0])) c2), ((mp, .map #[] k) : Rw), row (ms) 99 MC, row (pt) 107 QC, ((mu, .map (uA ([])) (uN ([]))) : Rw), row (cs) 99 (KC.setIfInBounds 5 (vS gb2 1 (1 + cg2))), row (gb2) 31 (full refZ [vU 0, vU 1] cg2), row (dbx) 54 #[vF 134 ib, vI l3, .nilIface, vI 0]] X := hQ.back HL.out HX.out [0, 1, 2, 3, 5, 6, 7, 8, 9, 10, 12, 13, 14, 15, 16, 17, 18, 19, 20] dc dc
 clear hQ HL HX
 obtain ⟨aM, aN, bp, bq, aO, aP, -⟩ := hO.k4 2 rfl
 obtain ⟨ar, au, av, aw, -⟩ := hO.k2 3 rfl
 obtain ⟨br, bs, bt, bu, -⟩ := hO.k2 4 rfl
 obtain ⟨ax, ay, az, bA, -⟩ := hO.k2 5 rfl
 obtain ⟨bB, bC, bD, bE, bG, bH, -⟩ := hO.k4 6 rfl
 obtain ⟨bI, bJ, bv, bw, bK, bL, -⟩ := hO.k4 7 rfl
 obtain ⟨aA, aB, aC, aD, -⟩ := hO.k2 8 rfl
 obtain ⟨aE, aF, aS, aT, bz, aG, aH, -⟩ := hO.k5 9 rfl
 obtain ⟨aI, aJ, aK, aL, -⟩ := hO.k2 10 rfl
 obtain ⟨aU, aV, aW, aX, -⟩ := hO.k2 11 rfl
 obtain ⟨bM, bN, bO, bP, bQ, bR, -⟩ := hO.k4 20 rfl
 have HO := Lib.hid hO
 clear hO
 go_wp2_with (first | (with_reducible refine Own.stay (fn := Tryd.f41) ?_) | (at_builtin; refine Own.appStop ?_) | fail)
 try with_reducible refine Own.Stay.mk ?_
 have hO := HO.out
 clear HO aM aN bp bq aO aP ar au av aw br bs bt bu ax ay az bA bB bC bD bE bG bH bI bJ bv bw bK bL aA aB aC aD aE aF aS aT bz aG aH aI aJ aK aL aU aV aW aX bM bN bO bP bQ bR
 rw [HC9.out]
 have hM : Own w0 u11 [row (pb) 252 (PC.setIfInBounds 106 (vS sb2 2 (2 + c2))), row (sb2) 260 (full symZ (symL [sy nm 0, sy (un nm) 0]) c2), ((mp, .map #[] k) : Rw), row (ms) 99 MC, row (pt) 107 QC, ((mu, .map (uA ([])) (uN ([]))) : Rw), row (cs) 99 (KC.setIfInBounds 5 (vS gb2 1 (1 + cg2))), row (gb2) 31 (full refZ [vU 0, vU 1] cg2), row (ini) 57 #[vS dbx 1 1, v8 kd, bF, bF], row (dbx) 54 #[vF 134 ib, vI l3, .nilIface, vI 0], row (ib) 136 #[vU 0, vU 0], row (tr) 31 #[vU 0, vU 1], row (B1) 72 #[(vS nd5 1 (1 + nd6)), (vI 0)], row (nd9) 61 (full stmZ (stL (dtL (adS nl (fun _ => bn)) (lcS l0 (fun _ => lv))) (List.range (1 + 1))) nc10), row (nl) 57 #[vS nd 1 1, v8 kd, bF, bF], row (nd) 54 #[vF 134 ni, vI l3, vF 267 ne, vI l3], row (ni) 136 #[vU 0, vU 0], row (ne) 270 #[vU 0, vU 1, bF, bF, bF], row (bx) 61 #[vF 110 B1, vI lv]] X := (hO.sub [12, 13, 14, 15, 16, 17, 18, 19, 2, 20, 3, 4, 5, 0, 6, 7, 8, 9, 10] dc).conv (by
  rfl)
 exact HB.out sb2 c2 gb2 cg2 tr B1 nd9 nc10 nl nd ni ne (vS nd5 1 (1 + nd6)) (vI 0) hM
end Go.Proofs.YtikopplofkemlaaDoor.Use
namespace Go.Proofs.YtikopplofkemlaaDoor.Use
open Go.ChangeShapes Go.WideShapes Go.ChangeAt Go.RowKit Go.Sort Own
set_option linter.unusedVariables false

set_option maxRecDepth 100000 in
set_option maxHeartbeats 4000000 in
theorem foh2 (pb : Nat) (PC : Array Value) (sb c : Nat) (nm : ByteArray) (mp k ms : Nat) (MC : Array Value) (pt : Nat) (QC : Array Value) (mu cs : Nat) (KC : Array Value) (ini : Nat) (kd : Int) (dbx ib bx : Nat) (l0 l3 lv : Int) (bn : Nat) (w0 w : World) (X : Nat → Obj → Prop) (Post : Ending → World → Prop) (hB : Hu pb PC sb c nm mp k ms MC pt QC mu cs KC ini kd dbx ib bx l0 l3 lv 0 (fun _ => 0) (fun _ => 0) w0 X (bodyPost Tryd.prog Tryd.f41 Post)) (hO : Own w0 w [row (pb) 252 PC, row (sb) 260 (full symZ (symL [sy nm 0]) c), ((mp, .map #[] k) : Rw), row (ms) 99 MC, row (pt) 107 QC, ((mu, .map (uA ([])) (uN ([]))) : Rw), row (cs) 99 KC, row (ini) 57 #[vS dbx 1 1, v8 kd, bF, bF], row (dbx) 54 #[vF 134 ib, vI l3, .nilIface, vI 0], row (ib) 136 #[vU 0, vU 0], row (bx) 61 #[vF 275 bn, vI lv]] X) (hk66 : PC[66]? = some (vU 0)) (hk32 : PC[32]? = some (bF)) (hk104 : PC[104]? = some (vP cs)) (hk106 : PC[106]? = some (vS sb 1 (1 + c))) (hkind : KC[15]? = some (v8 8)) (hcg : KC[5]? = some (vN)) (hnm : nm.size ≤ 65536) (hg0 : w0.cell? ⟨0, 0, none⟩ = some (vU 4294967295)) (hg1 : w0.cell? ⟨0, 1, none⟩ = some (vU 4294967295)) :
  Calls Tryd.prog 41 #[vP pb, .agg #[vI l0], vP ini, vP bx] w Post := by
 have HB := Lib.hid hB
 clear hB
 obtain ⟨HL, HX⟩ := hid2 hO
 have hP9 := hO.pick [0, 1, 2, 3, 4, 5, 6, 7, 8, 9] dc
 refine foa pb PC sb c nm mp k ms MC pt QC mu cs KC ini kd dbx ib l0 l3 (vP bx) w0 w _ _ ?_ hP9 hk66 hk32 hk104 hk106 hkind hcg hnm hg0 hg1
 clear hP9
 unfold HuA
 intro sb2 c2 gb2 cg2 tr lx bb A1 A4 A6 A7 A11 A12 A13 A14 A15 A16 A17 A18 A19 A20 A21 A22 A23 A24 A25 A26 A27 A28 A29 A30 A31 A32 A33 A34 A35 A36 A37 A38 A39 A40 A41 A42 A43 A44 A45 A46 A47 A48 A49 A50 A51 A52 A53 A54 A55 A56 A57 A58 A59 A60 A61 A62 A63 A64 A65 A66 A67 A68 A69 A70 A71 A72 A73 A74 A75 A76 A77 A78 A79 A80 A81 A82 A83 A84 A85 A86 A87 A88 A89 A90 A91 A92 A93 A94 A95 A96 A97 A98 A99 A100 A101 A102 A103 A104 A105 A106 A107 A108 A109 A110 A111 A112 A113 A114 A115 A116 A117 A118 A119 A120 A121 A122 A123 A124 A125 A126 A127 A128 A129 A130 A131 A132 A133 A134 A135 A136 A137 A138 A139 A140 A141 A142 A143 A144 A145 A146 A147 A148 A149 A150 A151 A152 A153 A154 A155 A156 w2 hQ
 replace hO : Own w0 w2 [row (pb) 252 (PC.setIfInBounds 106 (vS sb2 2 (2 + c2))), row (sb2) 260 (full symZ (symL [sy nm 0, sy (un nm) 0]) c2), ((mp, .map #[] k) : Rw), row (ms) 99 MC, row (pt) 107 QC, ((mu, .map (uA ([])) (uN ([]))) : Rw), row (cs) 99 (KC.setIfInBounds 5 (vS gb2 1 (1 + cg2))), row (gb2) 31 (full refZ [vU 0, vU 1] cg2), row (ini) 57 #[vS dbx 1 1, v8 kd, bF, bF], row (dbx) 54 #[vF 134 ib, vI l3, .nilIface, vI 0], row (ib) 136 #[vU 0, vU 0], row (tr) 31 #[vU 0, vU 1], row (lx) 28 #[vI l0], row (bb) 47 #[vF 134 ib, vI l3], row (bx) 61 #[vF 275 bn, vI lv]] X := hQ.back HL.out HX.out [10] dc dc
 clear hQ HL HX
 obtain ⟨c8, hc8⟩ : ∃ c, c = restR11 := ⟨_, rfl⟩
 have HC8 := Lib.hid hc8
 simp only [restR11, Tryd.f41, Option.getD_some, cutC] at hc8
 simp only [restR4, Tryd.f41, Option.getD_some, cutC]
 rw [← hc8]
 clear hc8
 obtain ⟨aA, aB, aC, aD, aE, aF, -⟩ := hO.k4 8 rfl
 obtain ⟨bB, bC, bD, bE, bG, bH, -⟩ := hO.k4 9 rfl
 obtain ⟨bI, bJ, bK, bL, -⟩ := hO.k2 10 rfl
 obtain ⟨bM, bN, bO, bP, -⟩ := hO.k2 11 rfl
 obtain ⟨bQ, bR, bS, -⟩ := hO.k1 12 rfl
 obtain ⟨bT, bU, bV, bW, -⟩ := hO.k2 13 rfl
 obtain ⟨bX, bY, bZ, ba, -⟩ := hO.k2 14 rfl
 have HO := Lib.hid hO
 clear hO
 go_wp2_with (first | (with_reducible refine Own.stay (fn := Tryd.f41) ?_) | (at_builtin; refine Own.appStop ?_) | fail)
 try with_reducible refine Own.Stay.mk ?_
 have hO := HO.out
 clear HO aA aB aC aD aE aF bB bC bD bE bG bH bI bJ bK bL bM bN bO bP bQ bR bS bT bU bV bW bX bY bZ ba
 generalize hW : World.alloc _ _ = W2
 have hN : Own w0 W2 [row (w2.heap.size) 72 #[vN, vI 0], row (pb) 252 (PC.setIfInBounds 106 (vS sb2 2 (2 + c2))), row (sb2) 260 (full symZ (symL [sy nm 0, sy (un nm) 0]) c2), ((mp, .map #[] k) : Rw), row (ms) 99 MC, row (pt) 107 QC, ((mu, .map (uA ([])) (uN ([]))) : Rw), row (cs) 99 (KC.setIfInBounds 5 (vS gb2 1 (1 + cg2))), row (gb2) 31 (full refZ [vU 0, vU 1] cg2), row (ini) 57 #[vS dbx 1 1, v8 kd, bF, bF], row (dbx) 54 #[vF 134 ib, vI l3, .nilIface, vI 0], row (ib) 136 #[vU 0, vU 0], row (tr) 31 #[vU 0, vU 1], row (lx) 28 #[vI l0], row (bb) 47 #[vF 134 ib, vI l3], row (bx) 61 #[vF 110 w2.heap.size, vI lv]] X := by
  rw [← hW]
  exact ((hO).set 14 rfl 0 _).alloc' _ (w2.heap.size) (by simp)
 clear hW hO
 generalize w2.heap.size = B1 at hN ⊢
 have hO := hN
 clear hN
 rw [HC8.out]
 clear HC8
 obtain ⟨HL, HX⟩ := hid2 hO
 have hP9 := hO.pick [9, 11, 12, 13, 14, 0] dc
 refine fob ini kd dbx ib tr lx bb B1 l0 l3 none 0 0 (vI 0) (vP pb) w0 W2 _ _ ?_ hP9 (by omega)
 clear hP9
 unfold HuB
 intro tb tc nl nd ni ne C1 C3 C4 C5 C6 C7 C8 C12 C13 C14 C16 C17 C18 C19 C20 C21 C22 C23 C24 C25 C26 C27 C28 C29 C30 C31 C32 C33 C34 C35 C36 C37 C38 C39 C40 C41 C42 C43 C44 C45 C46 C47 C48 C49 C50 C51 C52 C53 C54 C55 C56 C57 C58 C59 C60 C61 C62 C63 C64 C65 C66 C67 C68 C69 C70 C71 C72 C73 C74 C75 C76 C77 C78 C79 C80 C81 C82 C83 C84 C85 C86 C87 C88 C89 C90 C91 C92 C93 C94 C95 C96 C97 C98 C99 C100 C101 C102 C103 C104 C105 C106 C107 C108 C109 C110 C111 C112 C113 C114 C115 C116 C117 C118 C119 C120 C121 C122 C123 C124 C125 C126 C127 C128 C129 C130 C131 C132 C133 C134 C135 C136 C137 C138 C139 C140 C141 C142 C143 C144 C145 C146 C147 C148 C149 C150 C151 C152 C153 C154 C155 C156 w3 hQ
 replace hO : Own w0 w3 [row (ini) 57 #[vS dbx 1 1, v8 kd, bF, bF], row (ib) 136 #[vU 0, vU 0], row (tr) 31 #[vU 0, vU 1], row (B1) 72 #[vN, (vI 0)], row (tb) 61 (full stmZ [vF 42 nl, vI l0] tc), row (nl) 57 #[vS nd 1 1, v8 kd, bF, bF], row (nd) 54 #[vF 134 ni, vI l3, vF 267 ne, vI l3], row (ni) 136 #[vU 0, vU 0], row (ne) 270 #[vU 0, vU 1, bF, bF, bF], row (pb) 252 (PC.setIfInBounds 106 (vS sb2 2 (2 + c2))), row (sb2) 260 (full symZ (symL [sy nm 0, sy (un nm) 0]) c2), ((mp, .map #[] k) : Rw), row (ms) 99 MC, row (pt) 107 QC, ((mu, .map (uA ([])) (uN ([]))) : Rw), row (cs) 99 (KC.setIfInBounds 5 (vS gb2 1 (1 + cg2))), row (gb2) 31 (full refZ [vU 0, vU 1] cg2), row (dbx) 54 #[vF 134 ib, vI l3, .nilIface, vI 0], row (bx) 61 #[vF 110 B1, vI lv]] X := hQ.back HL.out HX.out [1, 2, 3, 4, 5, 6, 7, 8, 10, 15] dc dc
 clear hQ HL HX
 obtain ⟨c9, hc9⟩ : ∃ c, c = restU := ⟨_, rfl⟩
 have HC9 := Lib.hid hc9
 simp only [restU, Tryd.f41, Option.getD_some, cutC] at hc9
 simp only [restR13, Tryd.f41, Option.getD_some, cutC]
 rw [← hc9]
 clear hc9
 obtain ⟨aG, aH, aI, aJ, aK, aL, -⟩ := hO.k4 0 rfl
 obtain ⟨aM, aN, aO, aP, -⟩ := hO.k2 1 rfl
 obtain ⟨aQ, aR, aS, aT, -⟩ := hO.k2 2 rfl
 obtain ⟨aU, aV, aW, aX, -⟩ := hO.k2 3 rfl
 obtain ⟨aY, aZ, aa, ab, ac, ad, -⟩ := hO.k4 5 rfl
 obtain ⟨ae, af, ag, ah, ai, aj, -⟩ := hO.k4 6 rfl
 obtain ⟨ak, al, am, an, -⟩ := hO.k2 7 rfl
 obtain ⟨aA, aB, aC, aD, ao, aE, aF, -⟩ := hO.k5 8 rfl
 obtain ⟨ap, aq, ar, au, av, aw, -⟩ := hO.k4 17 rfl
 obtain ⟨ax, ay, az, bA, -⟩ := hO.k2 18 rfl
 have HO := Lib.hid hO
 clear hO
 go_wp2_with (first | (with_reducible refine Own.stay (fn := Tryd.f41) ?_) | (at_builtin; refine Own.appStop ?_) | fail)
 try with_reducible refine Own.Stay.mk ?_
 have hO := HO.out
 clear HO aG aH aI aJ aK aL aM aN aO aP aQ aR aS aT aU aV aW aX aY aZ aa ab ac ad ae af ag ah ai aj ak al am an aA aB aC aD ao aE aF ap aq ar au av aw ax ay az bA
 refine Own.AppStop.mk ?_
 obtain ⟨i9, hi9, z1, z2, z3⟩ := info_parts infoStm
 refine wpList_append_none rfl (.tmp 119) (.tmp 123) 40 rfl 61 i9 Tryd.underlying40 hi9 (by omega) rfl rfl ?_
 obtain ⟨aG, aH, aI, aJ, aK, aL, -⟩ := hO.k4 0 rfl
 obtain ⟨aM, aN, aO, aP, -⟩ := hO.k2 1 rfl
 obtain ⟨aQ, aR, aS, aT, -⟩ := hO.k2 2 rfl
 obtain ⟨aU, aV, aW, aX, -⟩ := hO.k2 3 rfl
 obtain ⟨aY, aZ, aa, ab, ac, ad, -⟩ := hO.k4 5 rfl
 obtain ⟨ae, af, ag, ah, ai, aj, -⟩ := hO.k4 6 rfl
 obtain ⟨ak, al, am, an, -⟩ := hO.k2 7 rfl
 obtain ⟨aA, aB, aC, aD, ao, aE, aF, -⟩ := hO.k5 8 rfl
 obtain ⟨ap, aq, ar, au, av, aw, -⟩ := hO.k4 17 rfl
 obtain ⟨ax, ay, az, bA, -⟩ := hO.k2 18 rfl
 have HO := Lib.hid hO
 clear hO
 go_wp2_with (first | (with_reducible refine Own.stay (fn := Tryd.f41) ?_) | (at_builtin; refine Own.appStop ?_) | fail)
 try with_reducible refine Own.Stay.mk ?_
 have hO := HO.out
 clear HO aG aH aI aJ aK aL aM aN aO aP aQ aR aS aT aU aV aW aX aY aZ aa ab ac ad ae af ag ah ai aj ak al am an aA aB aC aD ao aE aF ap aq ar au av aw ax ay az bA
 rw [HC9.out]
 have hM : Own w0 w3 [row (pb) 252 (PC.setIfInBounds 106 (vS sb2 2 (2 + c2))), row (sb2) 260 (full symZ (symL [sy nm 0, sy (un nm) 0]) c2), ((mp, .map #[] k) : Rw), row (ms) 99 MC, row (pt) 107 QC, ((mu, .map (uA ([])) (uN ([]))) : Rw), row (cs) 99 (KC.setIfInBounds 5 (vS gb2 1 (1 + cg2))), row (gb2) 31 (full refZ [vU 0, vU 1] cg2), row (ini) 57 #[vS dbx 1 1, v8 kd, bF, bF], row (dbx) 54 #[vF 134 ib, vI l3, .nilIface, vI 0], row (ib) 136 #[vU 0, vU 0], row (tr) 31 #[vU 0, vU 1], row (B1) 72 #[(vN), (vI 0)], row (tb) 61 (full stmZ (stL (dtL (adS nl (fun _ => 0)) (lcS l0 (fun _ => 0))) (List.range (0 + 1))) tc), row (nl) 57 #[vS nd 1 1, v8 kd, bF, bF], row (nd) 54 #[vF 134 ni, vI l3, vF 267 ne, vI l3], row (ni) 136 #[vU 0, vU 0], row (ne) 270 #[vU 0, vU 1, bF, bF, bF], row (bx) 61 #[vF 110 B1, vI lv]] X := (hO.sub [9, 10, 11, 12, 13, 14, 15, 16, 0, 17, 1, 2, 3, 4, 5, 6, 7, 8, 18] dc).conv (by
  rfl)
 exact HB.out sb2 c2 gb2 cg2 tr B1 tb tc nl nd ni ne (vN) (vI 0) hM
end Go.Proofs.YtikopplofkemlaaDoor.Use
