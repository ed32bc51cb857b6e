/- finalize's await, walked. No condition. -/
import Derived.Test.YtikopplofkemlaaDoorGnc
import Derived.Test.YtikopplofkemlaaDoorMsc
import Derived.Test.YtikopplofkemlaaDoorFnc
namespace Go.Proofs.YtikopplofkemlaaDoor.Use
open Go.ChangeShapes Go.WideShapes Go.ChangeAt Go.RowKit Go.Sort Own
set_option linter.unusedVariables false
def Fp1 (pb : Nat) (PC : Array Value) (sb : Nat) (c : Nat) (st : List Sy) (n : Nat) (src : Int) (pt : Nat) (QC : Array Value) (mu : Nat) (ul : List (Int × Int × Int)) (cs : Nat) (KC : Array Value) (gb : Nat) (G : List Value) (cg : Nat) (g : Nat) (db : Nat) (DL : List Value) (cd : Nat) (d : Nat) (cx : Nat) (x5 : Nat) (e10 : Nat) (loc : Int) (si : Nat) (v26 : Nat) (v27 : Nat) (ev : Value) (sv2 : Value) (rv9 : Value) (t21 : Value) (t22 : Value) (t23 : Value) (w0 : World) (X : Nat → Obj → Prop) (Q : Exit → Act → World → Prop) : Prop :=
 ∀ (fb sb2 c2 gb2 cg2 db2 cd2 : Nat) (PC2 QC2 KC2 : Array Value) (ul2 : List (Int × Int × Int)) ⦃A0 A1 A2 A3 A4 A5 A6 A7 A8 A9 AA AB AC AD AE AF AG AH AI AJ AK AL AM AN AO AP AQ AR AS AT AU AV AW AX AY AZ B0 B1 B2 B3 B4 B5 B7 B8 B9 BA BB BC BD BE BF BG BH BI BJ BK BL BM BN BO BP BQ BR BS BT BU BV BW BX BY BZ C0 C1 C2 C3 C4 C5 C6 C7 C8 C9 CA CB CC CD CE CF CG CH CI CJ CK CL CM CN CO CP CQ CR CS CT CU CV CW CX CY CZ E1 E2 E3 E4 E5 E6 E7 E8 E9 EA EB EC ED EE EF EG EH EI EJ EK EL EM EN EO EP EQ ER ES ET EU EV EW EX EY EZ F0 F1 F2 F3 F4 F5 F6 F7 F8 F9 FA FB FC FD FE FF FG FH FI FJ FK FL FM FN FO FP FQ FR FS FT FU FV FW FX FY FZ G0 G1 G2 G3 G4 G5 G6 G7 G8 G9 GA GB GC GD GE GF GG GH GI GJ GK GL GM GN GO GP GQ GR GS GT GU GV GW GX GY GZ I0 I1 I2 I3 I4 I5 I6 I7 I8 I9 IA IB IC ID IE IF IG IH II IJ IK IL IM IN IO IP IQ IR IS IT IU IV IW IX IY IZ J0 J1 J2 J3 J4 J5 J6 J7 J8 J9 JA JB JC JD JE JF JG JH JI JJ JK JL JM JN JO JP JQ JR JS JT JU JV JW JX JY JZ M0 M1 M2 M3 M4 M5 M6 M7 M8 M9 MA MB MC MD ME MF MG MH MI MJ MK ML MM MN MO MP MQ MR MS MT MU MV MW MX MY MZ N0 N1 N2 N3 N4 N5 N6 N7 N8 N9 NA NB NC ND NE NF NG NH NI NJ NK NL NM NN NO NP NQ NR NS NT NU NV NW NX NY NZ O0 O1 O2 O3 O4 O5 O6 O7 O8 O9 OA OB OC OD OE OF OG OH OI OJ OK OL OM ON OO OP OQ OR OS OT OU OV OW OX OY OZ P0 P1 P2 P3 P4 P5 P6 P7 P8 P9 PA PB PD PE PF PG : Value⦄ ⦃w2 : World⦄, PC2[350]? = some (bF) → PC2[32]? = some (bF) → PC2[105]? = some (vP pt) → PC2[106]? = some (vS sb2 (n + 1) (n + 1 + c2)) → QC2[4]? = some (.map (some mu)) → QC2[3]? = some (vS db2 (d + 1) (d + 1 + cd2)) → KC2[5]? = some (vS gb2 (g + 2) (g + 2 + cg2)) → Own w0 w2 [row (x5) 25 #[vP pb], row (cx) 33 #[vI loc, vU src, vU (si : Int), .bool true], row (v26) 28 #[vI loc], row (pb) 252 PC2, row (sb2) 260 (full symZ (symL (bump (bump (st ++ [syk ⟨#[95, 112, 114, 111, 109, 105, 115, 101]⟩ 27]) n) n)) c2), row (pt) 107 QC2, ((mu, .map (uA ul2) (uN ul2)) : Rw), row (cs) 99 KC2, row (gb2) 31 (full refZ ((G ++ [vU src, vU (n : Int)]) ++ [vU src, vU (n : Int)]) cg2), row (db2) 113 (full dsyZ (DL ++ [vU src, vU (n : Int), bF]) cd2)] X → Code.wp Tryd.prog restB Q ⟨#[vP cx, A0, sv2, A1, A2, vP x5, A3, A4, A5, rv9, vP e10, A6, A7, A8, A9, AA, AB, AC, AD, AE, AF, t21, t22, t23, AG, AH, vP v26, AI, vS fb 2 2, AJ, AK, AL, AM, AN, AO, AP, AQ, AR, AS, AT, AU, AV, AW, AX, AY, AZ, B0, B1, B2, B3, B4, B5, B7, B8, B9, BA, BB, BC, BD, BE, BF, BG, BH, BI, BJ, BK, BL, BM, BN, BO, BP, BQ, BR, BS, BT, BU, BV, BW, BX, BY, BZ, C0, C1, C2, C3, C4, C5, C6, C7, C8, C9, CA, CB, CC, CD, CE, CF, CG, CH, CI, CJ, CK, CL, CM, CN, CO, CP, CQ, CR, CS, CT, CU, CV, CW, CX, CY, CZ, E1, E2, E3, E4, E5, E6, E7, E8, E9, EA, EB, EC, ED, EE, EF, EG, EH, EI, EJ, EK, EL, EM, EN, EO, EP, EQ, ER, ES, ET, EU, EV, EW, EX, EY, EZ, F0, F1, F2, F3, F4, F5, F6, F7, F8, F9, FA, FB, FC, FD, FE, FF, FG, FH, FI, FJ, FK, FL, FM, FN, FO, FP, FQ, FR, FS, FT, FU, FV, FW, FX, FY, FZ, G0, G1, G2, G3, G4, G5, G6, G7, G8, G9, GA, GB, GC, GD, GE, GF, GG, GH, GI, GJ, GK, GL, GM, GN, GO, GP, GQ, GR, GS, GT, GU, GV, GW, GX, GY, GZ, I0, I1, I2, I3, I4, I5, I6, I7, I8, I9, IA, IB, IC, ID, IE, IF, IG, IH, II, IJ, IK, IL, IM, IN, IO, IP, IQ, IR, IS, IT, IU, IV, IW, IX, IY, IZ, J0, J1, J2, J3, J4, J5, J6, J7, J8, J9, JA, JB, JC, JD, JE, JF, JG, JH, JI, JJ, JK, JL, JM, JN, JO, JP, JQ, JR, JS, JT, JU, JV, JW, JX, JY, JZ, M0, M1, M2, M3, M4, M5, M6, M7, M8, M9, MA, MB, MC, MD, ME, MF, MG, MH, MI, MJ, MK, ML, MM, MN, MO, MP, MQ, MR, MS, MT, MU, MV, MW, MX, MY, MZ, N0, N1, N2, N3, N4, N5, N6, N7, N8, N9, NA, NB, NC, ND, NE, NF, NG, NH, NI, NJ, NK, NL, NM, NN, NO, NP, NQ, NR, NS, NT, NU, NV, NW, NX, NY, NZ, O0, O1, O2, O3, O4, O5, O6, O7, O8, O9, OA, OB, OC, OD, OE, OF, OG, OH, OI, OJ, OK, OL, OM, ON, OO, OP, OQ, OR, OS, OT, OU, OV, OW, OX, OY, OZ, P0, P1, P2, P3, P4, P5, P6, P7, P8, P9, PA, PB, PD, PE, PF, PG], []⟩ w2

noncomputable def rfinP1a2E (n : Nat) (src : Int) (cs : Nat) (KC : Array Value) (G : List Value) (g : Nat) (nd4 : Nat) (nd5 : Nat) (B6 : Nat) : Nat → Rega.Atoms → Value
 | 0, α => vP cs
 | 1, α => vP cs
 | 2, α => vP cs
 | 3, α => .pointer (some ⟨cs, 5, none⟩)
 | 4, α => vS nd4 (g + 1) (g + 1 + nd5)
 | 5, α => .agg #[vU src, vU (n : Int)]
 | 6, α => vS (α 6) 1 1
 | 7, α => vS (α 7) ((g + 1) + 1) ((g + 1) + 1 + α 1007)
 | 8, α => vP cs
 | 9, α => .pointer (some ⟨cs, 5, none⟩)
 | 10, α => undef
 | _, _ => undef
noncomputable def rfinP1a2Anc : Nat → List Nat
 | 2 => [1]
 | 3 => [1, 2]
 | 4 => [1, 2, 3]
 | 6 => [5]
 | 7 => [1, 2, 3, 4, 5, 6]
 | 8 => [0, 1, 2, 3, 4, 5, 6, 7]
 | 9 => [0, 1, 2, 3, 4, 5, 6, 7, 8]
 | 10 => [0, 1, 2, 3, 4, 5, 6, 7, 8, 9]
 | _ => []
noncomputable def rfinP1a2Trn : Nat → List Nat
 | 7 => [2999]
 | 10 => [1999]
 | _ => []
noncomputable def rfinP1a2Cnt : List (Nat × Nat) := [(6, 1)]
noncomputable def rfinP1a2T1999 (n : Nat) (src : Int) (cs : Nat) (KC : Array Value) (G : List Value) (g : Nat) (nd4 : Nat) (nd5 : Nat) (B6 : Nat) (L9 : Nat → Bool) (α : Rega.Atoms) : Rw := if L9 10 = true then row (cs) 99 ((KC.setIfInBounds 5 (vS nd4 (g + 1) (g + 1 + nd5))).setIfInBounds 5 (vS (α 7) ((g + 1) + 1) ((g + 1) + 1 + α 1007))) else row (cs) 99 (KC.setIfInBounds 5 (vS nd4 (g + 1) (g + 1 + nd5)))
noncomputable def rfinP1a2T2999 (n : Nat) (src : Int) (cs : Nat) (KC : Array Value) (G : List Value) (g : Nat) (nd4 : Nat) (nd5 : Nat) (B6 : Nat) (L9 : Nat → Bool) (α : Rega.Atoms) : Rw := if L9 7 = true then row (α 7) 31 (full refZ ((G ++ [vU src, vU (n : Int)]) ++ [vU src, vU (n : Int)]) (α 1007)) else row (nd4) 31 (full refZ (G ++ [vU src, vU (n : Int)]) nd5)
noncomputable def rfinP1a2R (n : Nat) (src : Int) (cs : Nat) (KC : Array Value) (G : List Value) (g : Nat) (nd4 : Nat) (nd5 : Nat) (B6 : Nat) (L9 : Nat → Bool) (α : Rega.Atoms) (ix9 : Nat) : Rw := if ix9 = 999 then row (B6) 31 #[vU src, vU (n : Int)] else if ix9 = 1999 then rfinP1a2T1999 n src cs KC G g nd4 nd5 B6 L9 α else if ix9 = 2999 then rfinP1a2T2999 n src cs KC G g nd4 nd5 B6 L9 α else if ix9 = 6 then row (α 6) 31 #[vU src, vU (n : Int)] else (0, .map #[] 0)
theorem rfinP1a2_he (n : Nat) (src : Int) (cs : Nat) (KC : Array Value) (G : List Value) (g : Nat) (nd4 : Nat) (nd5 : Nat) (B6 : Nat) : ∀ kk α α', (∀ j, (j % 1000 = kk ∨ j % 1000 ∈ rfinP1a2Anc kk) → α j = α' j) → rfinP1a2E n src cs KC G g nd4 nd5 B6 kk α = rfinP1a2E n src cs KC G g nd4 nd5 B6 kk α' := by
 intro kk α α' h
 match kk with
 | 0 => rfl
 | 1 => rfl
 | 2 => rfl
 | 3 => rfl
 | 4 => rfl
 | 5 => rfl
 | 6 => simp only [rfinP1a2E, h 6 (Or.inl rfl)]
 | 7 => simp only [rfinP1a2E, h 7 (Or.inl rfl), h 1007 (Or.inl rfl)]
 | 8 => rfl
 | 9 => rfl
 | 10 => rfl
 | n + 11 => rfl
theorem rfinP1a2_st (n : Nat) (src : Int) (cs : Nat) (KC : Array Value) (G : List Value) (g : Nat) (nd4 : Nat) (nd5 : Nat) (B6 : Nat) : Stable rfinP1a2Cnt 3 rfinP1a2Anc rfinP1a2Trn (rfinP1a2R n src cs KC G g nd4 nd5 B6) := by
 intro k9 L9 α α' ix9 hk hcl hα hact ht
 have hp := act_places hact
 replace hp : ix9 ∈ [999, 1999, 2999, 6] := hp
 simp only [List.mem_cons, List.not_mem_nil, or_false] at hp
 rcases hp with rfl | rfl | rfl | rfl
 ·rfl
 ·show rfinP1a2T1999 n src cs KC G g nd4 nd5 B6 (Rega.ran L9 k9) α' = rfinP1a2T1999 n src cs KC G g nd4 nd5 B6 L9 α
  unfold rfinP1a2T1999
  have n10 : 10 ≠ k9 := fun e => ht (by rw [← e]; decide)
  rw [ran_ne n10]
  by_cases e10 : L9 10 = true
  ·first | rw [if_pos e10, if_pos e10] | rw [if_pos e10]
   try simp only [hα 7 (ne_ran hk (hcl 10 e10 7 dc)), hα 1007 (ne_ran hk (hcl 10 e10 7 dc))]
  first | rw [if_neg e10, if_neg e10] | rw [if_neg e10]
 ·show rfinP1a2T2999 n src cs KC G g nd4 nd5 B6 (Rega.ran L9 k9) α' = rfinP1a2T2999 n src cs KC G g nd4 nd5 B6 L9 α
  unfold rfinP1a2T2999
  have n7 : 7 ≠ k9 := fun e => ht (by rw [← e]; decide)
  rw [ran_ne n7]
  by_cases e7 : L9 7 = true
  ·first | rw [if_pos e7, if_pos e7] | rw [if_pos e7]
   try simp only [hα 7 (ne_ran hk e7), hα 1007 (ne_ran hk e7)]
  first | rw [if_neg e7, if_neg e7] | rw [if_neg e7]
 ·have e0 : L9 6 = true := act_lt hact dc
  show row (α' 6) 31 #[vU src, vU (n : Int)] = row (α 6) 31 #[vU src, vU (n : Int)]
  simp only [hα 6 (ne_ran hk e0)]
noncomputable def rfinP1a3E (pb : Nat) (PC : Array Value) (n : Nat) (src : Int) (pt : Nat) (QC : Array Value) (db : Nat) (DL : List Value) (cd : Nat) (d : Nat) (x5 : Nat) (nd2 : Nat) (nd3 : Nat) (B6 : Nat) : Nat → Rega.Atoms → Value
 | 0, α => vP pb
 | 1, α => vP pb
 | 2, α => .pointer (some ⟨pb, 105, none⟩)
 | 3, α => vP pt
 | 4, α => vP pb
 | 5, α => vP pb
 | 6, α => .pointer (some ⟨pb, 105, none⟩)
 | 7, α => vP pt
 | 8, α => vP pt
 | 9, α => .pointer (some ⟨pt, 3, none⟩)
 | 10, α => vS db d (d + cd)
 | 11, α => bF
 | 12, α => .agg #[vU src, vU (n : Int)]
 | 13, α => .agg #[vU src, vU (n : Int), bF]
 | 14, α => vS (α 14) 1 1
 | 15, α => vS (α 15) (d + 1) (d + 1 + α 1015)
 | 16, α => vP pt
 | 17, α => .pointer (some ⟨pt, 3, none⟩)
 | 18, α => undef
 | _, _ => undef
noncomputable def rfinP1a3Anc : Nat → List Nat
 | 1 => [0]
 | 2 => [0, 1]
 | 3 => [0, 1, 2]
 | 5 => [4]
 | 6 => [4, 5]
 | 7 => [4, 5, 6]
 | 8 => [4, 5, 6, 7]
 | 9 => [4, 5, 6, 7, 8]
 | 10 => [4, 5, 6, 7, 8, 9]
 | 13 => [11, 12]
 | 14 => [11, 12, 13]
 | 15 => [4, 5, 6, 7, 8, 9, 10, 11, 12, 13, 14]
 | 16 => [0, 1, 2, 3, 4, 5, 6, 7, 8, 9, 10, 11, 12, 13, 14, 15]
 | 17 => [0, 1, 2, 3, 4, 5, 6, 7, 8, 9, 10, 11, 12, 13, 14, 15, 16]
 | 18 => [0, 1, 2, 3, 4, 5, 6, 7, 8, 9, 10, 11, 12, 13, 14, 15, 16, 17]
 | _ => []
noncomputable def rfinP1a3Trn : Nat → List Nat
 | 15 => [4999]
 | 18 => [3999]
 | _ => []
noncomputable def rfinP1a3Cnt : List (Nat × Nat) := [(14, 1)]
noncomputable def rfinP1a3T3999 (pb : Nat) (PC : Array Value) (n : Nat) (src : Int) (pt : Nat) (QC : Array Value) (db : Nat) (DL : List Value) (cd : Nat) (d : Nat) (x5 : Nat) (nd2 : Nat) (nd3 : Nat) (B6 : Nat) (L9 : Nat → Bool) (α : Rega.Atoms) : Rw := if L9 18 = true then row (pt) 107 (QC.setIfInBounds 3 (vS (α 15) (d + 1) (d + 1 + α 1015))) else row (pt) 107 QC
noncomputable def rfinP1a3T4999 (pb : Nat) (PC : Array Value) (n : Nat) (src : Int) (pt : Nat) (QC : Array Value) (db : Nat) (DL : List Value) (cd : Nat) (d : Nat) (x5 : Nat) (nd2 : Nat) (nd3 : Nat) (B6 : Nat) (L9 : Nat → Bool) (α : Rega.Atoms) : Rw := if L9 15 = true then row (α 15) 113 (full dsyZ (DL ++ [vU src, vU (n : Int), bF]) (α 1015)) else row (db) 113 (full dsyZ DL cd)
noncomputable def rfinP1a3R (pb : Nat) (PC : Array Value) (n : Nat) (src : Int) (pt : Nat) (QC : Array Value) (db : Nat) (DL : List Value) (cd : Nat) (d : Nat) (x5 : Nat) (nd2 : Nat) (nd3 : Nat) (B6 : Nat) (L9 : Nat → Bool) (α : Rega.Atoms) (ix9 : Nat) : Rw := if ix9 = 999 then row (B6) 31 #[vU src, vU (n : Int)] else if ix9 = 1999 then row (pb) 252 (PC.setIfInBounds 106 (vS nd2 (n + 1) (n + 1 + nd3))) else if ix9 = 2999 then row (x5) 25 #[vP pb] else if ix9 = 3999 then rfinP1a3T3999 pb PC n src pt QC db DL cd d x5 nd2 nd3 B6 L9 α else if ix9 = 4999 then rfinP1a3T4999 pb PC n src pt QC db DL cd d x5 nd2 nd3 B6 L9 α else if ix9 = 14 then row (α 14) 113 #[vU src, vU (n : Int), bF] else (0, .map #[] 0)
theorem rfinP1a3_he (pb : Nat) (PC : Array Value) (n : Nat) (src : Int) (pt : Nat) (QC : Array Value) (db : Nat) (DL : List Value) (cd : Nat) (d : Nat) (x5 : Nat) (nd2 : Nat) (nd3 : Nat) (B6 : Nat) : ∀ kk α α', (∀ j, (j % 1000 = kk ∨ j % 1000 ∈ rfinP1a3Anc kk) → α j = α' j) → rfinP1a3E pb PC n src pt QC db DL cd d x5 nd2 nd3 B6 kk α = rfinP1a3E pb PC n src pt QC db DL cd d x5 nd2 nd3 B6 kk α' := by
 intro kk α α' h
 match kk with
 | 0 => rfl
 | 1 => rfl
 | 2 => rfl
 | 3 => rfl
 | 4 => rfl
 | 5 => rfl
 | 6 => rfl
 | 7 => rfl
 | 8 => rfl
 | 9 => rfl
 | 10 => rfl
 | 11 => rfl
 | 12 => rfl
 | 13 => rfl
 | 14 => simp only [rfinP1a3E, h 14 (Or.inl rfl)]
 | 15 => simp only [rfinP1a3E, h 15 (Or.inl rfl), h 1015 (Or.inl rfl)]
 | 16 => rfl
 | 17 => rfl
 | 18 => rfl
 | n + 19 => rfl
theorem rfinP1a3_st (pb : Nat) (PC : Array Value) (n : Nat) (src : Int) (pt : Nat) (QC : Array Value) (db : Nat) (DL : List Value) (cd : Nat) (d : Nat) (x5 : Nat) (nd2 : Nat) (nd3 : Nat) (B6 : Nat) : Stable rfinP1a3Cnt 5 rfinP1a3Anc rfinP1a3Trn (rfinP1a3R pb PC n src pt QC db DL cd d x5 nd2 nd3 B6) := by
 intro k9 L9 α α' ix9 hk hcl hα hact ht
 have hp := act_places hact
 replace hp : ix9 ∈ [999, 1999, 2999, 3999, 4999, 14] := hp
 simp only [List.mem_cons, List.not_mem_nil, or_false] at hp
 rcases hp with rfl | rfl | rfl | rfl | rfl | rfl
 ·rfl
 ·rfl
 ·rfl
 ·show rfinP1a3T3999 pb PC n src pt QC db DL cd d x5 nd2 nd3 B6 (Rega.ran L9 k9) α' = rfinP1a3T3999 pb PC n src pt QC db DL cd d x5 nd2 nd3 B6 L9 α
  unfold rfinP1a3T3999
  have n18 : 18 ≠ k9 := fun e => ht (by rw [← e]; decide)
  rw [ran_ne n18]
  by_cases e18 : L9 18 = true
  ·first | rw [if_pos e18, if_pos e18] | rw [if_pos e18]
   try simp only [hα 15 (ne_ran hk (hcl 18 e18 15 dc)), hα 1015 (ne_ran hk (hcl 18 e18 15 dc))]
  first | rw [if_neg e18, if_neg e18] | rw [if_neg e18]
 ·show rfinP1a3T4999 pb PC n src pt QC db DL cd d x5 nd2 nd3 B6 (Rega.ran L9 k9) α' = rfinP1a3T4999 pb PC n src pt QC db DL cd d x5 nd2 nd3 B6 L9 α
  unfold rfinP1a3T4999
  have n15 : 15 ≠ k9 := fun e => ht (by rw [← e]; decide)
  rw [ran_ne n15]
  by_cases e15 : L9 15 = true
  ·first | rw [if_pos e15, if_pos e15] | rw [if_pos e15]
   try simp only [hα 15 (ne_ran hk e15), hα 1015 (ne_ran hk e15)]
  first | rw [if_neg e15, if_neg e15] | rw [if_neg e15]
 ·have e0 : L9 14 = true := act_lt hact dc
  show row (α' 14) 113 #[vU src, vU (n : Int), bF] = row (α 14) 113 #[vU src, vU (n : Int), bF]
  simp only [hα 14 (ne_ran hk e0)]

set_option maxRecDepth 100000 in
set_option maxHeartbeats 4000000 in
theorem finP1 (pb : Nat) (PC : Array Value) (sb c : Nat) (st : List Sy) (n : Nat) (src : Int) (pt : Nat) (QC : Array Value) (mu : Nat) (ul : List (Int × Int × Int)) (cs : Nat) (KC : Array Value) (gb : Nat) (G : List Value) (cg g db : Nat) (DL : List Value) (cd d cx x5 e10 : Nat) (loc : Int) (si v26 v27 : Nat) (ev sv2 rv9 t21 t22 t23 : Value) {A0 A1 A2 A3 A4 A5 A6 A7 A8 A9 AA AB AC AD AE AF AJ AK AL AM AN AO AP AQ AR AS AT AU AV AW AX AY AZ B0 B1 B2 B3 B4 B5 B7 B8 B9 BA BB BC BD BE BF BG BH BI BJ BK BL BM BN BO BP BQ BR BS BT BU BV BW BX BY BZ C0 C1 C2 C3 C4 C5 C6 C7 C8 C9 CA CB CC CD CE CF CG CH CI CJ CK CL CM CN CO CP CQ CR CS CT CU CV CW CX CY CZ E1 E2 E3 E4 E5 E6 E7 E8 E9 EA EB EC ED EE EF EG EH EI EJ EK EL EM EN EO EP EQ ER ES ET EU EV EW EX EY EZ F0 F1 F2 F3 F4 F5 F6 F7 F8 F9 FA FB FC FD FE FF FG FH FI FJ FK FL FM FN FO FP FQ FR FS FT FU FV FW FX FY FZ G0 G1 G2 G3 G4 G5 G6 G7 G8 G9 GA GB GC GD GE GF GG GH GI GJ GK GL GM GN GO GP GQ GR GS GT GU GV GW GX GY GZ I0 I1 I2 I3 I4 I5 I6 I7 I8 I9 IA IB IC ID IE IF IG IH II IJ IK IL IM IN IO IP IQ IR IS IT IU IV IW IX IY IZ J0 J1 J2 J3 J4 J5 J6 J7 J8 J9 JA JB JC JD JE JF JG JH JI JJ JK JL JM JN JO JP JQ JR JS JT JU JV JW JX JY JZ M0 M1 M2 M3 M4 M5 M6 M7 M8 M9 MA MB MC MD ME MF MG MH MI MJ MK ML MM MN MO MP MQ MR MS MT MU MV MW MX MY MZ N0 N1 N2 N3 N4 N5 N6 N7 N8 N9 NA NB NC ND NE NF NG NH NI NJ NK NL NM NN NO NP NQ NR NS NT NU NV NW NX NY NZ O0 O1 O2 O3 O4 O5 O6 O7 O8 O9 OA OB OC OD OE OF OG OH OI OJ OK OL OM ON OO OP OQ OR OS OT OU OV OW OX OY OZ P0 P1 P2 P3 P4 P5 P6 P7 P8 P9 PA PB PD PE PF PG : Value} (w0 w : World) (X : Nat → Obj → Prop) (Q : Exit → Act → World → Prop) (hB : Fp1 pb PC sb c st n src pt QC mu ul cs KC gb G cg g db DL cd d cx x5 e10 loc si v26 v27 ev sv2 rv9 t21 t22 t23 w0 X Q) (hO : Own w0 w [row (x5) 25 #[vP pb], row (cx) 33 #[vI loc, vU src, vU (si : Int), .bool true], row (v26) 28 #[vI loc], row (v27) 52 #[ev, vI loc], row (pb) 252 PC, row (sb) 260 (full symZ (symL st) c), row (pt) 107 QC, ((mu, .map (uA ul) (uN ul)) : Rw), row (cs) 99 KC, row (gb) 31 (full refZ G cg), row (db) 113 (full dsyZ DL cd)] X) (hk350 : PC[350]? = some (bF)) (hk32 : PC[32]? = some (bF)) (hk105 : PC[105]? = some (vP pt)) (hk66 : PC[66]? = some (vU src)) (hk104 : PC[104]? = some (vP cs)) (hk333 : PC[333]? = some (bF)) (hk23 : PC[23]? = some (.int .u64 0)) (hk106 : PC[106]? = some (vS sb n (n + c))) (hn : st.length = n) (hnb : n ≤ 100010) (hsu : QC[4]? = some (.map (some mu))) (hds : QC[3]? = some (vS db d (d + cd))) (hkind : KC[15]? = some (v8 8)) (hcg : KC[5]? = some (vS gb g (g + cg))) (hgl : G.length = g * 2) (hgb : g ≤ 1010) (hdl : DL.length = d * 3) (hdb : d ≤ 1010) (hg0 : w0.cell? ⟨0, 0, none⟩ = some (vU 4294967295)) (hg1 : w0.cell? ⟨0, 1, none⟩ = some (vU 4294967295)) :
  Code.wp Tryd.prog restC Q ⟨#[vP cx, A0, sv2, A1, A2, vP x5, A3, A4, A5, rv9, vP e10, A6, A7, A8, A9, AA, AB, AC, AD, AE, AF, t21, t22, t23, vP cs, bF, vP v26, vP v27, vN, AJ, AK, AL, AM, AN, AO, AP, AQ, AR, AS, AT, AU, AV, AW, AX, AY, AZ, B0, B1, B2, B3, B4, B5, B7, B8, B9, BA, BB, BC, BD, BE, BF, BG, BH, BI, BJ, BK, BL, BM, BN, BO, BP, BQ, BR, BS, BT, BU, BV, BW, BX, BY, BZ, C0, C1, C2, C3, C4, C5, C6, C7, C8, C9, CA, CB, CC, CD, CE, CF, CG, CH, CI, CJ, CK, CL, CM, CN, CO, CP, CQ, CR, CS, CT, CU, CV, CW, CX, CY, CZ, E1, E2, E3, E4, E5, E6, E7, E8, E9, EA, EB, EC, ED, EE, EF, EG, EH, EI, EJ, EK, EL, EM, EN, EO, EP, EQ, ER, ES, ET, EU, EV, EW, EX, EY, EZ, F0, F1, F2, F3, F4, F5, F6, F7, F8, F9, FA, FB, FC, FD, FE, FF, FG, FH, FI, FJ, FK, FL, FM, FN, FO, FP, FQ, FR, FS, FT, FU, FV, FW, FX, FY, FZ, G0, G1, G2, G3, G4, G5, G6, G7, G8, G9, GA, GB, GC, GD, GE, GF, GG, GH, GI, GJ, GK, GL, GM, GN, GO, GP, GQ, GR, GS, GT, GU, GV, GW, GX, GY, GZ, I0, I1, I2, I3, I4, I5, I6, I7, I8, I9, IA, IB, IC, ID, IE, IF, IG, IH, II, IJ, IK, IL, IM, IN, IO, IP, IQ, IR, IS, IT, IU, IV, IW, IX, IY, IZ, J0, J1, J2, J3, J4, J5, J6, J7, J8, J9, JA, JB, JC, JD, JE, JF, JG, JH, JI, JJ, JK, JL, JM, JN, JO, JP, JQ, JR, JS, JT, JU, JV, JW, JX, JY, JZ, M0, M1, M2, M3, M4, M5, M6, M7, M8, M9, MA, MB, MC, MD, ME, MF, MG, MH, MI, MJ, MK, ML, MM, MN, MO, MP, MQ, MR, MS, MT, MU, MV, MW, MX, MY, MZ, N0, N1, N2, N3, N4, N5, N6, N7, N8, N9, NA, NB, NC, ND, NE, NF, NG, NH, NI, NJ, NK, NL, NM, NN, NO, NP, NQ, NR, NS, NT, NU, NV, NW, NX, NY, NZ, O0, O1, O2, O3, O4, O5, O6, O7, O8, O9, OA, OB, OC, OD, OE, OF, OG, OH, OI, OJ, OK, OL, OM, ON, OO, OP, OQ, OR, OS, OT, OU, OV, OW, OX, OY, OZ, P0, P1, P2, P3, P4, P5, P6, P7, P8, P9, PA, PB, PD, PE, PF, PG], []⟩ w := by
 have HB := Lib.hid hB
 clear hB
 obtain ⟨c9, hc9⟩ : ∃ c, c = restB := ⟨_, rfl⟩
 have HC9 := Lib.hid hc9
 simp only [restB, Tryd.f39, Option.getD_some, cutC] at hc9
 simp only [restC, Tryd.f39, Option.getD_some, cutC]
 rw [← hc9]
 clear hc9
 obtain ⟨aK, aL, aM, -⟩ := hO.k1 0 rfl
 obtain ⟨ai, aj, bN, bO, ak, al, -⟩ := hO.k4 1 rfl
 obtain ⟨aN, aO, aP, -⟩ := hO.k1 2 rfl
 obtain ⟨am, an, ao, ap, -⟩ := hO.k2 3 rfl
 have HO := Lib.hid hO
 clear hO
 go_wp2_with (first | (with_reducible refine Own.stay (fn := Tryd.f39) ?_) | (first | (go_at_call 57; go_in)))
 try with_reducible refine Own.Stay.mk ?_
 have hO := HO.out
 clear HO aK aL aM ai aj bN bO ak al aN aO aP am an ao ap
 obtain ⟨HL, HX⟩ := hid2 hO
 have hP9 := hO.pick [4, 5, 8, 9] dc
 have h9_hnb : n ≤ 2000000 := (by omega)
 have h9_hne : ((⟨#[95, 112, 114, 111, 109, 105, 115, 101]⟩ : ByteArray).toList == []) = false := (by kernel_rfl)
 have h9_hgb : g ≤ 100000 := (by first | assumption | omega | (simp; done) | (simp; omega))
 have T9 := gtP1 pb PC sb c st n src ⟨#[95, 112, 114, 111, 109, 105, 115, 101]⟩ cs KC gb G cg g _ _ _ hP9 hk66 hk32 hk104 hk106 (by first | assumption | (simp; done) | (simp [hn]; done) | (simp [bump_length, hn]; done) | (simp [bump_length]; omega)) h9_hnb hkind hcg h9_hne hgl h9_hgb hg0 hg1
 refine Calls.mono T9 ?_
 clear hP9 T9 h9_hnb h9_hne h9_hgb
 rintro e uw1 ⟨nd2, nd3, nd4, nd5, rfl, hQ⟩
 replace hO : Own w0 uw1 [row (pb) 252 (PC.setIfInBounds 106 (vS nd2 (n + 1) (n + 1 + nd3))), row (nd2) 260 (full symZ (symL (st ++ [syk ⟨#[95, 112, 114, 111, 109, 105, 115, 101]⟩ 27])) nd3), row (cs) 99 (KC.setIfInBounds 5 (vS nd4 (g + 1) (g + 1 + nd5))), row (nd4) 31 (full refZ (G ++ [vU src, vU (n : Int)]) nd5), row (x5) 25 #[vP pb], row (cx) 33 #[vI loc, vU src, vU (si : Int), .bool true], row (v26) 28 #[vI loc], row (v27) 52 #[ev, vI loc], row (pt) 107 QC, ((mu, .map (uA ul) (uN ul)) : Rw), row (db) 113 (full dsyZ DL cd)] X := hQ.back HL.out HX.out [0, 1, 2, 3, 6, 7, 10] dc dc
 clear hQ HL HX
 obtain ⟨aQ, aR, aS, -⟩ := hO.k1 4 rfl
 obtain ⟨aD, aT, aq, bP, aE, aF, -⟩ := hO.k4 5 rfl
 obtain ⟨aG, aH, aI, -⟩ := hO.k1 6 rfl
 obtain ⟨aA, aJ, aB, aC, -⟩ := hO.k2 7 rfl
 have HO := Lib.hid hO
 clear hO
 go_wp2_with (first | (with_reducible refine Own.stay (fn := Tryd.f39) ?_) | (first | (go_at_call 57; go_in)))
 try with_reducible refine Own.Stay.mk ?_
 have hO := HO.out
 clear HO aQ aR aS aD aT aq bP aE aF aG aH aI aA aJ aB aC
 generalize hW : World.alloc _ _ = W7
 have hN : Own w0 W7 [row (uw1.heap.size) 31 #[vU src, vU (n : Int)], row (pb) 252 (PC.setIfInBounds 106 (vS nd2 (n + 1) (n + 1 + nd3))), row (nd2) 260 (full symZ (symL (st ++ [syk ⟨#[95, 112, 114, 111, 109, 105, 115, 101]⟩ 27])) nd3), row (cs) 99 (KC.setIfInBounds 5 (vS nd4 (g + 1) (g + 1 + nd5))), row (nd4) 31 (full refZ (G ++ [vU src, vU (n : Int)]) nd5), row (x5) 25 #[vP pb], row (cx) 33 #[vI loc, vU src, vU (si : Int), .bool true], row (v26) 28 #[vI loc], row (v27) 52 #[ev, vI loc], row (pt) 107 QC, ((mu, .map (uA ul) (uN ul)) : Rw), row (db) 113 (full dsyZ DL cd)] X := by
  rw [← hW]
  exact (hO).alloc' _ (uw1.heap.size) (by simp)
 clear hW hO
 generalize uw1.heap.size = B6 at hN ⊢
 have hO := hN
 clear hN
 obtain ⟨HL, HX⟩ := hid2 hO
 have hP9 := hO.pick [0, 3, 4] dc
 generalize hX9_8 : Own.Rest _ _ X = X9_8 at hP9
 replace hP9 : Own w0 W7 [row (B6) 31 #[vU src, vU (n : Int)], row (cs) 99 (KC.setIfInBounds 5 (vS nd4 (g + 1) (g + 1 + nd5))), row (nd4) 31 (full refZ (G ++ [vU src, vU (n : Int)]) nd5)] X9_8 := hP9
 clear hO
 have hO := hP9
 clear hP9
 have st9 := rfinP1a2_st n src cs KC G g nd4 nd5 B6
 let R9 := rfinP1a2R n src cs KC G g nd4 nd5 B6
 refine wp_region_own (e := rfinP1a2E n src cs KC G g nd4 nd5 B6) (anc := rfinP1a2Anc) (G := (fun L9 α u9 => OwnF w0 u9 (act rfinP1a2Cnt 3 L9) (rfinP1a2R n src cs KC G g nd4 nd5 B6 L9 α) X9_8)) (by kernel_rfl) (by kernel_rfl) (by kernel_rfl) (by kernel_rfl) (rfinP1a2_he n src cs KC G g nd4 nd5 B6) ?_ (RunsAll.all ?_) ?_
 ·have hp : ∀ i, act rfinP1a2Cnt 3 (fun _ => false) i → i ∈ [999, 1999, 2999] := by
   intro i hi
   have h9 : i % 1000 = 999 := by
    by_cases h : i % 1000 = 999
    ·exact h
    ·exact absurd (act_lt hi h) (by simp)
   unfold act at hi
   rw [if_pos h9] at hi
   simp only [List.mem_cons, List.not_mem_nil, or_false]
   omega
  refine hO.drew.family (fun i hi => ?_) (fun i j hi hj hij => ?_)
  ·have := hp i hi
   simp only [List.mem_cons, List.not_mem_nil, or_false] at this
   rcases this with rfl | rfl | rfl <;> rfl
  ·have h1 := hp i hi
   have h2 := hp j hj
   simp only [List.mem_cons, List.not_mem_nil, or_false] at h1 h2
   omega
 ·refine ⟨?_, ?_, ?_, ?_, ?_, ?_, ?_, ?_, ?_, ?_, ?_, trivial⟩
  ·refine pur st9 rfl rfl fun L9 α a9 u9 K9 hL hcl hA hG hS h0 h1 hK => ?_
   have s24 := eS (vP cs) ((h0 24 (by kernel_rfl)).trans rfl)
   go_simp
   exact hK
  ·refine pur st9 rfl rfl fun L9 α a9 u9 K9 hL hcl hA hG hS h0 h1 hK => ?_
   have s24 := eS (vP cs) ((h0 24 (by kernel_rfl)).trans rfl)
   go_simp
   exact hK
  ·refine pur st9 rfl rfl fun L9 α a9 u9 K9 hL hcl hA hG hS h0 h1 hK => ?_
   have s241 := eS (vP cs) (hS 1 241 dc rfl (ltd 420 rfl))
   go_simp
   exact hK
  ·refine pur st9 rfl rfl fun L9 α a9 u9 K9 hL hcl hA hG hS h0 h1 hK => ?_
   have s242 := eS (vP cs) (hS 2 242 dc rfl (ltd 420 rfl))
   go_simp
   exact hK
  ·refine pur st9 rfl rfl fun L9 α a9 u9 K9 hL hcl hA hG hS h0 h1 hK => ?_
   replace hL : L9 4 = false := hL
   have s243 := eS (.pointer (some ⟨cs, 5, none⟩)) (hS 3 243 dc rfl (ltd 420 rfl))
   have e0 : R9 L9 α 1999 = row (cs) 99 (KC.setIfInBounds 5 (vS nd4 (g + 1) (g + 1 + nd5))) := by
    show rfinP1a2T1999 n src cs KC G g nd4 nd5 B6 L9 α = _
    unfold rfinP1a2T1999
    rw [if_neg (fun e => by have := hcl 10 e 4 dc; rw [hL] at this; cases this)]
   have hr := hG.rowAt 1999 (act_base 1999 rfl) e0
   have c0 : u9.cell? ⟨cs, 5, none⟩ = some (vS nd4 (g + 1) (g + 1 + nd5)) := hr.cell ((get_set hcg _))
   clear hr e0
   go_simp
   exact hK
  ·refine pur st9 rfl rfl fun L9 α a9 u9 K9 hL hcl hA hG hS h0 h1 hK => ?_
   have s29 := eS (vP B6) ((h0 29 (by kernel_rfl)).trans rfl)
   have e0 : R9 L9 α 999 = row (B6) 31 #[vU src, vU (n : Int)] := rfl
   have hr := hG.rowAt 999 (act_base 999 rfl) e0
   have c0 : u9.cell? ⟨B6, 0, none⟩ = some (vU src) := hr.cell rfl
   have c1 : u9.cell? ⟨B6, 1, none⟩ = some (vU (n : Int)) := hr.cell rfl
   clear hr e0
   go_simp
   exact hK
  ·intro L9 α a9 u9 K9 hL hcl hA hG hS h0 h1 hK
   replace hL : L9 6 = false := hL
   have q245 : a9.tmps[245]? = some (.agg #[vU src, vU (n : Int)]) := hS 5 245 dc rfl (ltd 420 rfl)
   have s245 := Rega.eval_of q245
   go_simp
   exact hK _ (fun j => if j = 6 then u9.heap.size else α j) _ (fun j hj => if_neg (fun e => hj (by rw [e]))) rfl (step_alloc st9 hL hcl rfl rfl dc _ rfl hG)
  ·intro L9 α a9 u9 K9 hL hcl hA hG hS h0 h1 hK
   replace hL : L9 7 = false := hL
   have q244 : a9.tmps[244]? = some (vS nd4 (g + 1) (g + 1 + nd5)) := hS 4 244 dc rfl (ltd 420 rfl)
   have s244 := Rega.eval_of q244
   have q246 : a9.tmps[246]? = some (vS (α 6) 1 1) := hS 6 246 dc rfl (ltd 420 rfl)
   have s246 := Rega.eval_of q246
   simp only [Region.wanted, if_true]
   have e0 : R9 L9 α 2999 = row (nd4) 31 (full refZ (G ++ [vU src, vU (n : Int)]) nd5) := by
    show rfinP1a2T2999 n src cs KC G g nd4 nd5 B6 L9 α = _
    unfold rfinP1a2T2999
    rw [if_neg (by rw [hL]; decide)]
   have e1 : R9 L9 α 6 = row (α 6) 31 #[vU src, vU (n : Int)] := rfl
   have hM : ∀ i, i ∈ [2999, 6] → act rfinP1a2Cnt 3 L9 i := by
    intro i hi
    simp only [List.mem_cons, List.not_mem_nil, or_false] at hi
    rcases hi with rfl | rfl
    ·exact act_base 2999 rfl
    ·exact act_new 6 rfl (hA 6 dc)
   have hP : Own w0 u9 [row (nd4) 31 (full refZ (G ++ [vU src, vU (n : Int)]) nd5), row (α 6) 31 #[vU src, vU (n : Int)]] _ := (hG.pick [2999, 6] dc hM).conv (by
    show [R9 L9 α 2999, R9 L9 α 6] = _
    rw [e0, e1])
   clear e0 e1 hM
   obtain ⟨i9, hi9, z1, z2, z3⟩ := info_parts infoRef
   refine wp_append_full (Operand.tmp 244) (Operand.tmp 246) 38 rfl 31 i9 (.agg refZ) 2 8 Tryd.underlying38 hi9 z1 z2 z3 rfl dc hP s244 s246 (by first | rfl | assumption | (simp; done) | (simp; omega)) (by first | rfl | assumption | omega) rfl (oneAll rfl) (by first | decide | omega | (unfold maxLen; omega)) (by first | decide | omega | (unfold maxLen; omega)) ?_
   intro b0 b1 u1 hQ
   obtain ⟨α', hα'⟩ : ∃ α' : Rega.Atoms, α' = (fun j => if j = 7 then b0 else if j = 1007 then b1 else α j) := ⟨_, rfl⟩
   have f0 : R9 (Rega.ran L9 7) α' 2999 = row (α' 7) 31 (full refZ ((G ++ [vU src, vU (n : Int)]) ++ [vU src, vU (n : Int)]) (α' 1007)) := by
    show rfinP1a2T2999 n src cs KC G g nd4 nd5 B6 (Rega.ran L9 7) α' = _
    unfold rfinP1a2T2999
    rw [if_pos (show Rega.ran L9 7 7 = true from rfl)]
   have f1 : R9 (Rega.ran L9 7) α' 6 = row (α' 6) 31 #[vU src, vU (n : Int)] := rfl
   have hα : ∀ j, j % 1000 ≠ 7 → α' j = α j := fun j hj => by rw [hα']; simp only []; rw [if_neg (by omega), if_neg (by omega)]
   have hb0 : α' 7 = b0 := by rw [hα']; rfl
   have hb1 : α' 1007 = b1 := by rw [hα']; rfl
   have ha6 : α' 6 = α 6 := hα 6 dc
   refine hK _ α' _ hα ?_ (step_call (st9) hL hcl hα [2999, 6] [2999, 6] dc dc dc (M := _) ?_ hG hQ)
   ·show _ = (vS (α' 7) ((g + 1) + 1) ((g + 1) + 1 + α' 1007) : Value)
    simp only [hb0, hb1]
   ·show [R9 (Rega.ran L9 7) α' 2999, R9 (Rega.ran L9 7) α' 6] = _
    rw [f0, f1]
    simp only [hb0, hb1, ha6]
    try rfl
  ·refine pur st9 rfl rfl fun L9 α a9 u9 K9 hL hcl hA hG hS h0 h1 hK => ?_
   have s240 := eS (vP cs) (hS 0 240 dc rfl (ltd 420 rfl))
   go_simp
   exact hK
  ·refine pur st9 rfl rfl fun L9 α a9 u9 K9 hL hcl hA hG hS h0 h1 hK => ?_
   have s248 := eS (vP cs) (hS 8 248 dc rfl (ltd 420 rfl))
   go_simp
   exact hK
  ·intro L9 α a9 u9 K9 hL hcl hA hG hS h0 h1 hK
   replace hL : L9 10 = false := hL
   have q249 : a9.tmps[249]? = some (.pointer (some ⟨cs, 5, none⟩)) := hS 9 249 dc rfl (ltd 420 rfl)
   have s249 := Rega.eval_of q249
   have q247 : a9.tmps[247]? = some (vS (α 7) ((g + 1) + 1) ((g + 1) + 1 + α 1007)) := hS 7 247 dc rfl (ltd 420 rfl)
   have s247 := Rega.eval_of q247
   have e0 : R9 L9 α 1999 = row (cs) 99 (KC.setIfInBounds 5 (vS nd4 (g + 1) (g + 1 + nd5))) := by
    show rfinP1a2T1999 n src cs KC G g nd4 nd5 B6 L9 α = _
    unfold rfinP1a2T1999
    rw [if_neg (by rw [hL]; decide)]
   have hr := hG.rowAt 1999 (act_base 1999 rfl) e0
   have c0 : u9.cell? ⟨cs, 5, none⟩ = some (vS nd4 (g + 1) (g + 1 + nd5)) := hr.cell ((get_set hcg _))
   have y0 : u9.frozen? ⟨cs, 5, none⟩ = false := hr.free (5)
   clear hr
   have E0 := Lib.hid e0
   clear e0
   go_simp
   have e1 : R9 (Rega.ran L9 10) α 1999 = row (cs) 99 ((KC.setIfInBounds 5 (vS nd4 (g + 1) (g + 1 + nd5))).setIfInBounds 5 (vS (α 7) ((g + 1) + 1) ((g + 1) + 1 + α 1007))) := by
    show rfinP1a2T1999 n src cs KC G g nd4 nd5 B6 (Rega.ran L9 10) α = _
    unfold rfinP1a2T1999
    rw [if_pos (show Rega.ran L9 10 10 = true from rfl)]
   exact hK _ α _ (fun _ _ => rfl) rfl (step_sets (st9) hL hcl rfl 1999 rfl (act_base 1999 rfl) E0.out (5) [vS (α 7) ((g + 1) + 1) ((g + 1) + 1 + α 1007)] (e1.trans rfl) hG)
 clear st9
 intro α u hG
 have e0 : R9 (fun k => decide (k < 11)) α 999 = row (B6) 31 #[vU src, vU (n : Int)] := rfl
 have e1 : R9 (fun k => decide (k < 11)) α 1999 = row (cs) 99 ((KC.setIfInBounds 5 (vS nd4 (g + 1) (g + 1 + nd5))).setIfInBounds 5 (vS (α 7) ((g + 1) + 1) ((g + 1) + 1 + α 1007))) := by
  show rfinP1a2T1999 n src cs KC G g nd4 nd5 B6 (fun k => decide (k < 11)) α = _
  unfold rfinP1a2T1999
  rw [if_pos dc]
 have e2 : R9 (fun k => decide (k < 11)) α 2999 = row (α 7) 31 (full refZ ((G ++ [vU src, vU (n : Int)]) ++ [vU src, vU (n : Int)]) (α 1007)) := by
  show rfinP1a2T2999 n src cs KC G g nd4 nd5 B6 (fun k => decide (k < 11)) α = _
  unfold rfinP1a2T2999
  rw [if_pos dc]
 have e3 : R9 (fun k => decide (k < 11)) α 6 = row (α 6) 31 #[vU src, vU (n : Int)] := rfl
 have hO : Own w0 u [row (B6) 31 #[vU src, vU (n : Int)], row (cs) 99 ((KC.setIfInBounds 5 (vS nd4 (g + 1) (g + 1 + nd5))).setIfInBounds 5 (vS (α 7) ((g + 1) + 1) ((g + 1) + 1 + α 1007))), row (α 7) 31 (full refZ ((G ++ [vU src, vU (n : Int)]) ++ [vU src, vU (n : Int)]) (α 1007)), row (α 6) 31 #[vU src, vU (n : Int)]] X9_8 := (hG.list [999, 1999, 2999, 6] dc (act_all dc)).conv (by
  show [R9 (fun k => decide (k < 11)) α 999, R9 (fun k => decide (k < 11)) α 1999, R9 (fun k => decide (k < 11)) α 2999, R9 (fun k => decide (k < 11)) α 6] = _
  rw [e0, e1, e2, e3])
 clear hG e0 e1 e2 e3 R9
 generalize hfr : Rega.frameAt _ _ _ _ _ = fr
 have hdf : fr = ⟨#[vP cx, A0, sv2, A1, A2, vP x5, A3, A4, A5, rv9, vP e10, A6, A7, A8, A9, AA, AB, AC, AD, AE, AF, t21, t22, t23, vP cs, bF, vP v26, vP v27, vN, vP B6, AK, AL, AM, AN, AO, AP, AQ, AR, AS, AT, AU, AV, AW, AX, AY, AZ, B0, B1, B2, B3, B4, B5, B7, B8, B9, BA, BB, BC, BD, BE, BF, BG, BH, BI, BJ, BK, BL, BM, BN, BO, BP, BQ, BR, BS, BT, BU, BV, BW, BX, BY, BZ, C0, C1, C2, C3, C4, C5, C6, C7, C8, C9, CA, CB, CC, CD, CE, CF, CG, CH, CI, CJ, CK, CL, CM, CN, CO, CP, CQ, CR, CS, CT, CU, CV, CW, CX, CY, CZ, E1, E2, E3, E4, E5, E6, E7, E8, E9, EA, EB, EC, ED, EE, EF, EG, EH, EI, EJ, EK, EL, EM, EN, EO, EP, EQ, ER, ES, ET, EU, EV, EW, EX, EY, EZ, F0, F1, F2, F3, F4, F5, F6, F7, F8, F9, FA, FB, FC, FD, FE, FF, FG, FH, FI, FJ, FK, FL, FM, FN, FO, FP, FQ, FR, FS, FT, FU, FV, FW, FX, FY, FZ, G0, G1, G2, G3, G4, G5, G6, G7, G8, G9, GA, GB, GC, GD, GE, GF, GG, GH, GI, GJ, GK, GL, GM, GN, GO, GP, GQ, GR, GS, GT, GU, GV, GW, GX, GY, GZ, I0, I1, I2, I3, I4, I5, I6, I7, I8, I9, vP cx, vP cx, .pointer (some ⟨cx, 3, none⟩), .bool true, vP pb, .agg #[vU src, vU (n : Int)], vP cs, vP cs, vP cs, .pointer (some ⟨cs, 5, none⟩), vS nd4 (g + 1) (g + 1 + nd5), .agg #[vU src, vU (n : Int)], vS (α 6) 1 1, vS (α 7) ((g + 1) + 1) ((g + 1) + 1 + α 1007), vP cs, .pointer (some ⟨cs, 5, none⟩), IQ, IR, IS, IT, IU, IV, IW, IX, IY, IZ, J0, J1, J2, J3, J4, J5, J6, J7, J8, J9, JA, JB, JC, JD, JE, JF, JG, JH, JI, JJ, JK, JL, JM, JN, JO, JP, JQ, JR, JS, JT, JU, JV, JW, JX, JY, JZ, M0, M1, M2, M3, M4, M5, M6, M7, M8, M9, MA, MB, MC, MD, ME, MF, MG, MH, MI, MJ, MK, ML, MM, MN, MO, MP, MQ, MR, MS, MT, MU, MV, MW, MX, MY, MZ, N0, N1, N2, N3, N4, N5, N6, N7, N8, N9, NA, NB, NC, ND, NE, NF, NG, NH, NI, NJ, NK, NL, NM, NN, NO, NP, NQ, NR, NS, NT, NU, NV, NW, NX, NY, NZ, O0, O1, O2, O3, O4, O5, O6, O7, O8, O9, OA, OB, OC, OD, OE, OF, OG, OH, OI, OJ, OK, OL, OM, ON, OO, OP, OQ, OR, OS, OT, OU, OV, OW, OX, OY, OZ, P0, P1, P2, P3, P4, P5, P6, P7, P8, P9, PA, PB, PD, PE, PF, PG], []⟩ := by rw [← hfr]; kernel_rfl
 clear hfr
 subst hdf
 generalize α 6 = nd9 at hO ⊢
 generalize α 7 = nd10 at hO ⊢
 generalize α 1007 = nd11 at hO ⊢
 clear α
 subst hX9_8
 replace hO : Own w0 u [row (B6) 31 #[vU src, vU (n : Int)], row (cs) 99 ((KC.setIfInBounds 5 (vS nd4 (g + 1) (g + 1 + nd5))).setIfInBounds 5 (vS nd10 ((g + 1) + 1) ((g + 1) + 1 + nd11))), row (nd10) 31 (full refZ ((G ++ [vU src, vU (n : Int)]) ++ [vU src, vU (n : Int)]) (nd11)), row (nd9) 31 #[vU src, vU (n : Int)], row (pb) 252 (PC.setIfInBounds 106 (vS nd2 (n + 1) (n + 1 + nd3))), row (nd2) 260 (full symZ (symL (st ++ [syk ⟨#[95, 112, 114, 111, 109, 105, 115, 101]⟩ 27])) nd3), row (x5) 25 #[vP pb], row (cx) 33 #[vI loc, vU src, vU (si : Int), .bool true], row (v26) 28 #[vI loc], row (v27) 52 #[ev, vI loc], row (pt) 107 QC, ((mu, .map (uA ul) (uN ul)) : Rw), row (db) 113 (full dsyZ DL cd)] X := hO.back HL.out HX.out [1, 2, 5, 6, 7, 8, 9, 10, 11] dc dc
 clear HL HX
 obtain ⟨aK, ar, aL, aM, -⟩ := hO.k2 0 rfl
 obtain ⟨am, an, ao, ap, -⟩ := hO.k2 3 rfl
 obtain ⟨aG, aH, aI, -⟩ := hO.k1 6 rfl
 obtain ⟨aA, aJ, au, bQ, aB, aC, -⟩ := hO.k4 7 rfl
 obtain ⟨aU, aV, aW, -⟩ := hO.k1 8 rfl
 obtain ⟨av, aw, ax, ay, -⟩ := hO.k2 9 rfl
 have HO := Lib.hid hO
 clear hO
 go_wp2_with (first | (with_reducible refine Own.stay (fn := Tryd.f39) ?_) | (first | (go_at_call 57; go_in)))
 try with_reducible refine Own.Stay.mk ?_
 have hO := HO.out
 clear HO aK ar aL aM am an ao ap aG aH aI aA aJ au bQ aB aC aU aV aW av aw ax ay
 obtain ⟨HL, HX⟩ := hid2 hO
 have hP9 := hO.pick [0, 4, 6, 10, 12] dc
 generalize hX9_12 : Own.Rest _ _ X = X9_12 at hP9
 replace hP9 : Own w0 u [row (B6) 31 #[vU src, vU (n : Int)], row (pb) 252 (PC.setIfInBounds 106 (vS nd2 (n + 1) (n + 1 + nd3))), row (x5) 25 #[vP pb], row (pt) 107 QC, row (db) 113 (full dsyZ DL cd)] X9_12 := hP9
 clear hO
 have hO := hP9
 clear hP9
 have st9 := rfinP1a3_st pb PC n src pt QC db DL cd d x5 nd2 nd3 B6
 let R9 := rfinP1a3R pb PC n src pt QC db DL cd d x5 nd2 nd3 B6
 refine wp_region_own (e := rfinP1a3E pb PC n src pt QC db DL cd d x5 nd2 nd3 B6) (anc := rfinP1a3Anc) (G := (fun L9 α u9 => OwnF w0 u9 (act rfinP1a3Cnt 5 L9) (rfinP1a3R pb PC n src pt QC db DL cd d x5 nd2 nd3 B6 L9 α) X9_12)) (by kernel_rfl) (by kernel_rfl) (by kernel_rfl) (by kernel_rfl) (rfinP1a3_he pb PC n src pt QC db DL cd d x5 nd2 nd3 B6) ?_ (RunsAll.all ?_) ?_
 ·have hp : ∀ i, act rfinP1a3Cnt 5 (fun _ => false) i → i ∈ [999, 1999, 2999, 3999, 4999] := by
   intro i hi
   have h9 : i % 1000 = 999 := by
    by_cases h : i % 1000 = 999
    ·exact h
    ·exact absurd (act_lt hi h) (by simp)
   unfold act at hi
   rw [if_pos h9] at hi
   simp only [List.mem_cons, List.not_mem_nil, or_false]
   omega
  refine hO.drew.family (fun i hi => ?_) (fun i j hi hj hij => ?_)
  ·have := hp i hi
   simp only [List.mem_cons, List.not_mem_nil, or_false] at this
   rcases this with rfl | rfl | rfl | rfl | rfl <;> rfl
  ·have h1 := hp i hi
   have h2 := hp j hj
   simp only [List.mem_cons, List.not_mem_nil, or_false] at h1 h2
   omega
 ·refine ⟨?_, ?_, ?_, ?_, ?_, ?_, ?_, ?_, ?_, ?_, ?_, ?_, ?_, ?_, ?_, ?_, ?_, ?_, ?_, trivial⟩
  ·refine pur st9 rfl rfl fun L9 α a9 u9 K9 hL hcl hA hG hS h0 h1 hK => ?_
   have s5 := eS (vP x5) ((h0 5 (by kernel_rfl)).trans rfl)
   have e0 : R9 L9 α 2999 = row (x5) 25 #[vP pb] := rfl
   have hr := hG.rowAt 2999 (act_base 2999 rfl) e0
   have c0 : u9.cell? ⟨x5, 0, none⟩ = some (vP pb) := hr.cell rfl
   clear hr e0
   go_simp
   exact hK
  ·refine pur st9 rfl rfl fun L9 α a9 u9 K9 hL hcl hA hG hS h0 h1 hK => ?_
   have s250 := eS (vP pb) (hS 0 250 dc rfl (ltd 420 rfl))
   go_simp
   exact hK
  ·refine pur st9 rfl rfl fun L9 α a9 u9 K9 hL hcl hA hG hS h0 h1 hK => ?_
   have s251 := eS (vP pb) (hS 1 251 dc rfl (ltd 420 rfl))
   go_simp
   exact hK
  ·refine pur st9 rfl rfl fun L9 α a9 u9 K9 hL hcl hA hG hS h0 h1 hK => ?_
   have s252 := eS (.pointer (some ⟨pb, 105, none⟩)) (hS 2 252 dc rfl (ltd 420 rfl))
   have e0 : R9 L9 α 1999 = row (pb) 252 (PC.setIfInBounds 106 (vS nd2 (n + 1) (n + 1 + nd3))) := rfl
   have hr := hG.rowAt 1999 (act_base 1999 rfl) e0
   have c0 : u9.cell? ⟨pb, 105, none⟩ = some (vP pt) := hr.cell ((get_other hk105 (by omega) _))
   clear hr e0
   go_simp
   exact hK
  ·refine pur st9 rfl rfl fun L9 α a9 u9 K9 hL hcl hA hG hS h0 h1 hK => ?_
   have s5 := eS (vP x5) ((h0 5 (by kernel_rfl)).trans rfl)
   have e0 : R9 L9 α 2999 = row (x5) 25 #[vP pb] := rfl
   have hr := hG.rowAt 2999 (act_base 2999 rfl) e0
   have c0 : u9.cell? ⟨x5, 0, none⟩ = some (vP pb) := hr.cell rfl
   clear hr e0
   go_simp
   exact hK
  ·refine pur st9 rfl rfl fun L9 α a9 u9 K9 hL hcl hA hG hS h0 h1 hK => ?_
   have s254 := eS (vP pb) (hS 4 254 dc rfl (ltd 420 rfl))
   go_simp
   exact hK
  ·refine pur st9 rfl rfl fun L9 α a9 u9 K9 hL hcl hA hG hS h0 h1 hK => ?_
   have s255 := eS (vP pb) (hS 5 255 dc rfl (ltd 420 rfl))
   go_simp
   exact hK
  ·refine pur st9 rfl rfl fun L9 α a9 u9 K9 hL hcl hA hG hS h0 h1 hK => ?_
   have s256 := eS (.pointer (some ⟨pb, 105, none⟩)) (hS 6 256 dc rfl (ltd 420 rfl))
   have e0 : R9 L9 α 1999 = row (pb) 252 (PC.setIfInBounds 106 (vS nd2 (n + 1) (n + 1 + nd3))) := rfl
   have hr := hG.rowAt 1999 (act_base 1999 rfl) e0
   have c0 : u9.cell? ⟨pb, 105, none⟩ = some (vP pt) := hr.cell ((get_other hk105 (by omega) _))
   clear hr e0
   go_simp
   exact hK
  ·refine pur st9 rfl rfl fun L9 α a9 u9 K9 hL hcl hA hG hS h0 h1 hK => ?_
   have s257 := eS (vP pt) (hS 7 257 dc rfl (ltd 420 rfl))
   go_simp
   exact hK
  ·refine pur st9 rfl rfl fun L9 α a9 u9 K9 hL hcl hA hG hS h0 h1 hK => ?_
   have s258 := eS (vP pt) (hS 8 258 dc rfl (ltd 420 rfl))
   go_simp
   exact hK
  ·refine pur st9 rfl rfl fun L9 α a9 u9 K9 hL hcl hA hG hS h0 h1 hK => ?_
   replace hL : L9 10 = false := hL
   have s259 := eS (.pointer (some ⟨pt, 3, none⟩)) (hS 9 259 dc rfl (ltd 420 rfl))
   have e0 : R9 L9 α 3999 = row (pt) 107 QC := by
    show rfinP1a3T3999 pb PC n src pt QC db DL cd d x5 nd2 nd3 B6 L9 α = _
    unfold rfinP1a3T3999
    rw [if_neg (fun e => by have := hcl 18 e 10 dc; rw [hL] at this; cases this)]
   have hr := hG.rowAt 3999 (act_base 3999 rfl) e0
   have c0 : u9.cell? ⟨pt, 3, none⟩ = some (vS db d (d + cd)) := hr.cell (hds)
   clear hr e0
   go_simp
   exact hK
  ·refine pur st9 rfl rfl fun L9 α a9 u9 K9 hL hcl hA hG hS h0 h1 hK => ?_
   have q25 : a9.tmps[25]? = some (bF) := (h0 25 (by kernel_rfl)).trans rfl
   have s25 := Rega.eval_of q25
   go_simp
   exact hK
  ·refine pur st9 rfl rfl fun L9 α a9 u9 K9 hL hcl hA hG hS h0 h1 hK => ?_
   have s29 := eS (vP B6) ((h0 29 (by kernel_rfl)).trans rfl)
   have e0 : R9 L9 α 999 = row (B6) 31 #[vU src, vU (n : Int)] := rfl
   have hr := hG.rowAt 999 (act_base 999 rfl) e0
   have c0 : u9.cell? ⟨B6, 0, none⟩ = some (vU src) := hr.cell rfl
   have c1 : u9.cell? ⟨B6, 1, none⟩ = some (vU (n : Int)) := hr.cell rfl
   clear hr e0
   go_simp
   exact hK
  ·refine pur st9 rfl rfl fun L9 α a9 u9 K9 hL hcl hA hG hS h0 h1 hK => ?_
   have q261 : a9.tmps[261]? = some (bF) := hS 11 261 dc rfl (ltd 420 rfl)
   have s261 := Rega.eval_of q261
   have q262 : a9.tmps[262]? = some (.agg #[vU src, vU (n : Int)]) := hS 12 262 dc rfl (ltd 420 rfl)
   have s262 := Rega.eval_of q262
   go_simp
   exact hK
  ·intro L9 α a9 u9 K9 hL hcl hA hG hS h0 h1 hK
   replace hL : L9 14 = false := hL
   have q263 : a9.tmps[263]? = some (.agg #[vU src, vU (n : Int), bF]) := hS 13 263 dc rfl (ltd 420 rfl)
   have s263 := Rega.eval_of q263
   go_simp
   exact hK _ (fun j => if j = 14 then u9.heap.size else α j) _ (fun j hj => if_neg (fun e => hj (by rw [e]))) rfl (step_alloc st9 hL hcl rfl rfl dc _ rfl hG)
  ·intro L9 α a9 u9 K9 hL hcl hA hG hS h0 h1 hK
   replace hL : L9 15 = false := hL
   have q260 : a9.tmps[260]? = some (vS db d (d + cd)) := hS 10 260 dc rfl (ltd 420 rfl)
   have s260 := Rega.eval_of q260
   have q264 : a9.tmps[264]? = some (vS (α 14) 1 1) := hS 14 264 dc rfl (ltd 420 rfl)
   have s264 := Rega.eval_of q264
   simp only [Region.wanted, if_true]
   have e0 : R9 L9 α 4999 = row (db) 113 (full dsyZ DL cd) := by
    show rfinP1a3T4999 pb PC n src pt QC db DL cd d x5 nd2 nd3 B6 L9 α = _
    unfold rfinP1a3T4999
    rw [if_neg (by rw [hL]; decide)]
   have e1 : R9 L9 α 14 = row (α 14) 113 #[vU src, vU (n : Int), bF] := rfl
   have hM : ∀ i, i ∈ [4999, 14] → act rfinP1a3Cnt 5 L9 i := by
    intro i hi
    simp only [List.mem_cons, List.not_mem_nil, or_false] at hi
    rcases hi with rfl | rfl
    ·exact act_base 4999 rfl
    ·exact act_new 14 rfl (hA 14 dc)
   have hP : Own w0 u9 [row (db) 113 (full dsyZ DL cd), row (α 14) 113 #[vU src, vU (n : Int), bF]] _ := (hG.pick [4999, 14] dc hM).conv (by
    show [R9 L9 α 4999, R9 L9 α 14] = _
    rw [e0, e1])
   clear e0 e1 hM
   obtain ⟨i9, hi9, z1, z2, z3⟩ := info_parts infoDsy
   refine wp_append_full (Operand.tmp 260) (Operand.tmp 264) 101 rfl 113 i9 (.agg dsyZ) 3 12 Tryd.underlying101 hi9 z1 z2 z3 rfl dc hP s260 s264 (by first | rfl | assumption | (simp; done) | (simp; omega)) (by first | rfl | assumption | omega) rfl (oneAll rfl) (by first | decide | omega | (unfold maxLen; omega)) (by first | decide | omega | (unfold maxLen; omega)) ?_
   intro b0 b1 u1 hQ
   obtain ⟨α', hα'⟩ : ∃ α' : Rega.Atoms, α' = (fun j => if j = 15 then b0 else if j = 1015 then b1 else α j) := ⟨_, rfl⟩
   have f0 : R9 (Rega.ran L9 15) α' 4999 = row (α' 15) 113 (full dsyZ (DL ++ [vU src, vU (n : Int), bF]) (α' 1015)) := by
    show rfinP1a3T4999 pb PC n src pt QC db DL cd d x5 nd2 nd3 B6 (Rega.ran L9 15) α' = _
    unfold rfinP1a3T4999
    rw [if_pos (show Rega.ran L9 15 15 = true from rfl)]
   have f1 : R9 (Rega.ran L9 15) α' 14 = row (α' 14) 113 #[vU src, vU (n : Int), bF] := rfl
   have hα : ∀ j, j % 1000 ≠ 15 → α' j = α j := fun j hj => by rw [hα']; simp only []; rw [if_neg (by omega), if_neg (by omega)]
   have hb0 : α' 15 = b0 := by rw [hα']; rfl
   have hb1 : α' 1015 = b1 := by rw [hα']; rfl
   have ha14 : α' 14 = α 14 := hα 14 dc
   refine hK _ α' _ hα ?_ (step_call (st9) hL hcl hα [4999, 14] [4999, 14] dc dc dc (M := _) ?_ hG hQ)
   ·show _ = (vS (α' 15) (d + 1) (d + 1 + α' 1015) : Value)
    simp only [hb0, hb1]
   ·show [R9 (Rega.ran L9 15) α' 4999, R9 (Rega.ran L9 15) α' 14] = _
    rw [f0, f1]
    simp only [hb0, hb1, ha14]
    try rfl
  ·refine pur st9 rfl rfl fun L9 α a9 u9 K9 hL hcl hA hG hS h0 h1 hK => ?_
   have s253 := eS (vP pt) (hS 3 253 dc rfl (ltd 420 rfl))
   go_simp
   exact hK
  ·refine pur st9 rfl rfl fun L9 α a9 u9 K9 hL hcl hA hG hS h0 h1 hK => ?_
   have s266 := eS (vP pt) (hS 16 266 dc rfl (ltd 420 rfl))
   go_simp
   exact hK
  ·intro L9 α a9 u9 K9 hL hcl hA hG hS h0 h1 hK
   replace hL : L9 18 = false := hL
   have q267 : a9.tmps[267]? = some (.pointer (some ⟨pt, 3, none⟩)) := hS 17 267 dc rfl (ltd 420 rfl)
   have s267 := Rega.eval_of q267
   have q265 : a9.tmps[265]? = some (vS (α 15) (d + 1) (d + 1 + α 1015)) := hS 15 265 dc rfl (ltd 420 rfl)
   have s265 := Rega.eval_of q265
   have e0 : R9 L9 α 3999 = row (pt) 107 QC := by
    show rfinP1a3T3999 pb PC n src pt QC db DL cd d x5 nd2 nd3 B6 L9 α = _
    unfold rfinP1a3T3999
    rw [if_neg (by rw [hL]; decide)]
   have hr := hG.rowAt 3999 (act_base 3999 rfl) e0
   have c0 : u9.cell? ⟨pt, 3, none⟩ = some (vS db d (d + cd)) := hr.cell (hds)
   have y0 : u9.frozen? ⟨pt, 3, none⟩ = false := hr.free (3)
   clear hr
   have E0 := Lib.hid e0
   clear e0
   go_simp
   have e1 : R9 (Rega.ran L9 18) α 3999 = row (pt) 107 (QC.setIfInBounds 3 (vS (α 15) (d + 1) (d + 1 + α 1015))) := by
    show rfinP1a3T3999 pb PC n src pt QC db DL cd d x5 nd2 nd3 B6 (Rega.ran L9 18) α = _
    unfold rfinP1a3T3999
    rw [if_pos (show Rega.ran L9 18 18 = true from rfl)]
   exact hK _ α _ (fun _ _ => rfl) rfl (step_sets (st9) hL hcl rfl 3999 rfl (act_base 3999 rfl) E0.out (3) [vS (α 15) (d + 1) (d + 1 + α 1015)] (e1.trans rfl) hG)
 clear st9
 intro α u hG
 have e0 : R9 (fun k => decide (k < 19)) α 999 = row (B6) 31 #[vU src, vU (n : Int)] := rfl
 have e1 : R9 (fun k => decide (k < 19)) α 1999 = row (pb) 252 (PC.setIfInBounds 106 (vS nd2 (n + 1) (n + 1 + nd3))) := rfl
 have e2 : R9 (fun k => decide (k < 19)) α 2999 = row (x5) 25 #[vP pb] := rfl
 have e3 : R9 (fun k => decide (k < 19)) α 3999 = row (pt) 107 (QC.setIfInBounds 3 (vS (α 15) (d + 1) (d + 1 + α 1015))) := by
  show rfinP1a3T3999 pb PC n src pt QC db DL cd d x5 nd2 nd3 B6 (fun k => decide (k < 19)) α = _
  unfold rfinP1a3T3999
  rw [if_pos dc]
 have e4 : R9 (fun k => decide (k < 19)) α 4999 = row (α 15) 113 (full dsyZ (DL ++ [vU src, vU (n : Int), bF]) (α 1015)) := by
  show rfinP1a3T4999 pb PC n src pt QC db DL cd d x5 nd2 nd3 B6 (fun k => decide (k < 19)) α = _
  unfold rfinP1a3T4999
  rw [if_pos dc]
 have e5 : R9 (fun k => decide (k < 19)) α 14 = row (α 14) 113 #[vU src, vU (n : Int), bF] := rfl
 have hO : Own w0 u [row (B6) 31 #[vU src, vU (n : Int)], row (pb) 252 (PC.setIfInBounds 106 (vS nd2 (n + 1) (n + 1 + nd3))), row (x5) 25 #[vP pb], row (pt) 107 (QC.setIfInBounds 3 (vS (α 15) (d + 1) (d + 1 + α 1015))), row (α 15) 113 (full dsyZ (DL ++ [vU src, vU (n : Int), bF]) (α 1015)), row (α 14) 113 #[vU src, vU (n : Int), bF]] X9_12 := (hG.list [999, 1999, 2999, 3999, 4999, 14] dc (act_all dc)).conv (by
  show [R9 (fun k => decide (k < 19)) α 999, R9 (fun k => decide (k < 19)) α 1999, R9 (fun k => decide (k < 19)) α 2999, R9 (fun k => decide (k < 19)) α 3999, R9 (fun k => decide (k < 19)) α 4999, R9 (fun k => decide (k < 19)) α 14] = _
  rw [e0, e1, e2, e3, e4, e5])
 clear hG e0 e1 e2 e3 e4 e5 R9
 generalize hfr : Rega.frameAt _ _ _ _ _ = fr
 have hdf : fr = ⟨#[vP cx, A0, sv2, A1, A2, vP x5, A3, A4, A5, rv9, vP e10, A6, A7, A8, A9, AA, AB, AC, AD, AE, AF, t21, t22, t23, vP cs, bF, vP v26, vP v27, vN, vP B6, AK, AL, AM, AN, AO, AP, AQ, AR, AS, AT, AU, AV, AW, AX, AY, AZ, B0, B1, B2, B3, B4, B5, B7, B8, B9, BA, BB, BC, BD, BE, BF, BG, BH, BI, BJ, BK, BL, BM, BN, BO, BP, BQ, BR, BS, BT, BU, BV, BW, BX, BY, BZ, C0, C1, C2, C3, C4, C5, C6, C7, C8, C9, CA, CB, CC, CD, CE, CF, CG, CH, CI, CJ, CK, CL, CM, CN, CO, CP, CQ, CR, CS, CT, CU, CV, CW, CX, CY, CZ, E1, E2, E3, E4, E5, E6, E7, E8, E9, EA, EB, EC, ED, EE, EF, EG, EH, EI, EJ, EK, EL, EM, EN, EO, EP, EQ, ER, ES, ET, EU, EV, EW, EX, EY, EZ, F0, F1, F2, F3, F4, F5, F6, F7, F8, F9, FA, FB, FC, FD, FE, FF, FG, FH, FI, FJ, FK, FL, FM, FN, FO, FP, FQ, FR, FS, FT, FU, FV, FW, FX, FY, FZ, G0, G1, G2, G3, G4, G5, G6, G7, G8, G9, GA, GB, GC, GD, GE, GF, GG, GH, GI, GJ, GK, GL, GM, GN, GO, GP, GQ, GR, GS, GT, GU, GV, GW, GX, GY, GZ, I0, I1, I2, I3, I4, I5, I6, I7, I8, I9, vP cx, vP cx, .pointer (some ⟨cx, 3, none⟩), .bool true, vP pb, .agg #[vU src, vU (n : Int)], vP cs, vP cs, vP cs, .pointer (some ⟨cs, 5, none⟩), vS nd4 (g + 1) (g + 1 + nd5), .agg #[vU src, vU (n : Int)], vS nd9 1 1, vS nd10 (g + 1 + 1) (g + 1 + 1 + nd11), vP cs, .pointer (some ⟨cs, 5, none⟩), vP pb, vP pb, .pointer (some ⟨pb, 105, none⟩), vP pt, vP pb, vP pb, .pointer (some ⟨pb, 105, none⟩), vP pt, vP pt, .pointer (some ⟨pt, 3, none⟩), vS db d (d + cd), bF, .agg #[vU src, vU (n : Int)], .agg #[vU src, vU (n : Int), bF], vS (α 14) 1 1, vS (α 15) (d + 1) (d + 1 + α 1015), vP pt, .pointer (some ⟨pt, 3, none⟩), J8, J9, JA, JB, JC, JD, JE, JF, JG, JH, JI, JJ, JK, JL, JM, JN, JO, JP, JQ, JR, JS, JT, JU, JV, JW, JX, JY, JZ, M0, M1, M2, M3, M4, M5, M6, M7, M8, M9, MA, MB, MC, MD, ME, MF, MG, MH, MI, MJ, MK, ML, MM, MN, MO, MP, MQ, MR, MS, MT, MU, MV, MW, MX, MY, MZ, N0, N1, N2, N3, N4, N5, N6, N7, N8, N9, NA, NB, NC, ND, NE, NF, NG, NH, NI, NJ, NK, NL, NM, NN, NO, NP, NQ, NR, NS, NT, NU, NV, NW, NX, NY, NZ, O0, O1, O2, O3, O4, O5, O6, O7, O8, O9, OA, OB, OC, OD, OE, OF, OG, OH, OI, OJ, OK, OL, OM, ON, OO, OP, OQ, OR, OS, OT, OU, OV, OW, OX, OY, OZ, P0, P1, P2, P3, P4, P5, P6, P7, P8, P9, PA, PB, PD, PE, PF, PG], []⟩ := by rw [← hfr]; kernel_rfl
 clear hfr
 subst hdf
 generalize α 14 = nd13 at hO ⊢
 generalize α 15 = nd14 at hO ⊢
 generalize α 1015 = nd15 at hO ⊢
 clear α
 subst hX9_12
 replace hO : Own w0 u [row (B6) 31 #[vU src, vU (n : Int)], row (pb) 252 (PC.setIfInBounds 106 (vS nd2 (n + 1) (n + 1 + nd3))), row (x5) 25 #[vP pb], row (pt) 107 (QC.setIfInBounds 3 (vS nd14 (d + 1) (d + 1 + nd15))), row (nd14) 113 (full dsyZ (DL ++ [vU src, vU (n : Int), bF]) (nd15)), row (nd13) 113 #[vU src, vU (n : Int), bF], row (cs) 99 ((KC.setIfInBounds 5 (vS nd4 (g + 1) (g + 1 + nd5))).setIfInBounds 5 (vS nd10 ((g + 1) + 1) ((g + 1) + 1 + nd11))), row (nd10) 31 (full refZ ((G ++ [vU src, vU (n : Int)]) ++ [vU src, vU (n : Int)]) (nd11)), row (nd9) 31 #[vU src, vU (n : Int)], row (nd2) 260 (full symZ (symL (st ++ [syk ⟨#[95, 112, 114, 111, 109, 105, 115, 101]⟩ 27])) nd3), row (cx) 33 #[vI loc, vU src, vU (si : Int), .bool true], row (v26) 28 #[vI loc], row (v27) 52 #[ev, vI loc], ((mu, .map (uA ul) (uN ul)) : Rw)] X := hO.back HL.out HX.out [1, 2, 3, 5, 7, 8, 9, 11] dc dc
 clear HL HX
 obtain ⟨aK, ar, aL, aM, -⟩ := hO.k2 0 rfl
 obtain ⟨aN, aO, aP, -⟩ := hO.k1 2 rfl
 obtain ⟨aD, aT, aq, aE, aF, -⟩ := hO.k3 5 rfl
 obtain ⟨aU, bR, aV, aW, -⟩ := hO.k2 8 rfl
 obtain ⟨aX, aY, az, bS, aZ, aa, -⟩ := hO.k4 10 rfl
 obtain ⟨bA, bB, bC, -⟩ := hO.k1 11 rfl
 obtain ⟨ab, bD, ac, ad, -⟩ := hO.k2 12 rfl
 have HO := Lib.hid hO
 clear hO
 go_wp2_with (first | (with_reducible refine Own.stay (fn := Tryd.f39) ?_) | (first | (go_at_call 57; go_in)))
 try with_reducible refine Own.Stay.mk ?_
 have hO := HO.out
 clear HO aK ar aL aM aN aO aP aD aT aq aE aF aU bR aV aW aX aY az bS aZ aa bA bB bC ab bD ac ad
 obtain ⟨HL, HX⟩ := hid2 hO
 have hP9 := hO.pick [1, 9, 3, 13] dc
 have h9_hn : (st ++ [syk ⟨#[95, 112, 114, 111, 109, 105, 115, 101]⟩ 27]).length = (n + 1) := (by first | assumption | (simp; done) | (simp [hn]; done) | (simp [bump_length, hn]; done) | (simp [bump_length]; omega))
 have h9_hnb : (n + 1) ≤ 4000000 := (by omega)
 have h9_hi : n < (n + 1) := (by omega)
 have T9 := useP pb (PC.setIfInBounds 106 (vS nd2 (n + 1) ((n + 1) + nd3))) nd2 nd3 (st ++ [syk ⟨#[95, 112, 114, 111, 109, 105, 115, 101]⟩ 27]) (n + 1) pt (QC.setIfInBounds 3 (vS nd14 (d + 1) ((d + 1) + nd15))) mu ul src n _ _ _ hP9 (get_other hk350 (by omega) _) (get_other hk32 (by omega) _) (get_other hk105 (by omega) _) (get_set hk106 _) h9_hn h9_hnb (get_other hsu (by omega) _) h9_hi
 refine Calls.mono T9 ?_
 clear hP9 T9 h9_hn h9_hnb h9_hi
 rintro e uw16 ⟨rfl, hQ⟩
 replace hO : Own w0 uw16 [row (pb) 252 (PC.setIfInBounds 106 (vS nd2 (n + 1) ((n + 1) + nd3))), row (nd2) 260 (full symZ (symL (bump (st ++ [syk ⟨#[95, 112, 114, 111, 109, 105, 115, 101]⟩ 27]) n)) nd3), row (pt) 107 (QC.setIfInBounds 3 (vS nd14 (d + 1) ((d + 1) + nd15))), ((mu, .map (uA (ubump ul src (n : Int))) (uN (ubump ul src (n : Int)))) : Rw), row (B6) 31 #[vU src, vU (n : Int)], row (x5) 25 #[vP pb], row (nd14) 113 (full dsyZ (DL ++ [vU src, vU (n : Int), bF]) (nd15)), row (nd13) 113 #[vU src, vU (n : Int), bF], row (cs) 99 ((KC.setIfInBounds 5 (vS nd4 (g + 1) (g + 1 + nd5))).setIfInBounds 5 (vS nd10 ((g + 1) + 1) ((g + 1) + 1 + nd11))), row (nd10) 31 (full refZ ((G ++ [vU src, vU (n : Int)]) ++ [vU src, vU (n : Int)]) (nd11)), row (nd9) 31 #[vU src, vU (n : Int)], row (cx) 33 #[vI loc, vU src, vU (si : Int), .bool true], row (v26) 28 #[vI loc], row (v27) 52 #[ev, vI loc]] X := hQ.back HL.out HX.out [0, 2, 4, 5, 6, 7, 8, 10, 11, 12] dc dc
 clear hQ HL HX
 obtain ⟨aQ, bE, aR, aS, -⟩ := hO.k2 4 rfl
 obtain ⟨aD, aE, aF, -⟩ := hO.k1 5 rfl
 obtain ⟨aA, aJ, au, aB, aC, -⟩ := hO.k3 7 rfl
 obtain ⟨aX, aY, aZ, aa, -⟩ := hO.k2 10 rfl
 obtain ⟨bA, bT, bU, bV, bB, bC, -⟩ := hO.k4 11 rfl
 obtain ⟨ab, ac, ad, -⟩ := hO.k1 12 rfl
 obtain ⟨ae, af, ag, ah, -⟩ := hO.k2 13 rfl
 have HO := Lib.hid hO
 clear hO
 go_wp2_with (first | (with_reducible refine Own.stay (fn := Tryd.f39) ?_) | (first | (go_at_call 57; go_in)))
 try with_reducible refine Own.Stay.mk ?_
 have hO := HO.out
 clear HO aQ bE aR aS aD aE aF aA aJ au aB aC aX aY aZ aa bA bT bU bV bB bC ab ac ad ae af ag ah
 generalize hW : World.alloc _ _ = W18
 have hN : Own w0 W18 [row (uw16.heap.size + 1) 307 #[vF 267 uw16.heap.size, vI loc], row (uw16.heap.size) 270 #[vU src, vU (n : Int), bF, bF, bF], row (pb) 252 (PC.setIfInBounds 106 (vS nd2 (n + 1) ((n + 1) + nd3))), row (nd2) 260 (full symZ (symL (bump (st ++ [syk ⟨#[95, 112, 114, 111, 109, 105, 115, 101]⟩ 27]) n)) nd3), row (pt) 107 (QC.setIfInBounds 3 (vS nd14 (d + 1) ((d + 1) + nd15))), ((mu, .map (uA (ubump ul src (n : Int))) (uN (ubump ul src (n : Int)))) : Rw), row (B6) 31 #[vU src, vU (n : Int)], row (x5) 25 #[vP pb], row (nd14) 113 (full dsyZ (DL ++ [vU src, vU (n : Int), bF]) (nd15)), row (nd13) 113 #[vU src, vU (n : Int), bF], row (cs) 99 ((KC.setIfInBounds 5 (vS nd4 (g + 1) (g + 1 + nd5))).setIfInBounds 5 (vS nd10 ((g + 1) + 1) ((g + 1) + 1 + nd11))), row (nd10) 31 (full refZ ((G ++ [vU src, vU (n : Int)]) ++ [vU src, vU (n : Int)]) (nd11)), row (nd9) 31 #[vU src, vU (n : Int)], row (cx) 33 #[vI loc, vU src, vU (si : Int), .bool true], row (v26) 28 #[vI loc], row (v27) 52 #[ev, vI loc]] X := by
  rw [← hW]
  exact ((hO).alloc' _ (uw16.heap.size) (by simp)).alloc' _ (uw16.heap.size + 1) (by simp)
 clear hW hO
 generalize uw16.heap.size + 1 = B17_1 at hN ⊢
 generalize uw16.heap.size = B17 at hN ⊢
 have hO := hN
 clear hN
 obtain ⟨HL, HX⟩ := hid2 hO
 have hP9 := hO.pick [2] dc
 have T9 := awaitP pb (PC.setIfInBounds 106 (vS nd2 (n + 1) ((n + 1) + nd3))) B17_1 loc _ _ _ hP9 (get_other hk333 (by omega) _) (get_other hk23 (by omega) _)
 refine Calls.mono T9 ?_
 clear hP9 T9
 rintro e uw19 ⟨rfl, hQ⟩
 replace hO : Own w0 uw19 [row (pb) 252 (PC.setIfInBounds 106 (vS nd2 (n + 1) ((n + 1) + nd3))), row (B17_1) 307 #[vF 267 B17, vI loc], row (B17) 270 #[vU src, vU (n : Int), bF, bF, bF], row (nd2) 260 (full symZ (symL (bump (st ++ [syk ⟨#[95, 112, 114, 111, 109, 105, 115, 101]⟩ 27]) n)) nd3), row (pt) 107 (QC.setIfInBounds 3 (vS nd14 (d + 1) ((d + 1) + nd15))), ((mu, .map (uA (ubump ul src (n : Int))) (uN (ubump ul src (n : Int)))) : Rw), row (B6) 31 #[vU src, vU (n : Int)], row (x5) 25 #[vP pb], row (nd14) 113 (full dsyZ (DL ++ [vU src, vU (n : Int), bF]) (nd15)), row (nd13) 113 #[vU src, vU (n : Int), bF], row (cs) 99 ((KC.setIfInBounds 5 (vS nd4 (g + 1) (g + 1 + nd5))).setIfInBounds 5 (vS nd10 ((g + 1) + 1) ((g + 1) + 1 + nd11))), row (nd10) 31 (full refZ ((G ++ [vU src, vU (n : Int)]) ++ [vU src, vU (n : Int)]) (nd11)), row (nd9) 31 #[vU src, vU (n : Int)], row (cx) 33 #[vI loc, vU src, vU (si : Int), .bool true], row (v26) 28 #[vI loc], row (v27) 52 #[ev, vI loc]] X := hQ.back HL.out HX.out [0, 1, 3, 4, 5, 6, 7, 8, 9, 10, 11, 12, 13, 14, 15] dc dc
 clear hQ HL HX
 obtain ⟨ai, aj, ak, al, -⟩ := hO.k2 1 rfl
 obtain ⟨aN, bW, bX, bY, bZ, aO, aP, -⟩ := hO.k5 2 rfl
 obtain ⟨aG, bG, aH, aI, -⟩ := hO.k2 6 rfl
 obtain ⟨aA, aB, aC, -⟩ := hO.k1 7 rfl
 obtain ⟨av, aw, ba, ax, ay, -⟩ := hO.k3 9 rfl
 obtain ⟨ab, bD, ac, ad, -⟩ := hO.k2 12 rfl
 obtain ⟨ae, af, bb, bc, ag, ah, -⟩ := hO.k4 13 rfl
 obtain ⟨bH, bI, bJ, -⟩ := hO.k1 14 rfl
 obtain ⟨bK, bd, bL, bM, -⟩ := hO.k2 15 rfl
 have HO := Lib.hid hO
 clear hO
 go_wp2_with (first | (with_reducible refine Own.stay (fn := Tryd.f39) ?_) | (first | (go_at_call 57; go_in)))
 try with_reducible refine Own.Stay.mk ?_
 have hO := HO.out
 clear HO ai aj ak al aN bW bX bY bZ aO aP aG bG aH aI aA aB aC av aw ba ax ay ab bD ac ad ae af bb bc ag ah bH bI bJ bK bd bL bM
 generalize hW : World.alloc _ _ = W21
 have hN : Own w0 W21 [row (uw19.heap.size) 52 #[vF 305 B17_1, vI loc], row (pb) 252 (PC.setIfInBounds 106 (vS nd2 (n + 1) ((n + 1) + nd3))), row (B17_1) 307 #[vF 267 B17, vI loc], row (B17) 270 #[vU src, vU (n : Int), bF, bF, bF], row (nd2) 260 (full symZ (symL (bump (st ++ [syk ⟨#[95, 112, 114, 111, 109, 105, 115, 101]⟩ 27]) n)) nd3), row (pt) 107 (QC.setIfInBounds 3 (vS nd14 (d + 1) ((d + 1) + nd15))), ((mu, .map (uA (ubump ul src (n : Int))) (uN (ubump ul src (n : Int)))) : Rw), row (B6) 31 #[vU src, vU (n : Int)], row (x5) 25 #[vP pb], row (nd14) 113 (full dsyZ (DL ++ [vU src, vU (n : Int), bF]) (nd15)), row (nd13) 113 #[vU src, vU (n : Int), bF], row (cs) 99 ((KC.setIfInBounds 5 (vS nd4 (g + 1) (g + 1 + nd5))).setIfInBounds 5 (vS nd10 ((g + 1) + 1) ((g + 1) + 1 + nd11))), row (nd10) 31 (full refZ ((G ++ [vU src, vU (n : Int)]) ++ [vU src, vU (n : Int)]) (nd11)), row (nd9) 31 #[vU src, vU (n : Int)], row (cx) 33 #[vI loc, vU src, vU (si : Int), .bool true], row (v26) 28 #[vI loc], row (v27) 52 #[ev, vI loc]] X := by
  rw [← hW]
  exact (hO).alloc' _ (uw19.heap.size) (by simp)
 clear hW hO
 generalize uw19.heap.size = B20 at hN ⊢
 have hO := hN
 clear hN
 obtain ⟨HL, HX⟩ := hid2 hO
 have hP9 := hO.pick [1, 4, 5, 6] dc
 have h9_hn : (bump (st ++ [syk ⟨#[95, 112, 114, 111, 109, 105, 115, 101]⟩ 27]) n).length = (n + 1) := (by first | assumption | (simp; done) | (simp [hn]; done) | (simp [bump_length, hn]; done) | (simp [bump_length]; omega))
 have h9_hnb : (n + 1) ≤ 4000000 := (by omega)
 have h9_hi : n < (n + 1) := (by omega)
 have T9 := useP pb (PC.setIfInBounds 106 (vS nd2 (n + 1) ((n + 1) + nd3))) nd2 nd3 (bump (st ++ [syk ⟨#[95, 112, 114, 111, 109, 105, 115, 101]⟩ 27]) n) (n + 1) pt (QC.setIfInBounds 3 (vS nd14 (d + 1) ((d + 1) + nd15))) mu (ubump ul src (n : Int)) src n _ _ _ hP9 (get_other hk350 (by omega) _) (get_other hk32 (by omega) _) (get_other hk105 (by omega) _) (get_set hk106 _) h9_hn h9_hnb (get_other hsu (by omega) _) h9_hi
 refine Calls.mono T9 ?_
 clear hP9 T9 h9_hn h9_hnb h9_hi
 rintro e uw22 ⟨rfl, hQ⟩
 replace hO : Own w0 uw22 [row (pb) 252 (PC.setIfInBounds 106 (vS nd2 (n + 1) ((n + 1) + nd3))), row (nd2) 260 (full symZ (symL (bump (bump (st ++ [syk ⟨#[95, 112, 114, 111, 109, 105, 115, 101]⟩ 27]) n) n)) nd3), row (pt) 107 (QC.setIfInBounds 3 (vS nd14 (d + 1) ((d + 1) + nd15))), ((mu, .map (uA (ubump (ubump ul src (n : Int)) src (n : Int))) (uN (ubump (ubump ul src (n : Int)) src (n : Int)))) : Rw), row (B20) 52 #[vF 305 B17_1, vI loc], row (B17_1) 307 #[vF 267 B17, vI loc], row (B17) 270 #[vU src, vU (n : Int), bF, bF, bF], row (B6) 31 #[vU src, vU (n : Int)], row (x5) 25 #[vP pb], row (nd14) 113 (full dsyZ (DL ++ [vU src, vU (n : Int), bF]) (nd15)), row (nd13) 113 #[vU src, vU (n : Int), bF], row (cs) 99 ((KC.setIfInBounds 5 (vS nd4 (g + 1) (g + 1 + nd5))).setIfInBounds 5 (vS nd10 ((g + 1) + 1) ((g + 1) + 1 + nd11))), row (nd10) 31 (full refZ ((G ++ [vU src, vU (n : Int)]) ++ [vU src, vU (n : Int)]) (nd11)), row (nd9) 31 #[vU src, vU (n : Int)], row (cx) 33 #[vI loc, vU src, vU (si : Int), .bool true], row (v26) 28 #[vI loc], row (v27) 52 #[ev, vI loc]] X := hQ.back HL.out HX.out [0, 2, 3, 7, 8, 9, 10, 11, 12, 13, 14, 15, 16] dc dc
 clear hQ HL HX
 obtain ⟨aQ, bE, aR, aS, -⟩ := hO.k2 4 rfl
 obtain ⟨aD, aT, aE, aF, -⟩ := hO.k2 5 rfl
 obtain ⟨aG, bG, be, bf, bg, aH, aI, -⟩ := hO.k5 6 rfl
 obtain ⟨aA, aJ, aB, aC, -⟩ := hO.k2 7 rfl
 obtain ⟨aU, aV, aW, -⟩ := hO.k1 8 rfl
 obtain ⟨aX, aY, az, aZ, aa, -⟩ := hO.k3 10 rfl
 obtain ⟨ae, af, ag, ah, -⟩ := hO.k2 13 rfl
 obtain ⟨bH, bh, bi, bj, bI, bJ, -⟩ := hO.k4 14 rfl
 obtain ⟨bK, bL, bM, -⟩ := hO.k1 15 rfl
 obtain ⟨bk, bl, bm, bn, -⟩ := hO.k2 16 rfl
 have HO := Lib.hid hO
 clear hO
 go_wp2_with (first | (with_reducible refine Own.stay (fn := Tryd.f39) ?_) | (first | (go_at_call 57; go_in)))
 try with_reducible refine Own.Stay.mk ?_
 have hO := HO.out
 clear HO aQ bE aR aS aD aT aE aF aG bG be bf bg aH aI aA aJ aB aC aU aV aW aX aY az aZ aa ae af ag ah bH bh bi bj bI bJ bK bL bM bk bl bm bn
 generalize hW : World.alloc _ _ = W24
 have hN : Own w0 W24 [row (uw22.heap.size + 1 + 1 + 1 + 1 + 1 + 1) 61 #[.iface 42 (.pointer (some ⟨uw22.heap.size + 1 + 1, 0, none⟩)), vI loc, .iface 308 (.pointer (some ⟨uw22.heap.size + 1 + 1 + 1 + 1 + 1, 0, none⟩)), vI loc], row (uw22.heap.size + 1 + 1 + 1 + 1 + 1) 314 #[.iface 309 (.pointer (some ⟨uw22.heap.size + 1 + 1 + 1 + 1, 0, none⟩)), vI loc, bF], row (uw22.heap.size + 1 + 1 + 1 + 1) 312 #[.iface 267 (.pointer (some ⟨uw22.heap.size + 1 + 1 + 1, 0, none⟩)), vI loc, vF 305 B17_1, vI loc, v8 32, bF], row (uw22.heap.size + 1 + 1 + 1) 270 #[vU src, vU (n : Int), bF, bF, bF], row (uw22.heap.size + 1 + 1) 57 #[vS (uw22.heap.size + 1) 1 1, v8 0, bF, bF], row (uw22.heap.size + 1) 54 #[vF 134 uw22.heap.size, vI loc, ev, vI loc], row (uw22.heap.size) 136 #[vU src, vU (n : Int)], row (pb) 252 (PC.setIfInBounds 106 (vS nd2 (n + 1) ((n + 1) + nd3))), row (nd2) 260 (full symZ (symL (bump (bump (st ++ [syk ⟨#[95, 112, 114, 111, 109, 105, 115, 101]⟩ 27]) n) n)) nd3), row (pt) 107 (QC.setIfInBounds 3 (vS nd14 (d + 1) ((d + 1) + nd15))), ((mu, .map (uA (ubump (ubump ul src (n : Int)) src (n : Int))) (uN (ubump (ubump ul src (n : Int)) src (n : Int)))) : Rw), row (B20) 52 #[vF 305 B17_1, vI loc], row (B17_1) 307 #[vF 267 B17, vI loc], row (B17) 270 #[vU src, vU (n : Int), bF, bF, bF], row (B6) 31 #[vU src, vU (n : Int)], row (x5) 25 #[vP pb], row (nd14) 113 (full dsyZ (DL ++ [vU src, vU (n : Int), bF]) (nd15)), row (nd13) 113 #[vU src, vU (n : Int), bF], row (cs) 99 ((KC.setIfInBounds 5 (vS nd4 (g + 1) (g + 1 + nd5))).setIfInBounds 5 (vS nd10 ((g + 1) + 1) ((g + 1) + 1 + nd11))), row (nd10) 31 (full refZ ((G ++ [vU src, vU (n : Int)]) ++ [vU src, vU (n : Int)]) (nd11)), row (nd9) 31 #[vU src, vU (n : Int)], row (cx) 33 #[vI loc, vU src, vU (si : Int), .bool true], row (v26) 28 #[vI loc], row (v27) 52 #[ev, vI loc]] X := by
  rw [← hW]
  exact (((((((hO).alloc' _ (uw22.heap.size) (by simp)).alloc' _ (uw22.heap.size + 1) (by simp)).alloc' _ (uw22.heap.size + 1 + 1) (by simp)).alloc' _ (uw22.heap.size + 1 + 1 + 1) (by simp)).alloc' _ (uw22.heap.size + 1 + 1 + 1 + 1) (by simp)).alloc' _ (uw22.heap.size + 1 + 1 + 1 + 1 + 1) (by simp)).alloc' _ (uw22.heap.size + 1 + 1 + 1 + 1 + 1 + 1) (by simp)
 clear hW hO
 generalize uw22.heap.size + 1 + 1 + 1 + 1 + 1 + 1 = B23_6 at hN ⊢
 generalize uw22.heap.size + 1 + 1 + 1 + 1 + 1 = B23_5 at hN ⊢
 generalize uw22.heap.size + 1 + 1 + 1 + 1 = B23_4 at hN ⊢
 generalize uw22.heap.size + 1 + 1 + 1 = B23_3 at hN ⊢
 generalize uw22.heap.size + 1 + 1 = B23_2 at hN ⊢
 generalize uw22.heap.size + 1 = B23_1 at hN ⊢
 generalize uw22.heap.size = B23 at hN ⊢
 have hO := hN
 clear hN
 rw [HC9.out]
 exact HB.out B23_6 nd2 nd3 nd10 (nd11) nd14 (nd15) (PC.setIfInBounds 106 (vS nd2 (n + 1) ((n + 1) + nd3))) (QC.setIfInBounds 3 (vS nd14 (d + 1) ((d + 1) + nd15))) ((KC.setIfInBounds 5 (vS nd4 (g + 1) (g + 1 + nd5))).setIfInBounds 5 (vS nd10 ((g + 1) + 1) ((g + 1) + 1 + nd11))) (ubump (ubump ul src (n : Int)) src (n : Int)) (get_other hk350 (by omega) _) (get_other hk32 (by omega) _) (get_other hk105 (by omega) _) (get_set hk106 _) (get_other hsu (by omega) _) (get_set hds _) (get_set (get_set hcg _) _) (hO.sub [15, 21, 22, 7, 8, 9, 10, 18, 19, 16] dc)
end Go.Proofs.YtikopplofkemlaaDoor.Use
