/- finalize's loop over exported declarations. No condition. -/
import Derived.Test.YtikopplofkemlaaDoorFxc
namespace Go.Proofs.YtikopplofkemlaaDoor.Use
open Go.ChangeShapes Go.WideShapes Go.ChangeAt Go.RowKit Go.Sort Own
set_option linter.unusedVariables false
def FxB (pb : Nat) (PC : Array Value) (sb : Nat) (c : Nat) (st : List Sy) (cx : Nat) (tb : Nat) (tc : Nat) (D : Nat → Nat → Nat) (z : Nat → ByteArray) (nn : Nat) (w0 : World) (X : Nat → Obj → Prop) (Q : Exit → Act → World → Prop) : Prop :=
 ∀ (x5 e10 xb xc : Nat) ⦃A0 A1 A2 A3 A4 A5 A6 A7 A8 A9 AA AB AC AD AE AF AG AH AI AJ AK AL AM AN AO AP AQ AR AS AT AU AV AW AX AY AZ B0 B2 B4 B5 B6 B7 B8 B9 BA BB BC BD BE BF BG BH BI BJ BK BL BM BN BO BP BQ BR BS BT BU BV BW BX BY BZ C0 C1 C2 C3 C4 C5 C6 C7 C8 C9 CA CB CC CD CE CF CG CH CI CJ CK CL CM CN CO CP CQ CR CS CT CU CV CW CX CY CZ E0 E1 E2 E3 E4 E5 E6 E7 E8 E9 EA EB EC ED EE EF EG EH EI EJ EK EL EM EN EO EP EQ ER ES ET EU EV EW EX EY EZ F0 F1 F2 F3 F4 F5 F6 F7 F8 F9 FA FB FC FD FE FF FG FH FI FJ FK FL FM FN FO FP FQ FR FS FT FU FV FW FX FY FZ G0 G1 G2 G3 G4 G5 G6 G7 G8 G9 GA GB GC GD GE GF GG GH GI GJ GK GL GM GN GO GP GQ GR GS GT GU GV GW GX GY GZ I0 I1 I2 I3 I4 I5 I6 I7 I8 I9 IA IB IC ID IE IF IG IH II IJ IK IL IM IN IO IP IQ IR IS IT IU IV IW IX IY IZ J0 J1 J2 J3 J4 J5 J6 J7 J8 J9 JA JB JC JD JE JF JG JH JI JJ JK JL JM JN JO JP JQ JR JS JT JU JV JW JX JY JZ M0 M1 M2 M3 M4 M5 M6 M7 M8 M9 MA MB MC MD ME MF MG MH MI MJ MK ML MM MN MO MP MQ MR MS MT MU MV MW MX MY MZ N0 N1 N2 N3 N4 N5 N6 N7 N8 N9 NA NB NC ND NE NF NG NH NI NJ NK NL NM NN NO NP NQ NR NS NT NU NV NW NX NY NZ O0 O1 O2 O3 O4 O5 O6 O7 O8 O9 OA OB OC OD OE OF OG OH OI OJ OK OL OM ON OO OP OQ OR OS OT OU OV OW OX OY OZ P0 P1 P2 P3 P4 P5 P6 P7 P8 P9 PA PB PD PE PF PG PH PI PJ PK PL : Value⦄ ⦃w2 : World⦄, Own w0 w2 [row (x5) 25 #[vP pb], row (e10) 77 #[vS xb nn (nn + xc)], row (xb) 83 (full cliZ (tab (exC z) nn) xc), row (pb) 252 PC, row (sb) 260 (full symZ (symL st) c), row (tb) 61 (full stmZ (stL (dtL (D 0) lcE) (List.range nn)) tc)] (NodX X D nn nn) → Code.wp Tryd.prog restA Q ⟨#[vP cx, A0, vS tb nn (nn + tc), A1, A2, vP x5, A3, A4, A5, vN, vP e10, A6, A7, A8, A9, AA, AB, AC, AD, AE, AF, AG, AH, AI, AJ, AK, AL, AM, AN, AO, AP, AQ, AR, AS, AT, AU, AV, AW, AX, AY, AZ, B0, B2, B4, B5, B6, B7, B8, B9, BA, BB, BC, BD, BE, BF, BG, BH, BI, BJ, BK, BL, BM, BN, BO, BP, BQ, BR, BS, BT, BU, BV, BW, BX, BY, BZ, C0, C1, C2, C3, C4, C5, C6, C7, C8, C9, CA, CB, CC, CD, CE, CF, CG, CH, CI, CJ, CK, CL, CM, CN, CO, CP, CQ, CR, CS, CT, CU, CV, CW, CX, CY, CZ, E0, E1, E2, E3, E4, E5, E6, E7, E8, E9, EA, EB, EC, ED, EE, EF, EG, EH, EI, EJ, EK, EL, EM, EN, EO, EP, EQ, ER, ES, ET, EU, EV, EW, EX, EY, EZ, F0, F1, F2, F3, F4, F5, F6, F7, F8, F9, FA, FB, FC, FD, FE, FF, FG, FH, FI, FJ, FK, FL, FM, FN, FO, FP, FQ, FR, FS, FT, FU, FV, FW, FX, FY, FZ, G0, G1, G2, G3, G4, G5, G6, G7, G8, G9, GA, GB, GC, GD, GE, GF, GG, GH, GI, GJ, GK, GL, GM, GN, GO, GP, GQ, GR, GS, GT, GU, GV, GW, GX, GY, GZ, I0, I1, I2, I3, I4, I5, I6, I7, I8, I9, IA, IB, IC, ID, IE, IF, IG, IH, II, IJ, IK, IL, IM, IN, IO, IP, IQ, IR, IS, IT, IU, IV, IW, IX, IY, IZ, J0, J1, J2, J3, J4, J5, J6, J7, J8, J9, JA, JB, JC, JD, JE, JF, JG, JH, JI, JJ, JK, JL, JM, JN, JO, JP, JQ, JR, JS, JT, JU, JV, JW, JX, JY, JZ, M0, M1, M2, M3, M4, M5, M6, M7, M8, M9, MA, MB, MC, MD, ME, MF, MG, MH, MI, MJ, MK, ML, MM, MN, MO, MP, MQ, MR, MS, MT, MU, MV, MW, MX, MY, MZ, N0, N1, N2, N3, N4, N5, N6, N7, N8, N9, NA, NB, NC, ND, NE, NF, NG, NH, NI, NJ, NK, NL, NM, NN, NO, NP, NQ, NR, NS, NT, NU, NV, NW, NX, NY, NZ, O0, O1, O2, O3, O4, O5, O6, O7, O8, O9, OA, OB, OC, OD, OE, OF, OG, OH, OI, OJ, OK, OL, OM, ON, OO, OP, OQ, OR, OS, OT, OU, OV, OW, OX, OY, OZ, P0, P1, P2, P3, P4, P5, P6, P7, P8, P9, PA, PB, PD, PE, PF, PG, PH, PI, PJ, PK, PL], []⟩ w2

set_option maxRecDepth 100000 in
set_option maxHeartbeats 4000000 in
theorem finxh (pb : Nat) (PC : Array Value) (sb c : Nat) (st : List Sy) (cx tb tc : Nat) (D : Nat → Nat → Nat) (z : Nat → ByteArray) (nn n : Nat) (w0 w : World) (X : Nat → Obj → Prop) (Post : Ending → World → Prop) (hB : FxB pb PC sb c st cx tb tc D z nn w0 X (bodyPost Tryd.prog Tryd.f39 Post)) (hO : Own w0 w [row (pb) 252 PC, row (sb) 260 (full symZ (symL st) c), row (tb) 61 (full stmZ (stL (dtL (D 0) lcE) (List.range nn)) tc)] (NodX X D 0 nn)) (hk106 : PC[106]? = some (vS sb n (n + c))) (hn : st.length = n) (hnb : n ≤ 100000) (hnn : nn ≤ 5000) (hn0 : 0 < nn) (hnm : ∀ i : Nat, i < nn → ∃ y : Sy, st[i + 1]? = some y ∧ y.nm = z i) (hij : InjD D nn) (hsp : SepD X D nn) :
  Calls Tryd.prog 39 #[vP cx, vP pb, vS tb nn (nn + tc), bF] w Post := by
 go_enter Tryd.func39, Tryd.ntmps39
 have HB := Lib.hid hB
 clear hB
 obtain ⟨c9, hc9⟩ : ∃ c, c = restA := ⟨_, rfl⟩
 have HC9 := Lib.hid hc9
 simp only [restA, Tryd.f39, Option.getD_some, cutC] at hc9
 rw [← hc9]
 clear hc9
 have HNM := Lib.hid hnm
 have HIJ := Lib.hid hij
 have HSP := Lib.hid hsp
 clear hnm hij hsp
 have hn9 : (nn : Int) ≤ 5000 := by omega
 have hn8 : (0 : Int) ≤ (nn : Int) := by omega
 go_wp2_with (first | (with_reducible refine Own.stay (fn := Tryd.f39) ?_) | (at_builtin; refine Own.appStop ?_) | fail)
 try with_reducible refine Own.Stay.mk ?_
 generalize hW : World.alloc _ _ = W2
 have hN : Own w0 W2 [row (w.heap.size + 1) 77 #[vN], row (w.heap.size) 25 #[vP pb], row (pb) 252 PC, row (sb) 260 (full symZ (symL st) c), row (tb) 61 (full stmZ (stL (dtL (D 0) lcE) (List.range nn)) tc)] (NodX X D 0 nn) := by
  rw [← hW]
  exact ((hO).alloc' _ (w.heap.size) (by simp)).alloc' _ (w.heap.size + 1) (by simp)
 clear hW hO
 generalize w.heap.size + 1 = B1_1 at hN ⊢
 generalize w.heap.size = B1 at hN ⊢
 have hO := hN
 clear hN
 go_loopg [9, 11, 33] nn (fun gf s9 s11 s33 wx => ∃ i : Nat, i + gf = nn ∧ s33 = v6 (i : Int) ∧ s11 = v6 (i : Int) ∧ s9 = vN ∧ ((i = 0 ∧ Own w0 wx [row (B1) 25 #[vP pb], row (B1_1) 77 #[vN], row (pb) 252 PC, row (sb) 260 (full symZ (symL st) c), row (tb) 61 (full stmZ (stL (dtL (D 0) lcE) (List.range nn)) tc)] (NodX X D i nn)) ∨ (0 < i ∧ ∃ xb xc : Nat, Own w0 wx [row (B1) 25 #[vP pb], row (B1_1) 77 #[vS xb i (i + xc)], row (xb) 83 (full cliZ (tab (exC z) i) xc), row (pb) 252 PC, row (sb) 260 (full symZ (symL st) c), row (tb) 61 (full stmZ (stL (dtL (D 0) lcE) (List.range nn)) tc)] (NodX X D i nn))))
 case atStart => exact ⟨0, by omega, rfl, rfl, rfl, Or.inl ⟨rfl, hO.sub [1, 0, 2, 3, 4] dc⟩⟩
 obtain ⟨i, hin, rfl, rfl, rfl, hcase⟩ := hrel
 have hi9 : (i : Int) ≤ 5000 := by omega
 have hi8 : (0 : Int) ≤ (i : Int) := by omega
 by_cases hlt : i < nn
 ·skip
  obtain ⟨gq, rfl⟩ : ∃ gq, gk = gq + 1 := ⟨gk - 1, by omega⟩
  have hlt9 : (i : Int) < (nn : Int) := by omega
  have ha0 : (List.range nn)[i]? = some i := by simp [hlt]
  have hc0 : (stL (dtL (D 0) lcE) (List.range nn))[i * 2]? = some (.iface 42 (.pointer (some ⟨D 0 i, 0, none⟩))) := stL_at0 (D := dtL (D 0) lcE) ha0
  have hc1 : (stL (dtL (D 0) lcE) (List.range nn))[i * 2 + 1]? = some (vI (lcE i)) := stL_at1 (D := dtL (D 0) lcE) ha0
  clear ha0
  have hnmi := HNM.out i hlt
  have HNI := Lib.hid hnmi
  clear hnmi
  obtain ⟨hi0, hO⟩ | ⟨hi0, xb, xc, hO⟩ := hcase
  ·skip
   have HI0 := Lib.hid hi0
   clear hi0
   replace hO : Own w0 wr [row (D 0 i) 57 #[vS (D 1 i) 1 1, v8 1, .bool true, bF], row (D 1 i) 54 #[.iface 134 (.pointer (some ⟨D 2 i, 0, none⟩)), vI ((i : Int) + 1), .nilIface, vI 0], row ((D 2 i)) 136 #[vU 0, vU ((i : Int) + 1)], row (B1) 25 #[vP pb], row (B1_1) 77 #[vN], row (pb) 252 PC, row (sb) 260 (full symZ (symL st) c), row (tb) 61 (full stmZ (stL (dtL (D 0) lcE) (List.range nn)) tc)] (NodH X D i nn) := NodX.take hO hlt HIJ.out
   obtain ⟨ix9, hix9, hax9, hjx9⟩ := hO.ix
   have aG := hjx9 0 _ _ rfl
   have aH := hjx9 1 _ _ rfl
   have aI := hjx9 2 _ _ rfl
   have aJ := hjx9 3 _ _ rfl
   have aK := hjx9 4 _ _ rfl
   have aL := hjx9 5 _ _ rfl
   have aM := hjx9 6 _ _ rfl
   have aN := hjx9 7 _ _ rfl
   clear hjx9
   obtain ⟨aA, ad, ae, af, aB, aC, -⟩ := hO.k4 0 rfl
   obtain ⟨aD, ag, ah, ai, aE, aF, -⟩ := hO.k4 1 rfl
   obtain ⟨aO, aj, aP, aQ, -⟩ := hO.k2 2 rfl
   obtain ⟨aR, aS, aT, -⟩ := hO.k1 3 rfl
   obtain ⟨aU, aV, aW, -⟩ := hO.k1 4 rfl
   have aX := hO.cell 5 rfl 106 hk106
   have aY := hO.lt 5 rfl
   have aZ := hO.free 5 rfl
   have bJ : wr.cell? ⟨tb, i * 2, none⟩ = some (.iface 42 (.pointer (some ⟨D 0 i, 0, none⟩))) := hO.cell 7 rfl (i * 2) ((full_at hc0))
   have bK : wr.cell? ⟨tb, i * 2 + 1, none⟩ = some (vI (lcE i)) := hO.cell 7 rfl (i * 2 + 1) ((full_at hc1))
   have aa := hO.lt 7 rfl
   have ab := hO.free 7 rfl
   have HO := Lib.hid hO
   clear hO
   go_wp2_with (first | (with_reducible refine Own.stay (fn := Tryd.f39) ?_) | (at_builtin; refine Own.appStop ?_) | fail)
   try with_reducible refine Own.Stay.mk ?_
   have hO := HO.out
   clear HO hix9 hax9 aG aH aI aJ aK aL aM aN ix9 aA ad ae af aB aC aD ag ah ai aE aF aO aj aP aQ aR aS aT aU aV aW aX aY aZ bJ bK aa ab
   generalize hW : World.alloc _ _ = W4
   have hN : Own w0 W4 [row (wr.heap.size + 1) 42 #[.pointer (some ⟨D 0 i, 0, none⟩)], row (wr.heap.size) 61 #[.iface 42 (.pointer (some ⟨D 0 i, 0, none⟩)), vI (lcE i)], row (D 0 i) 57 #[vS (D 1 i) 1 1, v8 1, .bool true, bF], row (D 1 i) 54 #[.iface 134 (.pointer (some ⟨D 2 i, 0, none⟩)), vI ((i : Int) + 1), .nilIface, vI 0], row ((D 2 i)) 136 #[vU 0, vU ((i : Int) + 1)], row (B1) 25 #[vP pb], row (B1_1) 77 #[vN], row (pb) 252 PC, row (sb) 260 (full symZ (symL st) c), row (tb) 61 (full stmZ (stL (dtL (D 0) lcE) (List.range nn)) tc)] (NodH X D i nn) := by
    rw [← hW]
    exact ((hO).alloc' _ (wr.heap.size) (by simp)).alloc' _ (wr.heap.size + 1) (by simp)
   clear hW hO
   generalize wr.heap.size + 1 = B3_1 at hN ⊢
   generalize wr.heap.size = B3 at hN ⊢
   have hO := hN
   clear hN
   obtain ⟨HL, HX⟩ := hid2 hO
   have hP9 := hO.pick [6, 5, 0, 4, 2, 7, 8, 3] dc
   have h9_hnm9 : ∃ y : Sy, st[(i + 1)]? = some y ∧ y.nm = (z i) := HNI.out
   have T9 := fxd0 pb PC sb c st n B1_1 B1 B3_1 (D 0 i) (D 1 i) (D 2 i) ((i : Int) + 1) (i + 1) (z i) _ _ _ hP9 hk106 hn hnb h9_hnm9
   refine Calls.mono T9 ?_
   clear hP9 T9 h9_hnm9
   rintro e uw5 ⟨nd6, nd7, rfl, hQ⟩
   replace hO : Own w0 uw5 [row (B1_1) 77 #[vS nd6 1 (1 + nd7)], row (B1) 25 #[vP pb], row (B3_1) 42 #[.pointer (some ⟨D 0 i, 0, none⟩)], row (D 2 i) 136 #[vU 0, vU ((i + 1) : Int)], row (D 0 i) 57 #[vS (D 1 i) 1 1, v8 0, .bool true, bF], row (pb) 252 PC, row (sb) 260 (full symZ (symL st) c), row (D 1 i) 54 #[.iface 134 (.pointer (some ⟨D 2 i, 0, none⟩)), vI ((i : Int) + 1), .nilIface, vI 0], row (nd6) 83 (full cliZ [.string (z i), .string ⟨#[]⟩, vI ((i : Int) + 1), vI ((i : Int) + 1), vU 0, vU ((i + 1) : Int)] nd7), row (B3) 61 #[.iface 42 (.pointer (some ⟨D 0 i, 0, none⟩)), vI (lcE i)], row (tb) 61 (full stmZ (stL (dtL (D 0) lcE) (List.range nn)) tc)] (NodH X D i nn) := hQ.back HL.out HX.out [1, 9] dc dc
   clear hQ HL HX
   obtain ⟨ix9, hix9, hax9, hjx9⟩ := hO.ix
   have aG := hjx9 0 _ _ rfl
   have aH := hjx9 1 _ _ rfl
   have aI := hjx9 2 _ _ rfl
   have aJ := hjx9 3 _ _ rfl
   have aK := hjx9 4 _ _ rfl
   have aL := hjx9 5 _ _ rfl
   have aM := hjx9 6 _ _ rfl
   have aN := hjx9 7 _ _ rfl
   have ac := hjx9 8 _ _ rfl
   have ak := hjx9 9 _ _ rfl
   have al := hjx9 10 _ _ rfl
   clear hjx9
   obtain ⟨aA, aB, aC, -⟩ := hO.k1 0 rfl
   obtain ⟨aD, aE, aF, -⟩ := hO.k1 1 rfl
   obtain ⟨aO, aP, aQ, -⟩ := hO.k1 2 rfl
   obtain ⟨aR, am, aS, aT, -⟩ := hO.k2 3 rfl
   obtain ⟨aU, an, ao, ap, aV, aW, -⟩ := hO.k4 4 rfl
   have aX := hO.cell 5 rfl 106 hk106
   have aY := hO.lt 5 rfl
   have aZ := hO.free 5 rfl
   obtain ⟨aq, ar, au, av, aa, ab, -⟩ := hO.k4 7 rfl
   have bL : uw5.cell? ⟨nd6, 0, none⟩ = some (.string (z i)) := hO.cell 8 rfl (0) ((full_at rfl))
   have bM : uw5.cell? ⟨nd6, 1, none⟩ = some (.string ⟨#[]⟩) := hO.cell 8 rfl (1) ((full_at rfl))
   have bN : uw5.cell? ⟨nd6, 2, none⟩ = some (vI ((i : Int) + 1)) := hO.cell 8 rfl (2) ((full_at rfl))
   have bO : uw5.cell? ⟨nd6, 3, none⟩ = some (vI ((i : Int) + 1)) := hO.cell 8 rfl (3) ((full_at rfl))
   have bP : uw5.cell? ⟨nd6, 4, none⟩ = some (vU 0) := hO.cell 8 rfl (4) ((full_at rfl))
   have bQ : uw5.cell? ⟨nd6, 5, none⟩ = some (vU ((i + 1) : Int)) := hO.cell 8 rfl (5) ((full_at rfl))
   have aw := hO.lt 8 rfl
   have ax := hO.free 8 rfl
   obtain ⟨ay, az, bA, bB, bC⟩ := hO.k2 9 rfl
   have bD : Base.plainAt uw5 (tb) = true := hO.plain 10 rfl
   have bE : uw5.cell? ⟨tb, i * 2, none⟩ = some (.iface 42 (.pointer (some ⟨D 0 i, 0, none⟩))) := hO.cell 10 rfl (i * 2) ((full_at hc0))
   have bG : uw5.cell? ⟨tb, i * 2 + 1, none⟩ = some (vI (lcE i)) := hO.cell 10 rfl (i * 2 + 1) ((full_at hc1))
   have bH := hO.lt 10 rfl
   have bI := hO.free 10 rfl
   have HO := Lib.hid hO
   clear hO
   go_wp2_with (first | (with_reducible refine Own.stay (fn := Tryd.f39) ?_) | (at_builtin; refine Own.appStop ?_) | fail)
   try with_reducible refine Own.Stay.mk ?_
   have hO := HO.out
   clear HO hix9 hax9 aG aH aI aJ aK aL aM aN ac ak al ix9 aA aB aC aD aE aF aO aP aQ aR am aS aT aU an ao ap aV aW aX aY aZ aq ar au av aa ab bL bM bN bO bP bQ aw ax ay az bA bB bC bD bE bG bH bI
   generalize hW : World.setCell _ _ _ = W9
   have hN : Own w0 W9 [row (B1_1) 77 #[vS nd6 1 (1 + nd7)], row (B1) 25 #[vP pb], row (B3_1) 42 #[.pointer (some ⟨D 0 i, 0, none⟩)], row (D 2 i) 136 #[vU 0, vU ((i + 1) : Int)], row (D 0 i) 57 #[vS (D 1 i) 1 1, v8 0, bF, bF], row (pb) 252 PC, row (sb) 260 (full symZ (symL st) c), row (D 1 i) 54 #[.iface 134 (.pointer (some ⟨D 2 i, 0, none⟩)), vI ((i : Int) + 1), .nilIface, vI 0], row (nd6) 83 (full cliZ [.string (z i), .string ⟨#[]⟩, vI ((i : Int) + 1), vI ((i : Int) + 1), vU 0, vU ((i + 1) : Int)] nd7), row (B3) 61 #[.iface 42 (.pointer (some ⟨D 0 i, 0, none⟩)), vI (lcE i)], row (tb) 61 (full stmZ (((stL (dtL (D 0) lcE) (List.range nn)).set (i * 2) (.iface 42 (.pointer (some ⟨D 0 i, 0, none⟩)))).set (i * 2 + 1) (vI (lcE i))) tc)] (NodH X D i nn) := by
    rw [← hW]
    exact (((hO).set 4 rfl 2 _).setFull 10 rfl (i * 2) hc0 _).setFull 10 rfl (i * 2 + 1) (set_ne hc1 (by omega)) _
   clear hW hO
   have hO := hN
   clear hN
   have h9 := stL_set (D := dtL (D 0) lcE) (l := List.range nn) (p := i) i (by simpa using hlt)
   rw [range_set] at h9
   have hN : Own w0 W9 [row (D 0 i) 57 #[vS (D 1 i) 1 1, v8 0, bF, bF], row (D 1 i) 54 #[.iface 134 (.pointer (some ⟨D 2 i, 0, none⟩)), vI ((i : Int) + 1), .nilIface, vI 0], row ((D 2 i)) 136 #[vU 0, vU ((i : Int) + 1)], row (B1) 25 #[vP pb], row (B1_1) 77 #[vS nd6 (i + 1) (i + 1 + nd7)], row (nd6) 83 (full cliZ (tab (exC z) (i + 1)) nd7), row (pb) 252 PC, row (sb) 260 (full symZ (symL st) c), row (tb) 61 (full stmZ (stL (dtL (D 0) lcE) (List.range nn)) tc)] (NodH X D i nn) := (hO.sub [4, 7, 3, 1, 0, 8, 5, 6, 10] dc).conv (by
    have e0 := HI0.out
    subst e0
    exact congrArg (fun l9 : List Value => [row (D 0 0) 57 #[vS (D 1 0) 1 1, v8 0, bF, bF], row (D 1 0) 54 #[.iface 134 (.pointer (some ⟨D 2 0, 0, none⟩)), vI ((0 : Int) + 1), .nilIface, vI 0], row (D 2 0) 136 #[vU 0, vU ((0 : Int) + 1)], row (B1) 25 #[vP pb], row (B1_1) 77 #[vS nd6 (0 + 1) (0 + 1 + nd7)], row (nd6) 83 (full cliZ (exC z 0) nd7), row (pb) 252 PC, row (sb) 260 (full symZ (symL st) c), row (tb) 61 (full stmZ l9 tc)]) h9)
   have hM := NodX.give hN hlt HIJ.out HSP.out
   go_roundg gq
   case measure => omega
   case rel => exact ⟨i + 1, by omega, by first | rfl | simp, by first | rfl | simp, rfl, Or.inr ⟨by omega, nd6, nd7, hM⟩⟩
  ·skip
   have hlX : (tab (exC z) i).length = i * 6 := tab_length (exC_len z) i
   replace hO : Own w0 wr [row (D 0 i) 57 #[vS (D 1 i) 1 1, v8 1, .bool true, bF], row (D 1 i) 54 #[.iface 134 (.pointer (some ⟨D 2 i, 0, none⟩)), vI ((i : Int) + 1), .nilIface, vI 0], row ((D 2 i)) 136 #[vU 0, vU ((i : Int) + 1)], row (B1) 25 #[vP pb], row (B1_1) 77 #[vS xb i (i + xc)], row (xb) 83 (full cliZ (tab (exC z) i) xc), row (pb) 252 PC, row (sb) 260 (full symZ (symL st) c), row (tb) 61 (full stmZ (stL (dtL (D 0) lcE) (List.range nn)) tc)] (NodH X D i nn) := NodX.take hO hlt HIJ.out
   obtain ⟨ix9, hix9, hax9, hjx9⟩ := hO.ix
   have aG := hjx9 0 _ _ rfl
   have aH := hjx9 1 _ _ rfl
   have aI := hjx9 2 _ _ rfl
   have aJ := hjx9 3 _ _ rfl
   have aK := hjx9 4 _ _ rfl
   have aL := hjx9 5 _ _ rfl
   have aM := hjx9 6 _ _ rfl
   have aN := hjx9 7 _ _ rfl
   have ac := hjx9 8 _ _ rfl
   clear hjx9
   obtain ⟨aA, ad, ae, af, aB, aC, -⟩ := hO.k4 0 rfl
   obtain ⟨aD, ag, ah, ai, aE, aF, -⟩ := hO.k4 1 rfl
   obtain ⟨aO, aj, aP, aQ, -⟩ := hO.k2 2 rfl
   obtain ⟨aR, aS, aT, -⟩ := hO.k1 3 rfl
   obtain ⟨aU, aV, aW, -⟩ := hO.k1 4 rfl
   have bR := hO.cell 6 rfl 106 hk106
   have bS := hO.lt 6 rfl
   have bT := hO.free 6 rfl
   have bU : wr.cell? ⟨tb, i * 2, none⟩ = some (.iface 42 (.pointer (some ⟨D 0 i, 0, none⟩))) := hO.cell 8 rfl (i * 2) ((full_at hc0))
   have bV : wr.cell? ⟨tb, i * 2 + 1, none⟩ = some (vI (lcE i)) := hO.cell 8 rfl (i * 2 + 1) ((full_at hc1))
   have aw := hO.lt 8 rfl
   have ax := hO.free 8 rfl
   have HO := Lib.hid hO
   clear hO
   go_wp2_with (first | (with_reducible refine Own.stay (fn := Tryd.f39) ?_) | (at_builtin; refine Own.appStop ?_) | fail)
   try with_reducible refine Own.Stay.mk ?_
   have hO := HO.out
   clear HO hix9 hax9 aG aH aI aJ aK aL aM aN ac ix9 aA ad ae af aB aC aD ag ah ai aE aF aO aj aP aQ aR aS aT aU aV aW bR bS bT bU bV aw ax
   generalize hW : World.alloc _ _ = W11
   have hN : Own w0 W11 [row (wr.heap.size + 1) 42 #[.pointer (some ⟨D 0 i, 0, none⟩)], row (wr.heap.size) 61 #[.iface 42 (.pointer (some ⟨D 0 i, 0, none⟩)), vI (lcE i)], row (D 0 i) 57 #[vS (D 1 i) 1 1, v8 1, .bool true, bF], row (D 1 i) 54 #[.iface 134 (.pointer (some ⟨D 2 i, 0, none⟩)), vI ((i : Int) + 1), .nilIface, vI 0], row ((D 2 i)) 136 #[vU 0, vU ((i : Int) + 1)], row (B1) 25 #[vP pb], row (B1_1) 77 #[vS xb i (i + xc)], row (xb) 83 (full cliZ (tab (exC z) i) xc), row (pb) 252 PC, row (sb) 260 (full symZ (symL st) c), row (tb) 61 (full stmZ (stL (dtL (D 0) lcE) (List.range nn)) tc)] (NodH X D i nn) := by
    rw [← hW]
    exact ((hO).alloc' _ (wr.heap.size) (by simp)).alloc' _ (wr.heap.size + 1) (by simp)
   clear hW hO
   generalize wr.heap.size + 1 = B10_1 at hN ⊢
   generalize wr.heap.size = B10 at hN ⊢
   have hO := hN
   clear hN
   obtain ⟨HL, HX⟩ := hid2 hO
   have hP9 := hO.pick [6, 5, 0, 4, 2, 8, 9, 3, 7] dc
   have h9_hnm9 : ∃ y : Sy, st[(i + 1)]? = some y ∧ y.nm = (z i) := HNI.out
   have h9_hxl : (tab (exC z) i).length = i * 6 := hlX
   have h9_hxb : i ≤ 5000 := (by omega)
   have T9 := fxd1 pb PC sb c st n B1_1 B1 B10_1 (D 0 i) (D 1 i) (D 2 i) ((i : Int) + 1) (i + 1) (z i) xb (tab (exC z) i) i xc _ _ _ hP9 hk106 hn hnb h9_hnm9 h9_hxl h9_hxb
   refine Calls.mono T9 ?_
   clear hP9 T9 h9_hnm9 h9_hxl h9_hxb
   rintro e uw12 ⟨nd13, nd14, rfl, hQ⟩
   replace hO : Own w0 uw12 [row (B1_1) 77 #[vS nd13 (i + 1) (i + 1 + nd14)], row (B1) 25 #[vP pb], row (B10_1) 42 #[.pointer (some ⟨D 0 i, 0, none⟩)], row (D 2 i) 136 #[vU 0, vU ((i + 1) : Int)], row (D 0 i) 57 #[vS (D 1 i) 1 1, v8 0, .bool true, bF], row (pb) 252 PC, row (sb) 260 (full symZ (symL st) c), row (D 1 i) 54 #[.iface 134 (.pointer (some ⟨D 2 i, 0, none⟩)), vI ((i : Int) + 1), .nilIface, vI 0], row (nd13) 83 (full cliZ ((tab (exC z) i) ++ [.string (z i), .string ⟨#[]⟩, vI ((i : Int) + 1), vI ((i : Int) + 1), vU 0, vU ((i + 1) : Int)]) nd14), row (B10) 61 #[.iface 42 (.pointer (some ⟨D 0 i, 0, none⟩)), vI (lcE i)], row (tb) 61 (full stmZ (stL (dtL (D 0) lcE) (List.range nn)) tc)] (NodH X D i nn) := hQ.back HL.out HX.out [1, 10] dc dc
   clear hQ HL HX
   obtain ⟨ix9, hix9, hax9, hjx9⟩ := hO.ix
   have aG := hjx9 0 _ _ rfl
   have aH := hjx9 1 _ _ rfl
   have aI := hjx9 2 _ _ rfl
   have aJ := hjx9 3 _ _ rfl
   have aK := hjx9 4 _ _ rfl
   have aL := hjx9 5 _ _ rfl
   have aM := hjx9 6 _ _ rfl
   have aN := hjx9 7 _ _ rfl
   have ac := hjx9 8 _ _ rfl
   have ak := hjx9 9 _ _ rfl
   have al := hjx9 10 _ _ rfl
   clear hjx9
   obtain ⟨aA, aB, aC, -⟩ := hO.k1 0 rfl
   obtain ⟨aD, aE, aF, -⟩ := hO.k1 1 rfl
   obtain ⟨aO, aP, aQ, -⟩ := hO.k1 2 rfl
   obtain ⟨aR, am, aS, aT, -⟩ := hO.k2 3 rfl
   obtain ⟨aU, an, ao, ap, aV, aW, -⟩ := hO.k4 4 rfl
   have aX := hO.cell 5 rfl 106 hk106
   have aY := hO.lt 5 rfl
   have aZ := hO.free 5 rfl
   obtain ⟨aq, ar, au, av, aa, ab, -⟩ := hO.k4 7 rfl
   obtain ⟨ay, az, bA, bB, bC⟩ := hO.k2 9 rfl
   have bD : Base.plainAt uw12 (tb) = true := hO.plain 10 rfl
   have bE : uw12.cell? ⟨tb, i * 2, none⟩ = some (.iface 42 (.pointer (some ⟨D 0 i, 0, none⟩))) := hO.cell 10 rfl (i * 2) ((full_at hc0))
   have bG : uw12.cell? ⟨tb, i * 2 + 1, none⟩ = some (vI (lcE i)) := hO.cell 10 rfl (i * 2 + 1) ((full_at hc1))
   have bH := hO.lt 10 rfl
   have bI := hO.free 10 rfl
   have HO := Lib.hid hO
   clear hO
   go_wp2_with (first | (with_reducible refine Own.stay (fn := Tryd.f39) ?_) | (at_builtin; refine Own.appStop ?_) | fail)
   try with_reducible refine Own.Stay.mk ?_
   have hO := HO.out
   clear HO hix9 hax9 aG aH aI aJ aK aL aM aN ac ak al ix9 aA aB aC aD aE aF aO aP aQ aR am aS aT aU an ao ap aV aW aX aY aZ aq ar au av aa ab ay az bA bB bC bD bE bG bH bI
   generalize hW : World.setCell _ _ _ = W16
   have hN : Own w0 W16 [row (B1_1) 77 #[vS nd13 (i + 1) (i + 1 + nd14)], row (B1) 25 #[vP pb], row (B10_1) 42 #[.pointer (some ⟨D 0 i, 0, none⟩)], row (D 2 i) 136 #[vU 0, vU ((i + 1) : Int)], row (D 0 i) 57 #[vS (D 1 i) 1 1, v8 0, bF, bF], row (pb) 252 PC, row (sb) 260 (full symZ (symL st) c), row (D 1 i) 54 #[.iface 134 (.pointer (some ⟨D 2 i, 0, none⟩)), vI ((i : Int) + 1), .nilIface, vI 0], row (nd13) 83 (full cliZ ((tab (exC z) i) ++ [.string (z i), .string ⟨#[]⟩, vI ((i : Int) + 1), vI ((i : Int) + 1), vU 0, vU ((i + 1) : Int)]) nd14), row (B10) 61 #[.iface 42 (.pointer (some ⟨D 0 i, 0, none⟩)), vI (lcE i)], row (tb) 61 (full stmZ (((stL (dtL (D 0) lcE) (List.range nn)).set (i * 2) (.iface 42 (.pointer (some ⟨D 0 i, 0, none⟩)))).set (i * 2 + 1) (vI (lcE i))) tc)] (NodH X D i nn) := by
    rw [← hW]
    exact (((hO).set 4 rfl 2 _).setFull 10 rfl (i * 2) hc0 _).setFull 10 rfl (i * 2 + 1) (set_ne hc1 (by omega)) _
   clear hW hO
   have hO := hN
   clear hN
   have h9 := stL_set (D := dtL (D 0) lcE) (l := List.range nn) (p := i) i (by simpa using hlt)
   rw [range_set] at h9
   have hN : Own w0 W16 [row (D 0 i) 57 #[vS (D 1 i) 1 1, v8 0, bF, bF], row (D 1 i) 54 #[.iface 134 (.pointer (some ⟨D 2 i, 0, none⟩)), vI ((i : Int) + 1), .nilIface, vI 0], row ((D 2 i)) 136 #[vU 0, vU ((i : Int) + 1)], row (B1) 25 #[vP pb], row (B1_1) 77 #[vS nd13 (i + 1) (i + 1 + nd14)], row (nd13) 83 (full cliZ (tab (exC z) (i + 1)) nd14), row (pb) 252 PC, row (sb) 260 (full symZ (symL st) c), row (tb) 61 (full stmZ (stL (dtL (D 0) lcE) (List.range nn)) tc)] (NodH X D i nn) := (hO.sub [4, 7, 3, 1, 0, 8, 5, 6, 10] dc).conv (by
    rw [tab_succ]
    exact congrArg (fun l9 : List Value => [row (D 0 i) 57 #[vS (D 1 i) 1 1, v8 0, bF, bF], row (D 1 i) 54 #[.iface 134 (.pointer (some ⟨D 2 i, 0, none⟩)), vI ((i : Int) + 1), .nilIface, vI 0], row (D 2 i) 136 #[vU 0, vU ((i : Int) + 1)], row (B1) 25 #[vP pb], row (B1_1) 77 #[vS nd13 (i + 1) (i + 1 + nd14)], row (nd13) 83 (full cliZ (tab (exC z) i ++ exC z i) nd14), row (pb) 252 PC, row (sb) 260 (full symZ (symL st) c), row (tb) 61 (full stmZ l9 tc)]) h9)
   have hM := NodX.give hN hlt HIJ.out HSP.out
   go_roundg gq
   case measure => omega
   case rel => exact ⟨i + 1, by omega, by first | rfl | simp, by first | rfl | simp, rfl, Or.inr ⟨by omega, nd13, nd14, hM⟩⟩
 obtain rfl : nn = i := by omega
 have hlt9 : ¬ (nn : Int) < (nn : Int) := by omega
 obtain ⟨hi0, hO⟩ | ⟨hi0, xb, xc, hO⟩ := hcase
 ·omega
 obtain ⟨aA, aB, aC, -⟩ := hO.k1 0 rfl
 obtain ⟨aD, aE, aF, -⟩ := hO.k1 1 rfl
 have HO := Lib.hid hO
 clear hO
 go_wp2_with (first | (with_reducible refine Own.stay (fn := Tryd.f39) ?_) | (at_builtin; refine Own.appStop ?_) | fail)
 try with_reducible refine Own.Stay.mk ?_
 have hO := HO.out
 clear HO aA aB aC aD aE aF
 rw [HC9.out]
 exact HB.out B1 B1_1 xb xc (hO.sub [0, 1, 2, 3, 4, 5] dc)
end Go.Proofs.YtikopplofkemlaaDoor.Use
