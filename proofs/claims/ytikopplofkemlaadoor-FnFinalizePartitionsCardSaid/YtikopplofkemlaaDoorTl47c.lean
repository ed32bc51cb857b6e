/- Row 47: what the law reads of the result. No condition. -/
import Derived.Test.YtikopplofkemlaaDoorAbb
import Derived.Test.YtikopplofkemlaaDoorLs47
import Derived.Test.YtikopplofkemlaaDoorMsc
import Derived.Test.YtikopplofkemlaaDoorEls
import Derived.Test.YtikopplofkemlaaDoorUmp
import Derived.Test.YtikopplofkemlaaDoorLive
import Derived.Test.YtikopplofkemlaaDoorLoop
import Derived.Test.YtikopplofkemlaaDoorUms
import Derived.Test.YtikopplofkemlaaDoorAppL
import Derived.Test.YtikopplofkemlaaDoorApp
import Derived.Test.YtikopplofkemlaaDoorOwnK
import Derived.Test.YtikopplofkemlaaDoorOwn
import Derived.Test.YtikopplofkemlaaDoorDeepCells
import Derived.Test.YtikopplofkemlaaDoorRows
import Derived.Test.YtikopplofkemlaaDoorUse
namespace Go.Proofs.YtikopplofkemlaaDoor.Use
open Go.ChangeShapes Go.WideShapes Go.ChangeAt Go.RowKit Go.Sort Own
set_option linter.unusedVariables false
noncomputable def rest47c : Code := cutC 24 (Tryd.f6.body.getD .skip)
def Hd47 (src g0 : Int) (yb yc yf kb cs pt n : Nat) (sa so2 : Option Addr) (il co2 : Nat) (awb : Bool) (w0 : World) (X : Nat → Obj → Prop) (Q : Exit → Act → World → Prop) : Prop :=
 ∀ (A0 A1 A2 A3 A4 A5 A6 A7 A8 A9 AA AB AC AD AE AF AG AH AI AJ AL AM AN AO AP AQ AR AS AT AU AV AW AX AY AZ B0 B1 B2 B3 B4 B6 B7 B8 B9 BA BB BC BD BE BF BG BH BI BJ BK BL BM BN BO BP BQ BR BS BT BU BV BW BX BY BZ C0 C1 C2 C3 C4 C5 C6 C7 C8 C9 CA CB CC CD CE CF CG CH CI CJ CK CL CM CN CO CP CQ CR CS CT CU CV CW CX CY CZ E0 E1 E2 E3 E4 E5 E6 E7 E8 E9 EA EB EC ED EE EF EG EH EI EJ EK EL EM EN EO EP EQ ER ES ET EU EV EW EX EY EZ F0 F1 F2 F3 F4 F5 F6 F7 F8 F9 FA FB FC FD FE FF FG FH FI FJ FK FL FM FN FO FP FQ FR FS FT FU FV FW FX FY FZ G0 G1 G2 G3 G4 G5 G6 G7 G8 G9 GA GB GC GD GE GF GG GH GI GJ GK GL GM GN GO GP GQ GR GS GT GU GV GW GX GY GZ I0 I1 I2 I3 I4 I5 I6 I7 I8 I9 IA IB IC ID IE IF IG IH II IJ IK IL IM IN IO IP IQ IR IS IT IU IV IW IX IY IZ J0 J1 J2 J3 J4 J5 J6 J7 J8 J9 JA JB JC JD JE JF JG JH JI JJ JK JL JM JN JO JP JQ JR JS JT JU JV JW JX JY JZ M0 M1 M2 M3 M4 M5 M6 M7 M8 M9 MA MB MC MD ME MF MG MH MI MJ MK ML MM MN MO MP MQ MR MS MT MU MV MW MX MY MZ N0 N1 N2 N3 N4 N5 N6 N7 N8 N9 NA NB NC ND NE : Value) (w2 : World), Own w0 w2 [row (yb) 76 #[vP yc, vP yf, .slice sa il n, vI 0, vI 7], row (kb) 31 #[vU src, vU g0]] X → Code.wp Tryd.prog rest47c Q ⟨#[A0, A1, .bool awb, A2, A3, A4, A5, A6, vP cs, A7, vP kb, A8, A9, AA, AB, vP pt, .int .i64 0, .int .i64 0, AC, AD, .slice so2 il co2, AE, AF, AG, AH, AI, AJ, vP yb, AL, AM, AN, AO, AP, AQ, AR, AS, AT, AU, AV, AW, AX, AY, AZ, B0, B1, B2, B3, B4, B6, B7, B8, B9, BA, BB, BC, BD, BE, BF, BG, BH, BI, BJ, BK, BL, BM, BN, BO, BP, BQ, BR, BS, BT, BU, BV, BW, BX, BY, BZ, C0, C1, C2, C3, C4, C5, C6, C7, C8, C9, CA, CB, CC, CD, CE, CF, CG, CH, CI, CJ, CK, CL, CM, CN, CO, CP, CQ, CR, CS, CT, CU, CV, CW, CX, CY, CZ, E0, E1, E2, E3, E4, E5, E6, E7, E8, E9, EA, EB, EC, ED, EE, EF, EG, EH, EI, EJ, EK, EL, EM, EN, EO, EP, EQ, ER, ES, ET, EU, EV, EW, EX, EY, EZ, F0, F1, F2, F3, F4, F5, F6, F7, F8, F9, FA, FB, FC, FD, FE, FF, FG, FH, FI, FJ, FK, FL, FM, FN, FO, FP, FQ, FR, FS, FT, FU, FV, FW, FX, FY, FZ, G0, G1, G2, G3, G4, G5, G6, G7, G8, G9, GA, GB, GC, GD, GE, GF, GG, GH, GI, GJ, GK, GL, GM, GN, GO, GP, GQ, GR, GS, GT, GU, GV, GW, GX, GY, GZ, I0, I1, I2, I3, I4, I5, I6, I7, I8, I9, IA, IB, IC, ID, IE, IF, IG, IH, II, IJ, IK, IL, IM, IN, IO, IP, IQ, IR, IS, IT, IU, IV, IW, IX, IY, IZ, J0, J1, J2, J3, J4, J5, J6, J7, J8, J9, JA, JB, JC, JD, JE, JF, JG, JH, JI, JJ, JK, JL, JM, JN, JO, JP, JQ, JR, JS, JT, JU, JV, JW, JX, JY, JZ, M0, M1, M2, M3, M4, M5, M6, M7, M8, M9, MA, MB, MC, MD, ME, MF, MG, MH, MI, MJ, MK, ML, MM, MN, MO, MP, MQ, MR, MS, MT, MU, MV, MW, MX, MY, MZ, N0, N1, N2, N3, N4, N5, N6, N7, N8, N9, NA, NB, NC, ND, NE], []⟩ w2

noncomputable def rtl47co1E (n : Nat) (D : Dt) (hst : Bool) (qb : Nat) (qc : Nat) (lb : Nat) (yb : Nat) (ol : Nat) (co : Nat) (j : Nat) (b : Nat) (oj : Nat) : Nat → Rega.Atoms → Value
 | 0, α => .slice (some ⟨qb, 0, none⟩) (ol + 2) (ol + 2 + qc)
 | 1, α => .int .i64 (j : Int)
 | 2, α => .pointer (some ⟨qb, j * 2, none⟩)
 | 3, α => .pointer (some ⟨qb, j * 2 + 1, none⟩)
 | 4, α => .pointer (some ⟨qb, j * 2 + 1, none⟩)
 | 5, α => vI ((oj : Int) + 1)
 | 6, α => .slice (some ⟨b, 0, none⟩) ol co
 | 7, α => .int .i64 (j : Int)
 | 8, α => .pointer (some ⟨b, j, none⟩)
 | 9, α => vI ((oj : Int) + 1)
 | 10, α => bF
 | _, _ => undef
noncomputable def rtl47co1Anc : Nat → List Nat
 | 2 => [0, 1]
 | 3 => [0, 1, 2]
 | 4 => [0, 1, 2, 3]
 | 5 => [0, 1, 2, 3, 4]
 | 8 => [6, 7]
 | 9 => [6, 7, 8]
 | 10 => [0, 1, 2, 3, 4, 5, 6, 7, 8, 9]
 | _ => []
noncomputable def rtl47co1Trn : Nat → List Nat
 | _ => []
noncomputable def rtl47co1Cnt : List (Nat × Nat) := []
noncomputable def rtl47co1R (n : Nat) (D : Dt) (hst : Bool) (qb : Nat) (qc : Nat) (lb : Nat) (yb : Nat) (ol : Nat) (co : Nat) (j : Nat) (b : Nat) (oj : Nat) (L9 : Nat → Bool) (α : Rega.Atoms) (ix9 : Nat) : Rw := if ix9 = 999 then row (qb) 61 (full stmZ (stL D (outs D hst n) ++ [.iface 42 (vP lb), vI 7, .iface 67 (vP yb), vI 7]) qc) else (0, .map #[] 0)
theorem rtl47co1_he (n : Nat) (D : Dt) (hst : Bool) (qb : Nat) (qc : Nat) (lb : Nat) (yb : Nat) (ol : Nat) (co : Nat) (j : Nat) (b : Nat) (oj : Nat) : ∀ kk α α', (∀ j, (j % 1000 = kk ∨ j % 1000 ∈ rtl47co1Anc kk) → α j = α' j) → rtl47co1E n D hst qb qc lb yb ol co j b oj kk α = rtl47co1E n D hst qb qc lb yb ol co j b oj kk α' := by
 intro kk α α' h
 match kk with
 | 0 => rfl
 | 1 => rfl
 | 2 => rfl
 | 3 => rfl
 | 4 => rfl
 | 5 => rfl
 | 6 => rfl
 | 7 => rfl
 | 8 => rfl
 | 9 => rfl
 | 10 => rfl
 | n + 11 => rfl
theorem rtl47co1_st (n : Nat) (D : Dt) (hst : Bool) (qb : Nat) (qc : Nat) (lb : Nat) (yb : Nat) (ol : Nat) (co : Nat) (j : Nat) (b : Nat) (oj : Nat) : Stable rtl47co1Cnt 1 rtl47co1Anc rtl47co1Trn (rtl47co1R n D hst qb qc lb yb ol co j b oj) := by
 intro k9 L9 α α' ix9 hk hcl hα hact ht
 have hp := act_places hact
 replace hp : ix9 ∈ [999] := hp
 simp only [List.mem_cons, List.not_mem_nil, or_false] at hp
 subst hp
 rfl

set_option maxRecDepth 100000 in
set_option maxHeartbeats 4000000 in
theorem tl47c (n : Nat) (D : Dt) (hst : Bool) (src g0 : Int) (qb qc lb ld li la yb yc yf kb cs pt : Nat) (sa so so2 : Option Addr) (ol il co co2 : Nat) (awb : Bool) (A0 A2 A3 A4 A5 A6 A7 A9 AA AB AE AF AG AH AI AJ AK AL AM AN AO AP AQ AR AS AT AU AV AW AX AY AZ B0 B1 B2 B3 B4 B6 B7 B8 B9 BA BB BC BD BE BF BG BH BI BJ BK BL BM BN BO BP BQ BR BS BT BU BV BW BX BY BZ C0 C1 C2 C3 C4 C5 C6 C7 C8 C9 CA CB CC CD CE CF CG CH CI CJ CK CL CM CN CO CP CQ CR CS CT CU CV CW CX CY CZ E0 E1 E2 E3 E4 E5 E6 E7 E8 E9 EA EB EC ED EE EF EG EH EI EJ EK EL EM EN EO EP EQ ER ES ET EU EV EW EX EY EZ F0 F1 F2 F3 F4 F5 F6 F7 F8 F9 FA FB FC FD FE FF FG FH FI FJ FK FL FM FN FO FP FQ FR FS FT FU FV FW FX FY FZ G0 G1 G2 G3 G4 G5 G6 G7 G8 G9 GA GB GC GD GE GF GG GH GI GJ GK GL GM GN GO GP GQ GR GS GT GU GV GW GX GY GZ I0 I1 I2 I3 I4 I5 I6 I7 I8 I9 IA IB IC ID IE IF IG IH II IJ IK IL IM IN IO IP IQ IR IS IT IU IV IW IX IY IZ J0 J1 J2 J3 J4 J5 J6 J7 J8 J9 JA JB JC JD JE JF JG JH JI JJ JK JL JM JN JO JP JQ JR JS JT JU JV JW JX JY JZ M0 M1 M2 M3 M4 M5 M6 M7 M8 M9 MA MB MC MD ME MF MG MH MI MJ MK ML MM MN MO MP MQ MR MS MT MU MV MW MX MY MZ N0 N1 N2 N3 N4 N5 N6 N7 N8 N9 NA NB NC ND NE : Value) (w0 w : World) (X : Nat → Obj → Prop) (Q : Exit → Act → World → Prop) (hB : Hd47 src g0 yb yc yf kb cs pt n sa so2 il co2 awb w0 X Q) (hO : Own w0 w [row (qb) 61 (full stmZ (stL D (outs D hst n) ++ [.iface 42 (vP lb), vI 7, .iface 67 (vP yb), vI 7]) qc), row (lb) 57 #[.slice (some ⟨ld, 0, none⟩) 1 1, .int .u8 0, bF, bF], row (ld) 54 #[.iface 134 (vP li), vI 7, .iface 315 (vP la), vI 7], row (li) 136 #[vU src, vU g0], row (yb) 76 #[vP yc, vP yf, .slice sa il n, vI 0, vI 7], row (kb) 31 #[vU src, vU g0]] X) (hn4 : n ≤ 4096) (hDl : D.lc = (fun j : Nat => (j : Int) + 1)) (hol : ol = (outs D hst n).length) (hso : 0 < ol → ∃ b c : Nat, so = some ⟨b, 0, none⟩ ∧ X b (.cells (full i32Z (iL (outs D hst n)) c) 21 (0, 0))) :
  Code.wp Tryd.prog rest47b Q ⟨#[A0, .bool hst, .bool awb, A2, A3, A4, A5, A6, vP cs, A7, vP kb, .int .i64 (n : Int), A9, AA, AB, vP pt, .int .i64 0, .int .i64 0, .slice (some ⟨qb, 0, none⟩) (ol + 2) (ol + 2 + qc), .slice so ol co, .slice so2 il co2, AE, AF, AG, AH, AI, AJ, AK, AL, AM, AN, AO, AP, AQ, AR, AS, AT, AU, AV, AW, AX, AY, AZ, B0, B1, B2, B3, B4, B6, B7, B8, B9, BA, BB, BC, BD, BE, BF, BG, BH, BI, BJ, BK, BL, BM, BN, BO, BP, BQ, BR, BS, BT, BU, BV, BW, BX, BY, BZ, C0, C1, C2, C3, C4, C5, C6, C7, C8, C9, CA, CB, CC, CD, CE, CF, CG, CH, CI, CJ, CK, CL, CM, CN, CO, CP, CQ, CR, CS, CT, CU, CV, CW, CX, CY, CZ, E0, E1, E2, E3, E4, E5, E6, E7, E8, E9, EA, EB, EC, ED, EE, EF, EG, EH, EI, EJ, EK, EL, EM, EN, EO, EP, EQ, ER, ES, ET, EU, EV, EW, EX, EY, EZ, F0, F1, F2, F3, F4, F5, F6, F7, F8, F9, FA, FB, FC, FD, FE, FF, FG, FH, FI, FJ, FK, FL, FM, FN, FO, FP, FQ, FR, FS, FT, FU, FV, FW, FX, FY, FZ, G0, G1, G2, G3, G4, G5, G6, G7, G8, G9, GA, GB, GC, GD, GE, GF, GG, GH, GI, GJ, GK, GL, GM, GN, GO, GP, GQ, GR, GS, GT, GU, GV, GW, GX, GY, GZ, I0, I1, I2, I3, I4, I5, I6, I7, I8, I9, IA, IB, IC, ID, IE, IF, IG, IH, II, IJ, IK, IL, IM, IN, IO, IP, IQ, IR, IS, IT, IU, IV, IW, IX, IY, IZ, J0, J1, J2, J3, J4, J5, J6, J7, J8, J9, JA, JB, JC, JD, JE, JF, JG, JH, JI, JJ, JK, JL, JM, JN, JO, JP, JQ, JR, JS, JT, JU, JV, JW, JX, JY, JZ, M0, M1, M2, M3, M4, M5, M6, M7, M8, M9, MA, MB, MC, MD, ME, MF, MG, MH, MI, MJ, MK, ML, MM, MN, MO, MP, MQ, MR, MS, MT, MU, MV, MW, MX, MY, MZ, N0, N1, N2, N3, N4, N5, N6, N7, N8, N9, NA, NB, NC, ND, NE], []⟩ w := by
 have HB := Lib.hid hB
 clear hB
 obtain ⟨c9, hc9⟩ : ∃ c, c = rest47c := ⟨_, rfl⟩
 have HC9 := Lib.hid hc9
 simp only [rest47c, Tryd.f6, Option.getD_some, cutC] at hc9
 simp only [rest47b, Tryd.f6, Option.getD_some, cutC]
 rw [← hc9]
 clear hc9
 have hol4 : ol ≤ 4096 := by rw [hol]; exact Nat.le_trans outs_len hn4
 have HOL := Lib.hid hol
 have HSO := Lib.hid hso
 have HDL := Lib.hid hDl
 clear hol hso hDl
 have hq9 : (stL D (outs D hst n)).length = ol * 2 := by rw [stL_length, HOL.out]
 have hqk0 : (stL D (outs D hst n) ++ [.iface 42 (vP lb), vI 7, .iface 67 (vP yb), vI 7])[ol * 2]? = some (.iface 42 (vP lb)) := by rw [List.getElem?_append_right (by omega), hq9, show ol * 2 - ol * 2 = 0 by omega]; rfl
 have hqk1 : (stL D (outs D hst n) ++ [.iface 42 (vP lb), vI 7, .iface 67 (vP yb), vI 7])[ol * 2 + 1]? = some (vI 7) := by rw [List.getElem?_append_right (by omega), hq9, show ol * 2 + 1 - ol * 2 = 1 by omega]; rfl
 have hqk2 : (stL D (outs D hst n) ++ [.iface 42 (vP lb), vI 7, .iface 67 (vP yb), vI 7])[(ol + 1) * 2]? = some (.iface 67 (vP yb)) := by rw [List.getElem?_append_right (by omega), hq9, show (ol + 1) * 2 - ol * 2 = 2 by omega]; rfl
 have hqk3 : (stL D (outs D hst n) ++ [.iface 42 (vP lb), vI 7, .iface 67 (vP yb), vI 7])[(ol + 1) * 2 + 1]? = some (vI 7) := by rw [List.getElem?_append_right (by omega), hq9, show (ol + 1) * 2 + 1 - ol * 2 = 3 by omega]; rfl
 have HQ0 := Lib.hid hqk0
 clear hqk0
 have HQ1 := Lib.hid hqk1
 clear hqk1
 have HQ2 := Lib.hid hqk2
 clear hqk2
 have HQ3 := Lib.hid hqk3
 clear hqk3
 have hol9 : (ol : Int) ≤ 4096 := by omega
 have hol8 : (0 : Int) ≤ (ol : Int) := by omega
 have hol7 : (ol : Int) < ((ol + 2 : Nat) : Int) := by omega
 have hol6 : (ol : Int) + 1 < ((ol + 2 : Nat) : Int) := by omega
 clear hq9
 obtain ⟨c9_1_0, c9_1_1, c9_1_2, c9_1_3, lt9_1, y9_1, -⟩ := hO.k4 1 rfl
 obtain ⟨c9_2_0, c9_2_1, c9_2_2, c9_2_3, lt9_2, y9_2, -⟩ := hO.k4 2 rfl
 obtain ⟨c9_3_0, c9_3_1, lt9_3, y9_3, -⟩ := hO.k2 3 rfl
 obtain ⟨c9_4_0, c9_4_1, c9_4_2, c9_4_3, c9_4_4, lt9_4, y9_4, -⟩ := hO.k5 4 rfl
 obtain ⟨c9_5_0, c9_5_1, lt9_5, y9_5, -⟩ := hO.k2 5 rfl
 have HO := Lib.hid hO
 clear hO
 go_wp2_with (first | (with_reducible refine Own.stay (fn := Tryd.f6) ?_) | fail)
 try with_reducible refine Own.Stay.mk ?_
 have hO := HO.out
 clear HO c9_1_0 c9_1_1 c9_1_2 c9_1_3 lt9_1 y9_1 c9_2_0 c9_2_1 c9_2_2 c9_2_3 lt9_2 y9_2 c9_3_0 c9_3_1 lt9_3 y9_3 c9_4_0 c9_4_1 c9_4_2 c9_4_3 c9_4_4 lt9_4 y9_4 c9_5_0 c9_5_1 lt9_5 y9_5
 go_loopg [23] ol (fun gf s23 wx => ∃ j : Nat, j + gf = ol ∧ s23 = .int .i64 (j : Int) ∧ Own w0 wx [row (qb) 61 (full stmZ (stL D (outs D hst n) ++ [.iface 42 (vP lb), vI 7, .iface 67 (vP yb), vI 7]) qc), row (lb) 57 #[.slice (some ⟨ld, 0, none⟩) 1 1, .int .u8 0, bF, bF], row (ld) 54 #[.iface 134 (vP li), vI 7, .iface 315 (vP la), vI 7], row (li) 136 #[vU src, vU g0], row (yb) 76 #[vP yc, vP yf, .slice sa il n, vI 0, vI 7], row (kb) 31 #[vU src, vU g0]] X)
 case atStart => exact ⟨0, by omega, rfl, hO⟩
 obtain ⟨j, hjm, rfl, hO⟩ := hrel
 by_cases hlt : j < ol
 ·skip
  obtain ⟨gq, rfl⟩ : ∃ gq, gk = gq + 1 := ⟨gk - 1, by omega⟩
  have hlt9 : (j : Int) < (ol : Int) := by omega
  have hj8 : (0 : Int) ≤ (j : Int) := by omega
  have hj7 : (j : Int) ≤ 4096 := by omega
  obtain ⟨b, c, hsob, hxb⟩ := HSO.out (by omega)
  subst hsob
  obtain ⟨oj, hoj⟩ : ∃ oj, (outs D hst n)[j]? = some oj := ⟨_, List.getElem?_eq_getElem (by rw [← HOL.out]; exact hlt)⟩
  have hq1 : (stL D (outs D hst n))[j * 2 + 1]? = some (vI ((oj : Int) + 1)) := by rw [stL_at1 hoj, HDL.out]
  have hlt6 : (j : Int) < ((ol + 2 : Nat) : Int) := by omega
  have hlt5 : (j : Int) < (ol : Int) + 2 := by omega
  obtain ⟨c9_1_0, c9_1_1, c9_1_2, c9_1_3, lt9_1, y9_1, -⟩ := hO.k4 1 rfl
  obtain ⟨c9_2_0, c9_2_1, c9_2_2, c9_2_3, lt9_2, y9_2, -⟩ := hO.k4 2 rfl
  obtain ⟨c9_3_0, c9_3_1, lt9_3, y9_3, -⟩ := hO.k2 3 rfl
  obtain ⟨c9_4_0, c9_4_1, c9_4_2, c9_4_3, c9_4_4, lt9_4, y9_4, -⟩ := hO.k5 4 rfl
  obtain ⟨c9_5_0, c9_5_1, lt9_5, y9_5, -⟩ := hO.k2 5 rfl
  have HO := Lib.hid hO
  clear hO
  go_wp2_with (first | (with_reducible refine Own.stay (fn := Tryd.f6) ?_) | fail)
  try with_reducible refine Own.Stay.mk ?_
  have hO := HO.out
  clear HO c9_1_0 c9_1_1 c9_1_2 c9_1_3 lt9_1 y9_1 c9_2_0 c9_2_1 c9_2_2 c9_2_3 lt9_2 y9_2 c9_3_0 c9_3_1 lt9_3 y9_3 c9_4_0 c9_4_1 c9_4_2 c9_4_3 c9_4_4 lt9_4 y9_4 c9_5_0 c9_5_1 lt9_5 y9_5
  have hL := hO.apart
  have hX := hO.apartX
  have HL := Lib.hid hL
  have HX := Lib.hid hX
  clear hL hX
  have hP9 := hO.pick [0] (by decide)
  generalize hX9_1 : Own.Rest _ _ X = X9_1 at hP9
  replace hP9 : Own w0 wr [row (qb) 61 (full stmZ (stL D (outs D hst n) ++ [.iface 42 (vP lb), vI 7, .iface 67 (vP yb), vI 7]) qc)] X9_1 := hP9
  clear hO
  have hO := hP9
  clear hP9
  have hxr2 : X9_1 b (.cells (full i32Z (iL (outs D hst n)) c) 21 (0, 0)) := by rw [← hX9_1]; exact Or.inl hxb
  have st9 := rtl47co1_st n D hst qb qc lb yb ol co j b oj
  let R9 := rtl47co1R n D hst qb qc lb yb ol co j b oj
  refine wp_region_own (e := rtl47co1E n D hst qb qc lb yb ol co j b oj) (anc := rtl47co1Anc) (G := (fun L9 α u9 => OwnF w0 u9 (act rtl47co1Cnt 1 L9) (rtl47co1R n D hst qb qc lb yb ol co j b oj L9 α) X9_1)) (by kernel_rfl) (by kernel_rfl) (by kernel_rfl) (by kernel_rfl) (rtl47co1_he n D hst qb qc lb yb ol co j b oj) ?_ (RunsAll.all ?_) ?_
  ·have hp : ∀ i, act rtl47co1Cnt 1 (fun _ => false) i → i ∈ [999] := by
    intro i hi
    have h9 : i % 1000 = 999 := by
     by_cases h : i % 1000 = 999
     ·exact h
     ·exact absurd (act_lt hi h) (by simp)
    unfold act at hi
    rw [if_pos h9] at hi
    simp only [List.mem_cons, List.not_mem_nil, or_false]
    omega
   refine hO.drew.family (fun i hi => ?_) (fun i j hi hj hij => ?_)
   ·have := hp i hi
    simp only [List.mem_cons, List.not_mem_nil, or_false] at this
    subst this
    rfl
   ·have h1 := hp i hi
    have h2 := hp j hj
    simp only [List.mem_cons, List.not_mem_nil, or_false] at h1 h2
    omega
  ·refine ⟨?_, ?_, ?_, ?_, ?_, ?_, ?_, ?_, ?_, ?_, ?_, trivial⟩
   ·intro L9 α a9 u9 K9 hL hcl hA hG hS h0 h1 hK
    replace hL : L9 0 = false := hL
    have q18 : a9.tmps[18]? = some (.slice (some ⟨qb, 0, none⟩) (ol + 2) (ol + 2 + qc)) := (h0 18 (by kernel_rfl)).trans rfl
    have s18 := Rega.eval_of q18
    go_simp
    exact hK _ α _ (fun _ _ => rfl) rfl (step_same (st9) hL hcl rfl rfl hG)
   ·intro L9 α a9 u9 K9 hL hcl hA hG hS h0 h1 hK
    replace hL : L9 1 = false := hL
    have q23 : a9.tmps[23]? = some (.int .i64 (j : Int)) := (h0 23 (by kernel_rfl)).trans rfl
    have s23 := Rega.eval_of q23
    go_simp
    exact hK _ α _ (fun _ _ => rfl) rfl (step_same (st9) hL hcl rfl rfl hG)
   ·intro L9 α a9 u9 K9 hL hcl hA hG hS h0 h1 hK
    replace hL : L9 2 = false := hL
    have q153 : a9.tmps[153]? = some (.slice (some ⟨qb, 0, none⟩) (ol + 2) (ol + 2 + qc)) := hS 0 153 (by decide) rfl (by show 153 < 345; decide)
    have s153 := Rega.eval_of q153
    have q154 : a9.tmps[154]? = some (.int .i64 (j : Int)) := hS 1 154 (by decide) rfl (by show 154 < 345; decide)
    have s154 := Rega.eval_of q154
    go_simp
    exact hK _ α _ (fun _ _ => rfl) rfl (step_same (st9) hL hcl rfl rfl hG)
   ·intro L9 α a9 u9 K9 hL hcl hA hG hS h0 h1 hK
    replace hL : L9 3 = false := hL
    have q155 : a9.tmps[155]? = some (.pointer (some ⟨qb, j * 2, none⟩)) := hS 2 155 (by decide) rfl (by show 155 < 345; decide)
    have s155 := Rega.eval_of q155
    go_simp
    exact hK _ α _ (fun _ _ => rfl) rfl (step_same (st9) hL hcl rfl rfl hG)
   ·intro L9 α a9 u9 K9 hL hcl hA hG hS h0 h1 hK
    replace hL : L9 4 = false := hL
    have q156 : a9.tmps[156]? = some (.pointer (some ⟨qb, j * 2 + 1, none⟩)) := hS 3 156 (by decide) rfl (by show 156 < 345; decide)
    have s156 := Rega.eval_of q156
    go_simp
    exact hK _ α _ (fun _ _ => rfl) rfl (step_same (st9) hL hcl rfl rfl hG)
   ·intro L9 α a9 u9 K9 hL hcl hA hG hS h0 h1 hK
    replace hL : L9 5 = false := hL
    have q157 : a9.tmps[157]? = some (.pointer (some ⟨qb, j * 2 + 1, none⟩)) := hS 4 157 (by decide) rfl (by show 157 < 345; decide)
    have s157 := Rega.eval_of q157
    have e0 : R9 L9 α 999 = row (qb) 61 (full stmZ (stL D (outs D hst n) ++ [.iface 42 (vP lb), vI 7, .iface 67 (vP yb), vI 7]) qc) := rfl
    have hr := hG.rowAt 999 (act_base 999 rfl) e0
    have c0 : u9.cell? ⟨qb, j * 2 + 1, none⟩ = some (vI ((oj : Int) + 1)) := hr.cell ((full_at (app_at hq1)))
    clear hr e0
    go_simp
    exact hK _ α _ (fun _ _ => rfl) rfl (step_same (st9) hL hcl rfl rfl hG)
   ·intro L9 α a9 u9 K9 hL hcl hA hG hS h0 h1 hK
    replace hL : L9 6 = false := hL
    have q19 : a9.tmps[19]? = some (.slice (some ⟨b, 0, none⟩) ol co) := (h0 19 (by kernel_rfl)).trans rfl
    have s19 := Rega.eval_of q19
    go_simp
    exact hK _ α _ (fun _ _ => rfl) rfl (step_same (st9) hL hcl rfl rfl hG)
   ·intro L9 α a9 u9 K9 hL hcl hA hG hS h0 h1 hK
    replace hL : L9 7 = false := hL
    have q23 : a9.tmps[23]? = some (.int .i64 (j : Int)) := (h0 23 (by kernel_rfl)).trans rfl
    have s23 := Rega.eval_of q23
    go_simp
    exact hK _ α _ (fun _ _ => rfl) rfl (step_same (st9) hL hcl rfl rfl hG)
   ·intro L9 α a9 u9 K9 hL hcl hA hG hS h0 h1 hK
    replace hL : L9 8 = false := hL
    have q159 : a9.tmps[159]? = some (.slice (some ⟨b, 0, none⟩) ol co) := hS 6 159 (by decide) rfl (by show 159 < 345; decide)
    have s159 := Rega.eval_of q159
    have q160 : a9.tmps[160]? = some (.int .i64 (j : Int)) := hS 7 160 (by decide) rfl (by show 160 < 345; decide)
    have s160 := Rega.eval_of q160
    go_simp
    exact hK _ α _ (fun _ _ => rfl) rfl (step_same (st9) hL hcl rfl rfl hG)
   ·intro L9 α a9 u9 K9 hL hcl hA hG hS h0 h1 hK
    replace hL : L9 9 = false := hL
    have q161 : a9.tmps[161]? = some (.pointer (some ⟨b, j, none⟩)) := hS 8 161 (by decide) rfl (by show 161 < 345; decide)
    have s161 := Rega.eval_of q161
    have c0 : u9.cell? ⟨b, j, none⟩ = some (vI ((oj : Int) + 1)) := Base.RowAt.cell (show Base.RowAt u9 b 21 (full i32Z (iL (outs D hst n)) c) from (hG.frame _ _ hxr2).2.1) (full_at (iL_at hoj))
    go_simp
    exact hK _ α _ (fun _ _ => rfl) rfl (step_same (st9) hL hcl rfl rfl hG)
   ·intro L9 α a9 u9 K9 hL hcl hA hG hS h0 h1 hK
    replace hL : L9 10 = false := hL
    have q158 : a9.tmps[158]? = some (vI ((oj : Int) + 1)) := hS 5 158 (by decide) rfl (by show 158 < 345; decide)
    have s158 := Rega.eval_of q158
    have q162 : a9.tmps[162]? = some (vI ((oj : Int) + 1)) := hS 9 162 (by decide) rfl (by show 162 < 345; decide)
    have s162 := Rega.eval_of q162
    go_simp
    exact hK _ α _ (fun _ _ => rfl) rfl (step_same (st9) hL hcl rfl rfl hG)
  clear st9
  intro α u hG
  have e0 : R9 (fun k => decide (k < 11)) α 999 = row (qb) 61 (full stmZ (stL D (outs D hst n) ++ [.iface 42 (vP lb), vI 7, .iface 67 (vP yb), vI 7]) qc) := rfl
  have hO : Own w0 u [row (qb) 61 (full stmZ (stL D (outs D hst n) ++ [.iface 42 (vP lb), vI 7, .iface 67 (vP yb), vI 7]) qc)] X9_1 := (hG.list [999] (by decide) (act_all (by decide))).conv (by
   show [R9 (fun k => decide (k < 11)) α 999] = _
   rw [e0])
  clear hG e0 R9
  generalize hfr : Rega.frameAt _ _ _ _ _ = fr
  have hdf : fr = ⟨#[A0, .bool hst, .bool awb, A2, A3, A4, u6, A6, vP cs, A7, vP kb, .int .i64 (n : Int), A9, AA, AB, vP pt, .int .i64 0, .int .i64 0, .slice (some ⟨qb, 0, none⟩) (ol + 2) (ol + 2 + qc), .slice (some ⟨b, 0, none⟩) ol co, .slice so2 il co2, AE, AF, .int .i64 (j : Int), AH, AI, AJ, AK, AL, AM, AN, AO, AP, AQ, AR, AS, AT, AU, AV, AW, AX, AY, AZ, B0, B1, B2, B3, B4, B6, B7, B8, B9, BA, BB, BC, BD, BE, BF, BG, BH, BI, BJ, BK, BL, BM, BN, BO, BP, BQ, BR, BS, BT, BU, BV, BW, BX, BY, BZ, C0, C1, C2, C3, C4, C5, C6, C7, C8, C9, CA, CB, CC, CD, CE, CF, CG, CH, CI, CJ, CK, CL, CM, CN, CO, CP, CQ, CR, CS, CT, CU, CV, CW, CX, CY, CZ, E0, E1, E2, E3, E4, E5, E6, E7, E8, E9, EA, EB, EC, ED, EE, EF, EG, EH, EI, EJ, EK, EL, EM, EN, EO, EP, EQ, .slice (some ⟨qb, 0, none⟩) (ol + 2) (ol + 2 + qc), .int .i64 ((ol : Int) + 2), .slice (some ⟨b, 0, none⟩) ol co, .int .i64 (ol : Int), .int .i64 ((ol : Int) + 2), bF, .int .i64 (j : Int), .slice (some ⟨b, 0, none⟩) ol co, .int .i64 (ol : Int), .bool true, u151, u152, .slice (some ⟨qb, 0, none⟩) (ol + 2) (ol + 2 + qc), .int .i64 (j : Int), .pointer (some ⟨qb, j * 2, none⟩), .pointer (some ⟨qb, j * 2 + 1, none⟩), .pointer (some ⟨qb, j * 2 + 1, none⟩), vI ((oj : Int) + 1), .slice (some ⟨b, 0, none⟩) ol co, .int .i64 (j : Int), .pointer (some ⟨b, j, none⟩), vI ((oj : Int) + 1), bF, FE, FF, FG, FH, FI, FJ, FK, FL, FM, FN, FO, FP, FQ, FR, FS, FT, FU, FV, FW, FX, FY, FZ, G0, G1, G2, G3, G4, G5, G6, G7, G8, G9, GA, GB, GC, GD, GE, GF, GG, GH, GI, GJ, GK, GL, GM, GN, GO, GP, GQ, GR, GS, GT, GU, GV, GW, GX, GY, GZ, I0, I1, I2, I3, I4, I5, I6, I7, I8, I9, IA, IB, IC, ID, IE, IF, IG, IH, II, IJ, IK, IL, IM, IN, IO, IP, IQ, IR, IS, IT, IU, IV, IW, IX, IY, IZ, J0, J1, J2, J3, J4, J5, J6, J7, J8, J9, JA, JB, JC, JD, JE, JF, JG, JH, JI, JJ, JK, JL, JM, JN, JO, JP, JQ, JR, JS, JT, JU, JV, JW, JX, JY, JZ, M0, M1, M2, M3, M4, M5, M6, M7, M8, M9, MA, MB, MC, MD, ME, MF, MG, MH, MI, MJ, MK, ML, MM, MN, MO, MP, MQ, MR, MS, MT, MU, MV, MW, MX, MY, MZ, N0, N1, N2, N3, N4, N5, N6, N7, N8, N9, NA, NB, NC, ND, NE], []⟩ := by rw [← hfr]; kernel_rfl
  clear hfr
  subst hdf
  clear α
  clear hxr2
  subst hX9_1
  have hN : Own w0 u [row (qb) 61 (full stmZ (stL D (outs D hst n) ++ [.iface 42 (vP lb), vI 7, .iface 67 (vP yb), vI 7]) qc), row (lb) 57 #[.slice (some ⟨ld, 0, none⟩) 1 1, .int .u8 0, bF, bF], row (ld) 54 #[.iface 134 (vP li), vI 7, .iface 315 (vP la), vI 7], row (li) 136 #[vU src, vU g0], row (yb) 76 #[vP yc, vP yf, .slice sa il n, vI 0, vI 7], row (kb) 31 #[vU src, vU g0]] X := hO.back HL.out HX.out [1, 2, 3, 4, 5] (by decide) (by decide)
  clear hO HL HX
  have hO := hN
  clear hN
  obtain ⟨c9_1_0, c9_1_1, c9_1_2, c9_1_3, lt9_1, y9_1, -⟩ := hO.k4 1 rfl
  obtain ⟨c9_2_0, c9_2_1, c9_2_2, c9_2_3, lt9_2, y9_2, -⟩ := hO.k4 2 rfl
  obtain ⟨c9_3_0, c9_3_1, lt9_3, y9_3, -⟩ := hO.k2 3 rfl
  obtain ⟨c9_4_0, c9_4_1, c9_4_2, c9_4_3, c9_4_4, lt9_4, y9_4, -⟩ := hO.k5 4 rfl
  obtain ⟨c9_5_0, c9_5_1, lt9_5, y9_5, -⟩ := hO.k2 5 rfl
  have HO := Lib.hid hO
  clear hO
  go_wp2_with (first | (with_reducible refine Own.stay (fn := Tryd.f6) ?_) | fail)
  try with_reducible refine Own.Stay.mk ?_
  have hO := HO.out
  clear HO c9_1_0 c9_1_1 c9_1_2 c9_1_3 lt9_1 y9_1 c9_2_0 c9_2_1 c9_2_2 c9_2_3 lt9_2 y9_2 c9_3_0 c9_3_1 lt9_3 y9_3 c9_4_0 c9_4_1 c9_4_2 c9_4_3 c9_4_4 lt9_4 y9_4 c9_5_0 c9_5_1 lt9_5 y9_5
  go_roundg gq
  case measure => omega
  case rel => exact ⟨j + 1, by omega, by first | rfl | simp, hO.sub [0, 1, 2, 3, 4, 5] (by decide)⟩
 obtain rfl : ol = j := by omega
 have hlt9 : ¬ (ol : Int) < (ol : Int) := by omega
 obtain ⟨ix9, hix9, hax9, hjx9⟩ := hO.ix
 have ix9_0 : ix9 qb = 0 := hjx9 0 _ _ rfl
 have ix9_1 : ix9 lb = 1 := hjx9 1 _ _ rfl
 have ix9_2 : ix9 ld = 2 := hjx9 2 _ _ rfl
 have ix9_3 : ix9 li = 3 := hjx9 3 _ _ rfl
 have ix9_4 : ix9 yb = 4 := hjx9 4 _ _ rfl
 have ix9_5 : ix9 kb = 5 := hjx9 5 _ _ rfl
 clear hjx9
 have c9_0__ol_1_2 : wr.cell? ⟨qb, (ol + 1) * 2, none⟩ = some (.iface 67 (vP yb)) := hO.cell 0 rfl ((ol + 1) * 2) ((full_at HQ2.out))
 have c9_0__ol_1_2_1 : wr.cell? ⟨qb, (ol + 1) * 2 + 1, none⟩ = some (vI 7) := hO.cell 0 rfl ((ol + 1) * 2 + 1) ((full_at HQ3.out))
 have c9_0_ol_2 : wr.cell? ⟨qb, ol * 2, none⟩ = some (.iface 42 (vP lb)) := hO.cell 0 rfl (ol * 2) ((full_at HQ0.out))
 have c9_0_ol_2_1 : wr.cell? ⟨qb, ol * 2 + 1, none⟩ = some (vI 7) := hO.cell 0 rfl (ol * 2 + 1) ((full_at HQ1.out))
 have lt9_0 : qb < wr.heap.size := hO.lt 0 rfl
 have y9_0 : ∀ o, wr.frozen? ⟨qb, o, none⟩ = false := hO.free 0 rfl
 obtain ⟨c9_1_0, c9_1_1, c9_1_2, c9_1_3, lt9_1, y9_1, -⟩ := hO.k4 1 rfl
 obtain ⟨c9_2_0, c9_2_1, c9_2_2, c9_2_3, lt9_2, y9_2, -⟩ := hO.k4 2 rfl
 obtain ⟨c9_3_0, c9_3_1, lt9_3, y9_3, -⟩ := hO.k2 3 rfl
 obtain ⟨c9_4_0, c9_4_1, c9_4_2, c9_4_3, c9_4_4, lt9_4, y9_4, -⟩ := hO.k5 4 rfl
 obtain ⟨c9_5_0, c9_5_1, lt9_5, y9_5, -⟩ := hO.k2 5 rfl
 have HO := Lib.hid hO
 clear hO
 go_wp2_with (first | (with_reducible refine Own.stay (fn := Tryd.f6) ?_) | fail)
 try with_reducible refine Own.Stay.mk ?_
 have hO := HO.out
 clear HO hix9 hax9 ix9_0 ix9_1 ix9_2 ix9_3 ix9_4 ix9_5 ix9 c9_0__ol_1_2 c9_0__ol_1_2_1 c9_0_ol_2 c9_0_ol_2_1 lt9_0 y9_0 c9_1_0 c9_1_1 c9_1_2 c9_1_3 lt9_1 y9_1 c9_2_0 c9_2_1 c9_2_2 c9_2_3 lt9_2 y9_2 c9_3_0 c9_3_1 lt9_3 y9_3 c9_4_0 c9_4_1 c9_4_2 c9_4_3 c9_4_4 lt9_4 y9_4 c9_5_0 c9_5_1 lt9_5 y9_5
 have hL := hO.apart
 have hX := hO.apartX
 have HL := Lib.hid hL
 have HX := Lib.hid hX
 clear hL hX
 have hP9 := hO.pick [] (by decide)
 have T9 := asLocal lb 7 _ _ _ hP9 
 refine Calls.mono T9 ?_
 clear hP9 T9
 rintro e uw3 ⟨rfl, hQ⟩
 have hN : Own w0 uw3 [row (qb) 61 (full stmZ (stL D (outs D hst n) ++ [.iface 42 (vP lb), vI 7, .iface 67 (vP yb), vI 7]) qc), row (lb) 57 #[.slice (some ⟨ld, 0, none⟩) 1 1, .int .u8 0, bF, bF], row (ld) 54 #[.iface 134 (vP li), vI 7, .iface 315 (vP la), vI 7], row (li) 136 #[vU src, vU g0], row (yb) 76 #[vP yc, vP yf, .slice sa il n, vI 0, vI 7], row (kb) 31 #[vU src, vU g0]] X := hQ.back HL.out HX.out [0, 1, 2, 3, 4, 5] (by decide) (by decide)
 clear hQ HL HX hO
 have hO := hN
 clear hN
 obtain ⟨ix9, hix9, hax9, hjx9⟩ := hO.ix
 have ix9_0 : ix9 qb = 0 := hjx9 0 _ _ rfl
 have ix9_1 : ix9 lb = 1 := hjx9 1 _ _ rfl
 have ix9_2 : ix9 ld = 2 := hjx9 2 _ _ rfl
 have ix9_3 : ix9 li = 3 := hjx9 3 _ _ rfl
 have ix9_4 : ix9 yb = 4 := hjx9 4 _ _ rfl
 have ix9_5 : ix9 kb = 5 := hjx9 5 _ _ rfl
 clear hjx9
 have c9_0__ol_1_2 : uw3.cell? ⟨qb, (ol + 1) * 2, none⟩ = some (.iface 67 (vP yb)) := hO.cell 0 rfl ((ol + 1) * 2) ((full_at HQ2.out))
 have c9_0__ol_1_2_1 : uw3.cell? ⟨qb, (ol + 1) * 2 + 1, none⟩ = some (vI 7) := hO.cell 0 rfl ((ol + 1) * 2 + 1) ((full_at HQ3.out))
 have c9_0_ol_2 : uw3.cell? ⟨qb, ol * 2, none⟩ = some (.iface 42 (vP lb)) := hO.cell 0 rfl (ol * 2) ((full_at HQ0.out))
 have c9_0_ol_2_1 : uw3.cell? ⟨qb, ol * 2 + 1, none⟩ = some (vI 7) := hO.cell 0 rfl (ol * 2 + 1) ((full_at HQ1.out))
 have lt9_0 : qb < uw3.heap.size := hO.lt 0 rfl
 have y9_0 : ∀ o, uw3.frozen? ⟨qb, o, none⟩ = false := hO.free 0 rfl
 obtain ⟨c9_1_0, c9_1_1, c9_1_2, c9_1_3, lt9_1, y9_1, -⟩ := hO.k4 1 rfl
 obtain ⟨c9_2_0, c9_2_1, c9_2_2, c9_2_3, lt9_2, y9_2, -⟩ := hO.k4 2 rfl
 obtain ⟨c9_3_0, c9_3_1, lt9_3, y9_3, -⟩ := hO.k2 3 rfl
 obtain ⟨c9_4_0, c9_4_1, c9_4_2, c9_4_3, c9_4_4, lt9_4, y9_4, -⟩ := hO.k5 4 rfl
 obtain ⟨c9_5_0, c9_5_1, lt9_5, y9_5, -⟩ := hO.k2 5 rfl
 have HO := Lib.hid hO
 clear hO
 go_wp2_with (first | (with_reducible refine Own.stay (fn := Tryd.f6) ?_) | fail)
 try with_reducible refine Own.Stay.mk ?_
 have hO := HO.out
 clear HO hix9 hax9 ix9_0 ix9_1 ix9_2 ix9_3 ix9_4 ix9_5 ix9 c9_0__ol_1_2 c9_0__ol_1_2_1 c9_0_ol_2 c9_0_ol_2_1 lt9_0 y9_0 c9_1_0 c9_1_1 c9_1_2 c9_1_3 lt9_1 y9_1 c9_2_0 c9_2_1 c9_2_2 c9_2_3 lt9_2 y9_2 c9_3_0 c9_3_1 lt9_3 y9_3 c9_4_0 c9_4_1 c9_4_2 c9_4_3 c9_4_4 lt9_4 y9_4 c9_5_0 c9_5_1 lt9_5 y9_5
 have hL := hO.apart
 have hX := hO.apartX
 have HL := Lib.hid hL
 have HX := Lib.hid hX
 clear hL hX
 have hP9 := hO.pick [3] (by decide)
 have T9 := bindRef li 7 src g0 _ _ _ hP9 
 refine Calls.mono T9 ?_
 clear hP9 T9
 rintro e uw4 ⟨rfl, hQ⟩
 have hN : Own w0 uw4 [row (li) 136 #[vU src, vU g0], row (qb) 61 (full stmZ (stL D (outs D hst n) ++ [.iface 42 (vP lb), vI 7, .iface 67 (vP yb), vI 7]) qc), row (lb) 57 #[.slice (some ⟨ld, 0, none⟩) 1 1, .int .u8 0, bF, bF], row (ld) 54 #[.iface 134 (vP li), vI 7, .iface 315 (vP la), vI 7], row (yb) 76 #[vP yc, vP yf, .slice sa il n, vI 0, vI 7], row (kb) 31 #[vU src, vU g0]] X := hQ.back HL.out HX.out [0, 1, 2, 4, 5] (by decide) (by decide)
 clear hQ HL HX hO
 have hO := hN
 clear hN
 obtain ⟨ix9, hix9, hax9, hjx9⟩ := hO.ix
 have ix9_0 : ix9 li = 0 := hjx9 0 _ _ rfl
 have ix9_1 : ix9 qb = 1 := hjx9 1 _ _ rfl
 have ix9_2 : ix9 lb = 2 := hjx9 2 _ _ rfl
 have ix9_3 : ix9 ld = 3 := hjx9 3 _ _ rfl
 have ix9_4 : ix9 yb = 4 := hjx9 4 _ _ rfl
 have ix9_5 : ix9 kb = 5 := hjx9 5 _ _ rfl
 clear hjx9
 obtain ⟨c9_0_0, c9_0_1, lt9_0, y9_0, -⟩ := hO.k2 0 rfl
 have c9_1__ol_1_2 : uw4.cell? ⟨qb, (ol + 1) * 2, none⟩ = some (.iface 67 (vP yb)) := hO.cell 1 rfl ((ol + 1) * 2) ((full_at HQ2.out))
 have c9_1__ol_1_2_1 : uw4.cell? ⟨qb, (ol + 1) * 2 + 1, none⟩ = some (vI 7) := hO.cell 1 rfl ((ol + 1) * 2 + 1) ((full_at HQ3.out))
 have c9_1_ol_2 : uw4.cell? ⟨qb, ol * 2, none⟩ = some (.iface 42 (vP lb)) := hO.cell 1 rfl (ol * 2) ((full_at HQ0.out))
 have c9_1_ol_2_1 : uw4.cell? ⟨qb, ol * 2 + 1, none⟩ = some (vI 7) := hO.cell 1 rfl (ol * 2 + 1) ((full_at HQ1.out))
 have lt9_1 : qb < uw4.heap.size := hO.lt 1 rfl
 have y9_1 : ∀ o, uw4.frozen? ⟨qb, o, none⟩ = false := hO.free 1 rfl
 obtain ⟨c9_2_0, c9_2_1, c9_2_2, c9_2_3, lt9_2, y9_2, -⟩ := hO.k4 2 rfl
 obtain ⟨c9_3_0, c9_3_1, c9_3_2, c9_3_3, lt9_3, y9_3, -⟩ := hO.k4 3 rfl
 obtain ⟨c9_4_0, c9_4_1, c9_4_2, c9_4_3, c9_4_4, lt9_4, y9_4, -⟩ := hO.k5 4 rfl
 obtain ⟨c9_5_0, c9_5_1, lt9_5, y9_5, -⟩ := hO.k2 5 rfl
 have HO := Lib.hid hO
 clear hO
 go_wp2_with (first | (with_reducible refine Own.stay (fn := Tryd.f6) ?_) | fail)
 try with_reducible refine Own.Stay.mk ?_
 have hO := HO.out
 clear HO hix9 hax9 ix9_0 ix9_1 ix9_2 ix9_3 ix9_4 ix9_5 ix9 c9_0_0 c9_0_1 lt9_0 y9_0 c9_1__ol_1_2 c9_1__ol_1_2_1 c9_1_ol_2 c9_1_ol_2_1 lt9_1 y9_1 c9_2_0 c9_2_1 c9_2_2 c9_2_3 lt9_2 y9_2 c9_3_0 c9_3_1 c9_3_2 c9_3_3 lt9_3 y9_3 c9_4_0 c9_4_1 c9_4_2 c9_4_3 c9_4_4 lt9_4 y9_4 c9_5_0 c9_5_1 lt9_5 y9_5
 generalize hW : World.alloc _ _ = W6
 have hN : Own w0 W6 [row (uw4.heap.size) 31 #[vU src, vU g0], row (li) 136 #[vU src, vU g0], row (qb) 61 (full stmZ (stL D (outs D hst n) ++ [.iface 42 (vP lb), vI 7, .iface 67 (vP yb), vI 7]) qc), row (lb) 57 #[.slice (some ⟨ld, 0, none⟩) 1 1, .int .u8 0, bF, bF], row (ld) 54 #[.iface 134 (vP li), vI 7, .iface 315 (vP la), vI 7], row (yb) 76 #[vP yc, vP yf, .slice sa il n, vI 0, vI 7], row (kb) 31 #[vU src, vU g0]] X := by
  rw [← hW]
  exact (hO).alloc' _ (uw4.heap.size) (by simp)
 clear hW hO
 generalize uw4.heap.size = B5 at hN ⊢
 have hO := hN
 clear hN
 have hL := hO.apart
 have hX := hO.apartX
 have HL := Lib.hid hL
 have HX := Lib.hid hX
 clear hL hX
 have hP9 := hO.pick [] (by decide)
 have T9 := asTry yb 7 _ _ _ hP9 
 refine Calls.mono T9 ?_
 clear hP9 T9
 rintro e uw7 ⟨rfl, hQ⟩
 have hN : Own w0 uw7 [row (B5) 31 #[vU src, vU g0], row (li) 136 #[vU src, vU g0], row (qb) 61 (full stmZ (stL D (outs D hst n) ++ [.iface 42 (vP lb), vI 7, .iface 67 (vP yb), vI 7]) qc), row (lb) 57 #[.slice (some ⟨ld, 0, none⟩) 1 1, .int .u8 0, bF, bF], row (ld) 54 #[.iface 134 (vP li), vI 7, .iface 315 (vP la), vI 7], row (yb) 76 #[vP yc, vP yf, .slice sa il n, vI 0, vI 7], row (kb) 31 #[vU src, vU g0]] X := hQ.back HL.out HX.out [0, 1, 2, 3, 4, 5, 6] (by decide) (by decide)
 clear hQ HL HX hO
 have hO := hN
 clear hN
 obtain ⟨ix9, hix9, hax9, hjx9⟩ := hO.ix
 have ix9_0 : ix9 B5 = 0 := hjx9 0 _ _ rfl
 have ix9_1 : ix9 li = 1 := hjx9 1 _ _ rfl
 have ix9_2 : ix9 qb = 2 := hjx9 2 _ _ rfl
 have ix9_3 : ix9 lb = 3 := hjx9 3 _ _ rfl
 have ix9_4 : ix9 ld = 4 := hjx9 4 _ _ rfl
 have ix9_5 : ix9 yb = 5 := hjx9 5 _ _ rfl
 have ix9_6 : ix9 kb = 6 := hjx9 6 _ _ rfl
 clear hjx9
 obtain ⟨c9_0_0, c9_0_1, lt9_0, y9_0, pl9_0⟩ := hO.k2 0 rfl
 obtain ⟨c9_1_0, c9_1_1, lt9_1, y9_1, -⟩ := hO.k2 1 rfl
 have c9_2__ol_1_2 : uw7.cell? ⟨qb, (ol + 1) * 2, none⟩ = some (.iface 67 (vP yb)) := hO.cell 2 rfl ((ol + 1) * 2) ((full_at HQ2.out))
 have c9_2__ol_1_2_1 : uw7.cell? ⟨qb, (ol + 1) * 2 + 1, none⟩ = some (vI 7) := hO.cell 2 rfl ((ol + 1) * 2 + 1) ((full_at HQ3.out))
 have c9_2_ol_2 : uw7.cell? ⟨qb, ol * 2, none⟩ = some (.iface 42 (vP lb)) := hO.cell 2 rfl (ol * 2) ((full_at HQ0.out))
 have c9_2_ol_2_1 : uw7.cell? ⟨qb, ol * 2 + 1, none⟩ = some (vI 7) := hO.cell 2 rfl (ol * 2 + 1) ((full_at HQ1.out))
 have lt9_2 : qb < uw7.heap.size := hO.lt 2 rfl
 have y9_2 : ∀ o, uw7.frozen? ⟨qb, o, none⟩ = false := hO.free 2 rfl
 obtain ⟨c9_3_0, c9_3_1, c9_3_2, c9_3_3, lt9_3, y9_3, -⟩ := hO.k4 3 rfl
 obtain ⟨c9_4_0, c9_4_1, c9_4_2, c9_4_3, lt9_4, y9_4, -⟩ := hO.k4 4 rfl
 obtain ⟨c9_5_0, c9_5_1, c9_5_2, c9_5_3, c9_5_4, lt9_5, y9_5, -⟩ := hO.k5 5 rfl
 obtain ⟨c9_6_0, c9_6_1, lt9_6, y9_6, pl9_6⟩ := hO.k2 6 rfl
 have HO := Lib.hid hO
 clear hO
 go_wp2_with (first | (with_reducible refine Own.stay (fn := Tryd.f6) ?_) | fail)
 try with_reducible refine Own.Stay.mk ?_
 have hO := HO.out
 clear HO hix9 hax9 ix9_0 ix9_1 ix9_2 ix9_3 ix9_4 ix9_5 ix9_6 ix9 c9_0_0 c9_0_1 lt9_0 y9_0 pl9_0 c9_1_0 c9_1_1 lt9_1 y9_1 c9_2__ol_1_2 c9_2__ol_1_2_1 c9_2_ol_2 c9_2_ol_2_1 lt9_2 y9_2 c9_3_0 c9_3_1 c9_3_2 c9_3_3 lt9_3 y9_3 c9_4_0 c9_4_1 c9_4_2 c9_4_3 lt9_4 y9_4 c9_5_0 c9_5_1 c9_5_2 c9_5_3 c9_5_4 lt9_5 y9_5 c9_6_0 c9_6_1 lt9_6 y9_6 pl9_6
 rw [HC9.out]
 exact HB.out _ _ _ _ _ _ _ _ _ _ _ _ _ _ _ _ _ _ _ _ _ _ _ _ _ _ _ _ _ _ _ _ _ _ _ _ _ _ _ _ _ _ _ _ _ _ _ _ _ _ _ _ _ _ _ _ _ _ _ _ _ _ _ _ _ _ _ _ _ _ _ _ _ _ _ _ _ _ _ _ _ _ _ _ _ _ _ _ _ _ _ _ _ _ _ _ _ _ _ _ _ _ _ _ _ _ _ _ _ _ _ _ _ _ _ _ _ _ _ _ _ _ _ _ _ _ _ _ _ _ _ _ _ _ _ _ _ _ _ _ _ _ _ _ _ _ _ _ _ _ _ _ _ _ _ _ _ _ _ _ _ _ _ _ _ _ _ _ _ _ _ _ _ _ _ _ _ _ _ _ _ _ _ _ _ _ _ _ _ _ _ _ _ _ _ _ _ _ _ _ _ _ _ _ _ _ _ _ _ _ _ _ _ _ _ _ _ _ _ _ _ _ _ _ _ _ _ _ _ _ _ _ _ _ _ _ _ _ _ _ _ _ _ _ _ _ _ _ _ _ _ _ _ _ _ _ _ _ _ _ _ _ _ _ _ _ _ _ _ _ _ _ _ _ _ _ _ _ _ _ _ _ _ _ _ _ _ _ _ _ _ _ _ _ _ _ _ _ _ _ _ _ _ _ _ _ _ _ _ _ _ _ _ _ _ _ _ _ _ _ _ _ _ _ _ _ _ _ _ _ _ _ _ _ _ _ _ _ (hO.sub [5, 6] (by decide))
end Go.Proofs.YtikopplofkemlaaDoor.Use
