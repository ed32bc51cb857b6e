/- Row 47: the loop that parts the numbers. No condition. -/
import Derived.Test.YtikopplofkemlaaDoorAbb
import Derived.Test.YtikopplofkemlaaDoorLs47
import Derived.Test.YtikopplofkemlaaDoorMsc
import Derived.Test.YtikopplofkemlaaDoorEls
import Derived.Test.YtikopplofkemlaaDoorUmp
import Derived.Test.YtikopplofkemlaaDoorLive
import Derived.Test.YtikopplofkemlaaDoorLoop
import Derived.Test.YtikopplofkemlaaDoorUms
import Derived.Test.YtikopplofkemlaaDoorAppL
import Derived.Test.YtikopplofkemlaaDoorApp
import Derived.Test.YtikopplofkemlaaDoorOwnK
import Derived.Test.YtikopplofkemlaaDoorOwn
import Derived.Test.YtikopplofkemlaaDoorDeepCells
import Derived.Test.YtikopplofkemlaaDoorRows
import Derived.Test.YtikopplofkemlaaDoorUse
namespace Go.Proofs.YtikopplofkemlaaDoor.Use
open Go.ChangeShapes Go.WideShapes Go.ChangeAt Go.RowKit Go.Sort Own
set_option linter.unusedVariables false
def Hc47 (ub : Nat) (n : Nat) (U : Nat → Nat) (D : Dt) (hst : Bool) (v2 : Value) (v7 : Value) (v8 : Value) (v9 : Value) (v10 : Value) (v12 : Value) (v15 : Value) (v16 : Value) (v17 : Value) (v18 : Value) (w0 : World) (X : Nat → Obj → Prop) (Q : Exit → Act → World → Prop) : Prop :=
 ∀ (so si : Value) (Lo Li : List Rw) (A0 A1 A2 A3 A4 A5 A8 A9 AA AB AC AD AE AF AG AH AI AJ AK AL AM AN AO AP AQ AR AS AT AU AV AW AX AY AZ B0 B2 B3 B4 B5 B7 B8 B9 BA BB BC BD BE BF BG BH BI BJ BK BL BM BN BO BP BQ BR BS BT BU BV BW BX BY BZ C0 C1 C2 C3 C4 C5 C6 C7 C8 C9 CA CB CC CD CE CF CG CH CI CJ CK CL CM CN CO CP CQ CR CS CT CU CV CW CX CY CZ E0 E1 E2 E3 E4 E5 E6 E7 E8 E9 EA EB EC ED EE EF EG EH EI EJ EK EL EM EN EO EP EQ ER ES ET EU EV EW EX EY EZ F0 F1 F2 F3 F4 F5 F6 F7 F8 F9 FA FB FC FD FE FF FG FH FI FJ FK FL FM FN FO FP FQ FS FT FU FV FW FX FY FZ G0 G1 G2 G3 G4 G5 G6 G7 G8 G9 GA GB GC GD GE GF GG GH GI GJ GK GL GM GN GO GP GQ GR GS GT GU GV GW GX GY GZ I0 I1 I2 I3 I4 I5 I6 I7 I8 I9 IA IB IC ID IE IF IG IH II IJ IK IL IM IN IO IP IQ IR IS IT IU IV IW IX IY IZ J0 J1 J2 J3 J4 J5 J6 J7 J8 J9 JA JB JC JD JE JF JG JH JI JJ JK JL JM JN JO JP JQ JR JS JT JU JV JW JX JY JZ M0 M1 M2 M3 M4 M5 M6 M7 M8 M9 MA MB MC MD ME MF MG MH MI MJ MK ML MM MN MO MP MQ MR MS MT MU MV MW MX MY MZ N0 N1 N2 N3 N4 N5 N6 N7 N8 N9 NA : Value) (w2 : World), LsP so Lo (outs D hst n) → LsP si Li (ins D hst n) → Own w0 w2 ([row (ub) 5 (itR U n)] ++ (Lo ++ Li)) X → Code.wp Tryd.prog rest47b Q ⟨#[.slice (some ⟨ub, 0, none⟩) n n, .bool hst, v2, A0, A1, A2, A3, v7, v8, v9, v10, .int .i64 (n : Int), v12, A4, A5, v15, v16, v17, v18, so, si, A8, A9, AA, AB, AC, AD, AE, AF, AG, AH, AI, AJ, AK, AL, AM, AN, AO, AP, AQ, AR, AS, AT, AU, AV, AW, AX, AY, AZ, B0, B2, B3, B4, B5, B7, B8, B9, BA, BB, BC, BD, BE, BF, BG, BH, BI, BJ, BK, BL, BM, BN, BO, BP, BQ, BR, BS, BT, BU, BV, BW, BX, BY, BZ, C0, C1, C2, C3, C4, C5, C6, C7, C8, C9, CA, CB, CC, CD, CE, CF, CG, CH, CI, CJ, CK, CL, CM, CN, CO, CP, CQ, CR, CS, CT, CU, CV, CW, CX, CY, CZ, E0, E1, E2, E3, E4, E5, E6, E7, E8, E9, EA, EB, EC, ED, EE, EF, EG, EH, EI, EJ, EK, EL, EM, EN, EO, EP, EQ, ER, ES, ET, EU, EV, EW, EX, EY, EZ, F0, F1, F2, F3, F4, F5, F6, F7, F8, F9, FA, FB, FC, FD, FE, FF, FG, FH, FI, FJ, FK, FL, FM, FN, FO, FP, FQ, FS, FT, FU, FV, FW, FX, FY, FZ, G0, G1, G2, G3, G4, G5, G6, G7, G8, G9, GA, GB, GC, GD, GE, GF, GG, GH, GI, GJ, GK, GL, GM, GN, GO, GP, GQ, GR, GS, GT, GU, GV, GW, GX, GY, GZ, I0, I1, I2, I3, I4, I5, I6, I7, I8, I9, IA, IB, IC, ID, IE, IF, IG, IH, II, IJ, IK, IL, IM, IN, IO, IP, IQ, IR, IS, IT, IU, IV, IW, IX, IY, IZ, J0, J1, J2, J3, J4, J5, J6, J7, J8, J9, JA, JB, JC, JD, JE, JF, JG, JH, JI, JJ, JK, JL, JM, JN, JO, JP, JQ, JR, JS, JT, JU, JV, JW, JX, JY, JZ, M0, M1, M2, M3, M4, M5, M6, M7, M8, M9, MA, MB, MC, MD, ME, MF, MG, MH, MI, MJ, MK, ML, MM, MN, MO, MP, MQ, MR, MS, MT, MU, MV, MW, MX, MY, MZ, N0, N1, N2, N3, N4, N5, N6, N7, N8, N9, NA], []⟩ w2


set_option maxRecDepth 100000 in
set_option maxHeartbeats 4000000 in
theorem tl47a (ub n : Nat) (U : Nat → Nat) (D : Dt) (hst : Bool) (v2 v7 v8 v9 v10 v12 v15 v16 v17 v18 A0 A1 A2 A3 A4 A5 A6 A7 A8 A9 AA AB AC AD AE AF AG AH AI AJ AK AL AM AN AO AP AQ AR AS AT AU AV AW AX AY AZ B0 B2 B3 B4 B5 B7 B8 B9 BA BB BC BD BE BF BG BH BI BJ BK BL BM BN BO BP BQ BR BS BT BU BV BW BX BY BZ C0 C1 C2 C3 C4 C5 C6 C7 C8 C9 CA CB CC CD CE CF CG CH CI CJ CK CL CM CN CO CP CQ CR CS CT CU CV CW CX CY CZ E0 E1 E2 E3 E4 E5 E6 E7 E8 E9 EA EB EC ED EE EF EG EH EI EJ EK EL EM EN EO EP EQ ER ES ET EU EV EW EX EY EZ F0 F1 F2 F3 F4 F5 F6 F7 F8 F9 FA FB FC FD FE FF FG FH FI FJ FK FL FM FN FO FP FQ FS FT FU FV FW FX FY FZ G0 G1 G2 G3 G4 G5 G6 G7 G8 G9 GA GB GC GD GE GF GG GH GI GJ GK GL GM GN GO GP GQ GR GS GT GU GV GW GX GY GZ I0 I1 I2 I3 I4 I5 I6 I7 I8 I9 IA IB IC ID IE IF IG IH II IJ IK IL IM IN IO IP IQ IR IS IT IU IV IW IX IY IZ J0 J1 J2 J3 J4 J5 J6 J7 J8 J9 JA JB JC JD JE JF JG JH JI JJ JK JL JM JN JO JP JQ JR JS JT JU JV JW JX JY JZ M0 M1 M2 M3 M4 M5 M6 M7 M8 M9 MA MB MC MD ME MF MG MH MI MJ MK ML MM MN MO MP MQ MR MS MT MU MV MW MX MY MZ N0 N1 N2 N3 N4 N5 N6 N7 N8 N9 NA : Value) (w0 w : World) (X : Nat → Obj → Prop) (Q : Exit → Act → World → Prop) (hB : Hc47 ub n U D hst v2 v7 v8 v9 v10 v12 v15 v16 v17 v18 w0 X Q) (hO : Own w0 w [row (ub) 5 (itR U n)] X) (hn4 : n ≤ 4096) (hu9 : ∀ i : Nat, i < n → U i < 256) (hDk : D.kd = (fun j => U j % 4)) :
  Code.wp Tryd.prog rest47a Q ⟨#[.slice (some ⟨ub, 0, none⟩) n n, .bool hst, v2, A0, A1, A2, A3, v7, v8, v9, v10, .int .i64 (n : Int), v12, A4, A5, v15, v16, v17, v18, A6, A7, A8, A9, AA, AB, AC, AD, AE, AF, AG, AH, AI, AJ, AK, AL, AM, AN, AO, AP, AQ, AR, AS, AT, AU, AV, AW, AX, AY, AZ, B0, B2, B3, B4, B5, B7, B8, B9, BA, BB, BC, BD, BE, BF, BG, BH, BI, BJ, BK, BL, BM, BN, BO, BP, BQ, BR, BS, BT, BU, BV, BW, BX, BY, BZ, C0, C1, C2, C3, C4, C5, C6, C7, C8, C9, CA, CB, CC, CD, CE, CF, CG, CH, CI, CJ, CK, CL, CM, CN, CO, CP, CQ, CR, CS, CT, CU, CV, CW, CX, CY, CZ, E0, E1, E2, E3, E4, E5, E6, E7, E8, E9, EA, EB, EC, ED, EE, EF, EG, EH, EI, EJ, EK, EL, EM, EN, EO, EP, EQ, ER, ES, ET, EU, EV, EW, EX, EY, EZ, F0, F1, F2, F3, F4, F5, F6, F7, F8, F9, FA, FB, FC, FD, FE, FF, FG, FH, FI, FJ, FK, FL, FM, FN, FO, FP, FQ, FS, FT, FU, FV, FW, FX, FY, FZ, G0, G1, G2, G3, G4, G5, G6, G7, G8, G9, GA, GB, GC, GD, GE, GF, GG, GH, GI, GJ, GK, GL, GM, GN, GO, GP, GQ, GR, GS, GT, GU, GV, GW, GX, GY, GZ, I0, I1, I2, I3, I4, I5, I6, I7, I8, I9, IA, IB, IC, ID, IE, IF, IG, IH, II, IJ, IK, IL, IM, IN, IO, IP, IQ, IR, IS, IT, IU, IV, IW, IX, IY, IZ, J0, J1, J2, J3, J4, J5, J6, J7, J8, J9, JA, JB, JC, JD, JE, JF, JG, JH, JI, JJ, JK, JL, JM, JN, JO, JP, JQ, JR, JS, JT, JU, JV, JW, JX, JY, JZ, M0, M1, M2, M3, M4, M5, M6, M7, M8, M9, MA, MB, MC, MD, ME, MF, MG, MH, MI, MJ, MK, ML, MM, MN, MO, MP, MQ, MR, MS, MT, MU, MV, MW, MX, MY, MZ, N0, N1, N2, N3, N4, N5, N6, N7, N8, N9, NA], []⟩ w := by
 have HB := Lib.hid hB
 clear hB
 obtain ⟨c9, hc9⟩ : ∃ c, c = rest47b := ⟨_, rfl⟩
 have HC9 := Lib.hid hc9
 simp only [rest47b, Tryd.f6, Option.getD_some, cutC] at hc9
 simp only [rest47a, Tryd.f6, Option.getD_some, cutC]
 rw [← hc9]
 clear hc9
 have HU := Lib.hid hu9
 clear hu9
 have HDk := Lib.hid hDk
 clear hDk
 have hn9 : (n : Int) ≤ 4096 := by omega
 have hn8 : (0 : Int) ≤ (n : Int) := by omega
 go_wp2_with (first | (with_reducible refine Own.stay (fn := Tryd.f6) ?_) | (at_builtin; refine Own.appStop ?_) | fail)
 try with_reducible refine Own.Stay.mk ?_
 go_loopg [19, 20, 21] n (fun gf s19 s20 s21 wx => ∃ (i : Nat) (Lo Li : List Rw), i + gf = n ∧ s21 = .int .i64 (i : Int) ∧ LsP s19 Lo (outs D hst i) ∧ LsP s20 Li (ins D hst i) ∧ Own w0 wx ([row (ub) 5 (itR U n)] ++ (Lo ++ Li)) X)
 case atStart => exact ⟨0, [], [], by omega, rfl, Or.inl ⟨rfl, rfl, rfl⟩, Or.inl ⟨rfl, rfl, rfl⟩, hO⟩
 obtain ⟨i, Lo, Li, hin, rfl, ho, hi, hO⟩ := hrel
 by_cases hlt : i < n
 ·skip
  obtain ⟨gq, rfl⟩ : ∃ gq, gk = gq + 1 := ⟨gk - 1, by omega⟩
  have hlt9 : (i : Int) < (n : Int) := by omega
  have hi8 : (0 : Int) ≤ (i : Int) := by omega
  have hi7 : (i : Int) ≤ 4096 := by omega
  have hku := HU.out i hlt
  have hw32 : IntKind.i32.wrap ((i : Int) + 1) = (i : Int) + 1 := by rw [IntKind.wrap_i32]; omega
  by_cases hk : U i % 4 = 1
  ·skip
   have hrm : (U i : Int).tmod 4 = 1 := by have h9 : (U i : Int).tmod 4 = ((U i % 4 : Nat) : Int) := rfl; rw [h9]; omega
   have hou : outB hst (D.kd i) = true := by rw [HDk.out]; show outB hst (U i % 4) = _; rw [hk]; rfl
   have HOU := Lib.hid hou
   clear hou
   have HK := Lib.hid hk
   clear hk
   have hOp : Own w0 wr (([row (ub) 5 (itR U n)] ++ Lo) ++ Li) X := hO.conv (by rw [List.append_assoc])
   have HT := Lib.hid hOp.tail
   replace hO := hOp.aside
   clear hOp
   generalize hY : FR Li X = Y9 at hO
   have HY := Lib.hid hY
   clear hY
   have HS := Lib.hid hi
   clear hi
   obtain ⟨hnil, rfl, rfl⟩ | ⟨b, c, r, hr, hr0, rfl, rfl⟩ := ho
   ·skip
    have hN : Own w0 wr [row (ub) 5 (itR U n)] Y9 := hO.conv rfl
    clear hO
    have hO := hN
    clear hN
    have HR := Lib.hid hnil
    clear hnil
    obtain ⟨ix9, hix9, hax9, hjx9⟩ := hO.ix
    have ix9_0 : ix9 ub = 0 := hjx9 0 _ _ rfl
    clear hjx9
    have c9_0_i : wr.cell? ⟨ub, i, none⟩ = some (.int .u8 (U i : Int)) := hO.cell 0 rfl (i) ((itR_get hlt))
    have lt9_0 : ub < wr.heap.size := hO.lt 0 rfl
    have y9_0 : ∀ o, wr.frozen? ⟨ub, o, none⟩ = false := hO.free 0 rfl
    have HO := Lib.hid hO
    clear hO
    go_wp2_with (first | (with_reducible refine Own.stay (fn := Tryd.f6) ?_) | (at_builtin; refine Own.appStop ?_) | fail)
    try with_reducible refine Own.Stay.mk ?_
    have hO := HO.out
    clear HO hix9 hax9 ix9_0 ix9 c9_0_i lt9_0 y9_0
    generalize hW : World.alloc _ _ = W2
    have hN : Own w0 W2 [row (wr.heap.size) 21 #[vI ((i : Int) + 1)], row (ub) 5 (itR U n)] Y9 := by
     rw [← hW]
     exact (hO).alloc' _ (wr.heap.size) (by simp)
    clear hW hO
    generalize wr.heap.size = B1 at hN ⊢
    have hO := hN
    clear hN
    refine Own.AppStop.mk ?_
    obtain ⟨i9, hi9, z1, z2, z3⟩ := info_parts infoI32
    have hL := hO.apart
    have hX := hO.apartX
    have HL := Lib.hid hL
    have HX := Lib.hid hX
    clear hL hX
    have hP9 := hO.pick [0] (by decide)
    refine Own.wpList_append_full_nil rfl (.tmp 129) (.tmp 133) 87 rfl 21 i9 (vI 0) 1 4 Tryd.underlying87 hi9 z1 z2 z3 hP9 rfl rfl rfl (by decide) (by first | decide | omega | (unfold maxLen; omega)) (by first | decide | omega | (unfold maxLen; omega)) ?_
    intro nd3 nc4 u5 hQ
    clear hP9
    have hN : Own w0 u5 [row (nd3) 21 (full i32Z [vI ((i : Int) + 1)] nc4), row (B1) 21 #[vI ((i : Int) + 1)], row (ub) 5 (itR U n)] Y9 := hQ.back HL.out HX.out [1] (by decide) (by decide)
    clear hQ HL HX hO
    have hO := hN
    clear hN
    obtain ⟨c9_1_0, lt9_1, y9_1, -⟩ := hO.k1 1 rfl
    have HO := Lib.hid hO
    clear hO
    go_wp2_with (first | (with_reducible refine Own.stay (fn := Tryd.f6) ?_) | (at_builtin; refine Own.appStop ?_) | fail)
    try with_reducible refine Own.Stay.mk ?_
    have hO := HO.out
    clear HO c9_1_0 lt9_1 y9_1
    have hN : Own w0 u5 [row (ub) 5 (itR U n), row (nd3) 21 (full i32Z (iL (outs D hst (i + 1))) nc4)] Y9 := (hO.sub [2, 0] (by decide)).conv (by
     rw [outs_yes HOU.out, iL_append, HR.out]
     rfl)
    rw [← HY.out] at hN
    have hM := hN.bring HT.out
    have hM2 : Own w0 u5 ([row (ub) 5 (itR U n)] ++ ([row (nd3) 21 (full i32Z (iL (outs D hst (i + 1))) nc4)] ++ Li)) X := hM.conv rfl
    have hL1 : LsP (.slice (some ⟨nd3, 0, none⟩) 1 (1 + nc4)) [row (nd3) 21 (full i32Z (iL (outs D hst (i + 1))) nc4)] (outs D hst (i + 1)) := Or.inr ⟨nd3, nc4, 1, by rw [outs_yes HOU.out, List.length_append, HR.out]; rfl, by omega, rfl, rfl⟩
    have hS2 := HS.out
    rw [← (ins_yes HOU.out : ins D hst (i + 1) = _)] at hS2
    go_roundg gq
    case measure => omega
    case rel => exact ⟨i + 1, _, _, by omega, by first | rfl | simp, hL1, hS2, hM2⟩
   ·skip
    have hN : Own w0 wr [row (ub) 5 (itR U n), row (b) 21 (full i32Z (iL (outs D hst i)) c)] Y9 := hO.conv rfl
    clear hO
    have hO := hN
    clear hN
    have hrl : (iL (outs D hst i)).length = r * 1 := by rw [iL_length, hr, Nat.mul_one]
    have hr9 : r ≤ 4096 := by rw [hr]; exact Nat.le_trans outs_len (by omega)
    have hr8 : (r : Int) ≤ 4096 := by omega
    have HR := Lib.hid hr
    clear hr
    obtain ⟨ix9, hix9, hax9, hjx9⟩ := hO.ix
    have ix9_0 : ix9 ub = 0 := hjx9 0 _ _ rfl
    have ix9_1 : ix9 b = 1 := hjx9 1 _ _ rfl
    clear hjx9
    have c9_0_i : wr.cell? ⟨ub, i, none⟩ = some (.int .u8 (U i : Int)) := hO.cell 0 rfl (i) ((itR_get hlt))
    have lt9_0 : ub < wr.heap.size := hO.lt 0 rfl
    have y9_0 : ∀ o, wr.frozen? ⟨ub, o, none⟩ = false := hO.free 0 rfl
    have HO := Lib.hid hO
    clear hO
    go_wp2_with (first | (with_reducible refine Own.stay (fn := Tryd.f6) ?_) | (at_builtin; refine Own.appStop ?_) | fail)
    try with_reducible refine Own.Stay.mk ?_
    have hO := HO.out
    clear HO hix9 hax9 ix9_0 ix9_1 ix9 c9_0_i lt9_0 y9_0
    generalize hW : World.alloc _ _ = W7
    have hN : Own w0 W7 [row (wr.heap.size) 21 #[vI ((i : Int) + 1)], row (ub) 5 (itR U n), row (b) 21 (full i32Z (iL (outs D hst i)) c)] Y9 := by
     rw [← hW]
     exact (hO).alloc' _ (wr.heap.size) (by simp)
    clear hW hO
    generalize wr.heap.size = B6 at hN ⊢
    have hO := hN
    clear hN
    refine Own.AppStop.mk ?_
    obtain ⟨i9, hi9, z1, z2, z3⟩ := info_parts infoI32
    have hL := hO.apart
    have hX := hO.apartX
    have HL := Lib.hid hL
    have HX := Lib.hid hX
    clear hL hX
    have hP9 := hO.pick [2, 0] (by decide)
    refine Own.wpList_append_full rfl (.tmp 129) (.tmp 133) 87 rfl 21 i9 (vI 0) 1 4 Tryd.underlying87 hi9 z1 z2 z3 rfl (by decide) hP9 rfl rfl (by first | rfl | assumption | (simp; done) | (simp; omega)) (by first | rfl | assumption | omega) rfl (oneAll rfl) (by first | decide | omega | (unfold maxLen; omega)) (by first | decide | omega | (unfold maxLen; omega)) ?_
    intro nd8 nc9 u10 hQ
    clear hP9
    have hN : Own w0 u10 [row (nd8) 21 (full i32Z ((iL (outs D hst i)) ++ [vI ((i : Int) + 1)]) nc9), row (B6) 21 #[vI ((i : Int) + 1)], row (ub) 5 (itR U n)] Y9 := hQ.back HL.out HX.out [1] (by decide) (by decide)
    clear hQ HL HX hO
    have hO := hN
    clear hN
    obtain ⟨c9_1_0, lt9_1, y9_1, -⟩ := hO.k1 1 rfl
    have HO := Lib.hid hO
    clear hO
    go_wp2_with (first | (with_reducible refine Own.stay (fn := Tryd.f6) ?_) | (at_builtin; refine Own.appStop ?_) | fail)
    try with_reducible refine Own.Stay.mk ?_
    have hO := HO.out
    clear HO c9_1_0 lt9_1 y9_1
    have hN : Own w0 u10 [row (ub) 5 (itR U n), row (nd8) 21 (full i32Z (iL (outs D hst (i + 1))) nc9)] Y9 := (hO.sub [2, 0] (by decide)).conv (by
     rw [outs_yes HOU.out, iL_append]
     rfl)
    rw [← HY.out] at hN
    have hM := hN.bring HT.out
    have hM2 : Own w0 u10 ([row (ub) 5 (itR U n)] ++ ([row (nd8) 21 (full i32Z (iL (outs D hst (i + 1))) nc9)] ++ Li)) X := hM.conv rfl
    have hL1 : LsP (.slice (some ⟨nd8, 0, none⟩) (r + 1) ((r + 1) + nc9)) [row (nd8) 21 (full i32Z (iL (outs D hst (i + 1))) nc9)] (outs D hst (i + 1)) := Or.inr ⟨nd8, nc9, (r + 1), by rw [outs_yes HOU.out, List.length_append, ← HR.out]; rfl, by omega, rfl, rfl⟩
    have hS2 := HS.out
    rw [← (ins_yes HOU.out : ins D hst (i + 1) = _)] at hS2
    go_roundg gq
    case measure => omega
    case rel => exact ⟨i + 1, _, _, by omega, by first | rfl | simp, hL1, hS2, hM2⟩
  have HK1 := Lib.hid hk
  clear hk
  by_cases hk : U i % 4 = 2
  ·skip
   have hhs : hst = true ∨ hst = false := by cases hst <;> simp
   obtain hhs | hhs := hhs
   ·skip
    obtain rfl : hst = true := hhs
    have hrm : (U i : Int).tmod 4 = 2 := by have h9 : (U i : Int).tmod 4 = ((U i % 4 : Nat) : Int) := rfl; rw [h9]; omega
    have hou : outB true (D.kd i) = true := by rw [HDk.out]; show outB true (U i % 4) = _; rw [hk]; rfl
    have HOU := Lib.hid hou
    clear hou
    have HK := Lib.hid hk
    clear hk
    have hOp : Own w0 wr (([row (ub) 5 (itR U n)] ++ Lo) ++ Li) X := hO.conv (by rw [List.append_assoc])
    have HT := Lib.hid hOp.tail
    replace hO := hOp.aside
    clear hOp
    generalize hY : FR Li X = Y9 at hO
    have HY := Lib.hid hY
    clear hY
    have HS := Lib.hid hi
    clear hi
    obtain ⟨hnil, rfl, rfl⟩ | ⟨b, c, r, hr, hr0, rfl, rfl⟩ := ho
    ·skip
     have hN : Own w0 wr [row (ub) 5 (itR U n)] Y9 := hO.conv rfl
     clear hO
     have hO := hN
     clear hN
     have HR := Lib.hid hnil
     clear hnil
     obtain ⟨ix9, hix9, hax9, hjx9⟩ := hO.ix
     have ix9_0 : ix9 ub = 0 := hjx9 0 _ _ rfl
     clear hjx9
     have c9_0_i : wr.cell? ⟨ub, i, none⟩ = some (.int .u8 (U i : Int)) := hO.cell 0 rfl (i) ((itR_get hlt))
     have lt9_0 : ub < wr.heap.size := hO.lt 0 rfl
     have y9_0 : ∀ o, wr.frozen? ⟨ub, o, none⟩ = false := hO.free 0 rfl
     have HO := Lib.hid hO
     clear hO
     go_wp2_with (first | (with_reducible refine Own.stay (fn := Tryd.f6) ?_) | (at_builtin; refine Own.appStop ?_) | fail)
     try with_reducible refine Own.Stay.mk ?_
     have hO := HO.out
     clear HO hix9 hax9 ix9_0 ix9 c9_0_i lt9_0 y9_0
     generalize hW : World.alloc _ _ = W12
     have hN : Own w0 W12 [row (wr.heap.size) 21 #[vI ((i : Int) + 1)], row (ub) 5 (itR U n)] Y9 := by
      rw [← hW]
      exact (hO).alloc' _ (wr.heap.size) (by simp)
     clear hW hO
     generalize wr.heap.size = B11 at hN ⊢
     have hO := hN
     clear hN
     refine Own.AppStop.mk ?_
     obtain ⟨i9, hi9, z1, z2, z3⟩ := info_parts infoI32
     have hL := hO.apart
     have hX := hO.apartX
     have HL := Lib.hid hL
     have HX := Lib.hid hX
     clear hL hX
     have hP9 := hO.pick [0] (by decide)
     refine Own.wpList_append_full_nil rfl (.tmp 129) (.tmp 133) 87 rfl 21 i9 (vI 0) 1 4 Tryd.underlying87 hi9 z1 z2 z3 hP9 rfl rfl rfl (by decide) (by first | decide | omega | (unfold maxLen; omega)) (by first | decide | omega | (unfold maxLen; omega)) ?_
     intro nd13 nc14 u15 hQ
     clear hP9
     have hN : Own w0 u15 [row (nd13) 21 (full i32Z [vI ((i : Int) + 1)] nc14), row (B11) 21 #[vI ((i : Int) + 1)], row (ub) 5 (itR U n)] Y9 := hQ.back HL.out HX.out [1] (by decide) (by decide)
     clear hQ HL HX hO
     have hO := hN
     clear hN
     obtain ⟨c9_1_0, lt9_1, y9_1, -⟩ := hO.k1 1 rfl
     have HO := Lib.hid hO
     clear hO
     go_wp2_with (first | (with_reducible refine Own.stay (fn := Tryd.f6) ?_) | (at_builtin; refine Own.appStop ?_) | fail)
     try with_reducible refine Own.Stay.mk ?_
     have hO := HO.out
     clear HO c9_1_0 lt9_1 y9_1
     have hN : Own w0 u15 [row (ub) 5 (itR U n), row (nd13) 21 (full i32Z (iL (outs D true (i + 1))) nc14)] Y9 := (hO.sub [2, 0] (by decide)).conv (by
      rw [outs_yes HOU.out, iL_append, HR.out]
      rfl)
     rw [← HY.out] at hN
     have hM := hN.bring HT.out
     have hM2 : Own w0 u15 ([row (ub) 5 (itR U n)] ++ ([row (nd13) 21 (full i32Z (iL (outs D true (i + 1))) nc14)] ++ Li)) X := hM.conv rfl
     have hL1 : LsP (.slice (some ⟨nd13, 0, none⟩) 1 (1 + nc14)) [row (nd13) 21 (full i32Z (iL (outs D true (i + 1))) nc14)] (outs D true (i + 1)) := Or.inr ⟨nd13, nc14, 1, by rw [outs_yes HOU.out, List.length_append, HR.out]; rfl, by omega, rfl, rfl⟩
     have hS2 := HS.out
     rw [← (ins_yes HOU.out : ins D true (i + 1) = _)] at hS2
     go_roundg gq
     case measure => omega
     case rel => exact ⟨i + 1, _, _, by omega, by first | rfl | simp, hL1, hS2, hM2⟩
    ·skip
     have hN : Own w0 wr [row (ub) 5 (itR U n), row (b) 21 (full i32Z (iL (outs D true i)) c)] Y9 := hO.conv rfl
     clear hO
     have hO := hN
     clear hN
     have hrl : (iL (outs D true i)).length = r * 1 := by rw [iL_length, hr, Nat.mul_one]
     have hr9 : r ≤ 4096 := by rw [hr]; exact Nat.le_trans outs_len (by omega)
     have hr8 : (r : Int) ≤ 4096 := by omega
     have HR := Lib.hid hr
     clear hr
     obtain ⟨ix9, hix9, hax9, hjx9⟩ := hO.ix
     have ix9_0 : ix9 ub = 0 := hjx9 0 _ _ rfl
     have ix9_1 : ix9 b = 1 := hjx9 1 _ _ rfl
     clear hjx9
     have c9_0_i : wr.cell? ⟨ub, i, none⟩ = some (.int .u8 (U i : Int)) := hO.cell 0 rfl (i) ((itR_get hlt))
     have lt9_0 : ub < wr.heap.size := hO.lt 0 rfl
     have y9_0 : ∀ o, wr.frozen? ⟨ub, o, none⟩ = false := hO.free 0 rfl
     have HO := Lib.hid hO
     clear hO
     go_wp2_with (first | (with_reducible refine Own.stay (fn := Tryd.f6) ?_) | (at_builtin; refine Own.appStop ?_) | fail)
     try with_reducible refine Own.Stay.mk ?_
     have hO := HO.out
     clear HO hix9 hax9 ix9_0 ix9_1 ix9 c9_0_i lt9_0 y9_0
     generalize hW : World.alloc _ _ = W17
     have hN : Own w0 W17 [row (wr.heap.size) 21 #[vI ((i : Int) + 1)], row (ub) 5 (itR U n), row (b) 21 (full i32Z (iL (outs D true i)) c)] Y9 := by
      rw [← hW]
      exact (hO).alloc' _ (wr.heap.size) (by simp)
     clear hW hO
     generalize wr.heap.size = B16 at hN ⊢
     have hO := hN
     clear hN
     refine Own.AppStop.mk ?_
     obtain ⟨i9, hi9, z1, z2, z3⟩ := info_parts infoI32
     have hL := hO.apart
     have hX := hO.apartX
     have HL := Lib.hid hL
     have HX := Lib.hid hX
     clear hL hX
     have hP9 := hO.pick [2, 0] (by decide)
     refine Own.wpList_append_full rfl (.tmp 129) (.tmp 133) 87 rfl 21 i9 (vI 0) 1 4 Tryd.underlying87 hi9 z1 z2 z3 rfl (by decide) hP9 rfl rfl (by first | rfl | assumption | (simp; done) | (simp; omega)) (by first | rfl | assumption | omega) rfl (oneAll rfl) (by first | decide | omega | (unfold maxLen; omega)) (by first | decide | omega | (unfold maxLen; omega)) ?_
     intro nd18 nc19 u20 hQ
     clear hP9
     have hN : Own w0 u20 [row (nd18) 21 (full i32Z ((iL (outs D true i)) ++ [vI ((i : Int) + 1)]) nc19), row (B16) 21 #[vI ((i : Int) + 1)], row (ub) 5 (itR U n)] Y9 := hQ.back HL.out HX.out [1] (by decide) (by decide)
     clear hQ HL HX hO
     have hO := hN
     clear hN
     obtain ⟨c9_1_0, lt9_1, y9_1, -⟩ := hO.k1 1 rfl
     have HO := Lib.hid hO
     clear hO
     go_wp2_with (first | (with_reducible refine Own.stay (fn := Tryd.f6) ?_) | (at_builtin; refine Own.appStop ?_) | fail)
     try with_reducible refine Own.Stay.mk ?_
     have hO := HO.out
     clear HO c9_1_0 lt9_1 y9_1
     have hN : Own w0 u20 [row (ub) 5 (itR U n), row (nd18) 21 (full i32Z (iL (outs D true (i + 1))) nc19)] Y9 := (hO.sub [2, 0] (by decide)).conv (by
      rw [outs_yes HOU.out, iL_append]
      rfl)
     rw [← HY.out] at hN
     have hM := hN.bring HT.out
     have hM2 : Own w0 u20 ([row (ub) 5 (itR U n)] ++ ([row (nd18) 21 (full i32Z (iL (outs D true (i + 1))) nc19)] ++ Li)) X := hM.conv rfl
     have hL1 : LsP (.slice (some ⟨nd18, 0, none⟩) (r + 1) ((r + 1) + nc19)) [row (nd18) 21 (full i32Z (iL (outs D true (i + 1))) nc19)] (outs D true (i + 1)) := Or.inr ⟨nd18, nc19, (r + 1), by rw [outs_yes HOU.out, List.length_append, ← HR.out]; rfl, by omega, rfl, rfl⟩
     have hS2 := HS.out
     rw [← (ins_yes HOU.out : ins D true (i + 1) = _)] at hS2
     go_roundg gq
     case measure => omega
     case rel => exact ⟨i + 1, _, _, by omega, by first | rfl | simp, hL1, hS2, hM2⟩
   ·skip
    obtain rfl : hst = false := hhs
    have hrm : (U i : Int).tmod 4 = 2 := by have h9 : (U i : Int).tmod 4 = ((U i % 4 : Nat) : Int) := rfl; rw [h9]; omega
    have hou : outB false (D.kd i) = false := by rw [HDk.out]; show outB false (U i % 4) = _; rw [hk]; rfl
    have HOU := Lib.hid hou
    clear hou
    have HK := Lib.hid hk
    clear hk
    have hOp : Own w0 wr (([row (ub) 5 (itR U n)] ++ Li) ++ Lo) X := hO.perm (by rw [List.append_assoc]; exact List.Perm.append_left _ List.perm_append_comm)
    have HT := Lib.hid hOp.tail
    replace hO := hOp.aside
    clear hOp
    generalize hY : FR Lo X = Y9 at hO
    have HY := Lib.hid hY
    clear hY
    have HS := Lib.hid ho
    clear ho
    obtain ⟨hnil, rfl, rfl⟩ | ⟨b, c, r, hr, hr0, rfl, rfl⟩ := hi
    ·skip
     have hN : Own w0 wr [row (ub) 5 (itR U n)] Y9 := hO.conv rfl
     clear hO
     have hO := hN
     clear hN
     have HR := Lib.hid hnil
     clear hnil
     obtain ⟨ix9, hix9, hax9, hjx9⟩ := hO.ix
     have ix9_0 : ix9 ub = 0 := hjx9 0 _ _ rfl
     clear hjx9
     have c9_0_i : wr.cell? ⟨ub, i, none⟩ = some (.int .u8 (U i : Int)) := hO.cell 0 rfl (i) ((itR_get hlt))
     have lt9_0 : ub < wr.heap.size := hO.lt 0 rfl
     have y9_0 : ∀ o, wr.frozen? ⟨ub, o, none⟩ = false := hO.free 0 rfl
     have HO := Lib.hid hO
     clear hO
     go_wp2_with (first | (with_reducible refine Own.stay (fn := Tryd.f6) ?_) | (at_builtin; refine Own.appStop ?_) | fail)
     try with_reducible refine Own.Stay.mk ?_
     have hO := HO.out
     clear HO hix9 hax9 ix9_0 ix9 c9_0_i lt9_0 y9_0
     generalize hW : World.alloc _ _ = W22
     have hN : Own w0 W22 [row (wr.heap.size) 21 #[vI ((i : Int) + 1)], row (ub) 5 (itR U n)] Y9 := by
      rw [← hW]
      exact (hO).alloc' _ (wr.heap.size) (by simp)
     clear hW hO
     generalize wr.heap.size = B21 at hN ⊢
     have hO := hN
     clear hN
     refine Own.AppStop.mk ?_
     obtain ⟨i9, hi9, z1, z2, z3⟩ := info_parts infoI32
     have hL := hO.apart
     have hX := hO.apartX
     have HL := Lib.hid hL
     have HX := Lib.hid hX
     clear hL hX
     have hP9 := hO.pick [0] (by decide)
     refine Own.wpList_append_full_nil rfl (.tmp 135) (.tmp 139) 87 rfl 21 i9 (vI 0) 1 4 Tryd.underlying87 hi9 z1 z2 z3 hP9 rfl rfl rfl (by decide) (by first | decide | omega | (unfold maxLen; omega)) (by first | decide | omega | (unfold maxLen; omega)) ?_
     intro nd23 nc24 u25 hQ
     clear hP9
     have hN : Own w0 u25 [row (nd23) 21 (full i32Z [vI ((i : Int) + 1)] nc24), row (B21) 21 #[vI ((i : Int) + 1)], row (ub) 5 (itR U n)] Y9 := hQ.back HL.out HX.out [1] (by decide) (by decide)
     clear hQ HL HX hO
     have hO := hN
     clear hN
     obtain ⟨c9_1_0, lt9_1, y9_1, -⟩ := hO.k1 1 rfl
     have HO := Lib.hid hO
     clear hO
     go_wp2_with (first | (with_reducible refine Own.stay (fn := Tryd.f6) ?_) | (at_builtin; refine Own.appStop ?_) | fail)
     try with_reducible refine Own.Stay.mk ?_
     have hO := HO.out
     clear HO c9_1_0 lt9_1 y9_1
     have hN : Own w0 u25 [row (ub) 5 (itR U n), row (nd23) 21 (full i32Z (iL (ins D false (i + 1))) nc24)] Y9 := (hO.sub [2, 0] (by decide)).conv (by
      rw [ins_no HOU.out, iL_append, HR.out]
      rfl)
     rw [← HY.out] at hN
     have hM := hN.bring HT.out
     have hM2 : Own w0 u25 ([row (ub) 5 (itR U n)] ++ (Lo ++ [row (nd23) 21 (full i32Z (iL (ins D false (i + 1))) nc24)])) X := hM.perm (by rw [show ∀ a b : Rw, [a, b] = [a] ++ [b] from fun _ _ => rfl, List.append_assoc]; exact List.Perm.append_left _ List.perm_append_comm)
     have hL1 : LsP (.slice (some ⟨nd23, 0, none⟩) 1 (1 + nc24)) [row (nd23) 21 (full i32Z (iL (ins D false (i + 1))) nc24)] (ins D false (i + 1)) := Or.inr ⟨nd23, nc24, 1, by rw [ins_no HOU.out, List.length_append, HR.out]; rfl, by omega, rfl, rfl⟩
     have hS2 := HS.out
     rw [← (outs_no HOU.out : outs D false (i + 1) = _)] at hS2
     go_roundg gq
     case measure => omega
     case rel => exact ⟨i + 1, _, _, by omega, by first | rfl | simp, hS2, hL1, hM2⟩
    ·skip
     have hN : Own w0 wr [row (ub) 5 (itR U n), row (b) 21 (full i32Z (iL (ins D false i)) c)] Y9 := hO.conv rfl
     clear hO
     have hO := hN
     clear hN
     have hrl : (iL (ins D false i)).length = r * 1 := by rw [iL_length, hr, Nat.mul_one]
     have hr9 : r ≤ 4096 := by rw [hr]; exact Nat.le_trans ins_len (by omega)
     have hr8 : (r : Int) ≤ 4096 := by omega
     have HR := Lib.hid hr
     clear hr
     obtain ⟨ix9, hix9, hax9, hjx9⟩ := hO.ix
     have ix9_0 : ix9 ub = 0 := hjx9 0 _ _ rfl
     have ix9_1 : ix9 b = 1 := hjx9 1 _ _ rfl
     clear hjx9
     have c9_0_i : wr.cell? ⟨ub, i, none⟩ = some (.int .u8 (U i : Int)) := hO.cell 0 rfl (i) ((itR_get hlt))
     have lt9_0 : ub < wr.heap.size := hO.lt 0 rfl
     have y9_0 : ∀ o, wr.frozen? ⟨ub, o, none⟩ = false := hO.free 0 rfl
     have HO := Lib.hid hO
     clear hO
     go_wp2_with (first | (with_reducible refine Own.stay (fn := Tryd.f6) ?_) | (at_builtin; refine Own.appStop ?_) | fail)
     try with_reducible refine Own.Stay.mk ?_
     have hO := HO.out
     clear HO hix9 hax9 ix9_0 ix9_1 ix9 c9_0_i lt9_0 y9_0
     generalize hW : World.alloc _ _ = W27
     have hN : Own w0 W27 [row (wr.heap.size) 21 #[vI ((i : Int) + 1)], row (ub) 5 (itR U n), row (b) 21 (full i32Z (iL (ins D false i)) c)] Y9 := by
      rw [← hW]
      exact (hO).alloc' _ (wr.heap.size) (by simp)
     clear hW hO
     generalize wr.heap.size = B26 at hN ⊢
     have hO := hN
     clear hN
     refine Own.AppStop.mk ?_
     obtain ⟨i9, hi9, z1, z2, z3⟩ := info_parts infoI32
     have hL := hO.apart
     have hX := hO.apartX
     have HL := Lib.hid hL
     have HX := Lib.hid hX
     clear hL hX
     have hP9 := hO.pick [2, 0] (by decide)
     refine Own.wpList_append_full rfl (.tmp 135) (.tmp 139) 87 rfl 21 i9 (vI 0) 1 4 Tryd.underlying87 hi9 z1 z2 z3 rfl (by decide) hP9 rfl rfl (by first | rfl | assumption | (simp; done) | (simp; omega)) (by first | rfl | assumption | omega) rfl (oneAll rfl) (by first | decide | omega | (unfold maxLen; omega)) (by first | decide | omega | (unfold maxLen; omega)) ?_
     intro nd28 nc29 u30 hQ
     clear hP9
     have hN : Own w0 u30 [row (nd28) 21 (full i32Z ((iL (ins D false i)) ++ [vI ((i : Int) + 1)]) nc29), row (B26) 21 #[vI ((i : Int) + 1)], row (ub) 5 (itR U n)] Y9 := hQ.back HL.out HX.out [1] (by decide) (by decide)
     clear hQ HL HX hO
     have hO := hN
     clear hN
     obtain ⟨c9_1_0, lt9_1, y9_1, -⟩ := hO.k1 1 rfl
     have HO := Lib.hid hO
     clear hO
     go_wp2_with (first | (with_reducible refine Own.stay (fn := Tryd.f6) ?_) | (at_builtin; refine Own.appStop ?_) | fail)
     try with_reducible refine Own.Stay.mk ?_
     have hO := HO.out
     clear HO c9_1_0 lt9_1 y9_1
     have hN : Own w0 u30 [row (ub) 5 (itR U n), row (nd28) 21 (full i32Z (iL (ins D false (i + 1))) nc29)] Y9 := (hO.sub [2, 0] (by decide)).conv (by
      rw [ins_no HOU.out, iL_append]
      rfl)
     rw [← HY.out] at hN
     have hM := hN.bring HT.out
     have hM2 : Own w0 u30 ([row (ub) 5 (itR U n)] ++ (Lo ++ [row (nd28) 21 (full i32Z (iL (ins D false (i + 1))) nc29)])) X := hM.perm (by rw [show ∀ a b : Rw, [a, b] = [a] ++ [b] from fun _ _ => rfl, List.append_assoc]; exact List.Perm.append_left _ List.perm_append_comm)
     have hL1 : LsP (.slice (some ⟨nd28, 0, none⟩) (r + 1) ((r + 1) + nc29)) [row (nd28) 21 (full i32Z (iL (ins D false (i + 1))) nc29)] (ins D false (i + 1)) := Or.inr ⟨nd28, nc29, (r + 1), by rw [ins_no HOU.out, List.length_append, ← HR.out]; rfl, by omega, rfl, rfl⟩
     have hS2 := HS.out
     rw [← (outs_no HOU.out : outs D false (i + 1) = _)] at hS2
     go_roundg gq
     case measure => omega
     case rel => exact ⟨i + 1, _, _, by omega, by first | rfl | simp, hS2, hL1, hM2⟩
  ·skip
   have hk1 := HK1.out
   have hrm1 : ¬ (U i : Int).tmod 4 = 1 := by have h9 : (U i : Int).tmod 4 = ((U i % 4 : Nat) : Int) := rfl; rw [h9]; omega
   clear hk1
   have hrm2 : ¬ (U i : Int).tmod 4 = 2 := by have h9 : (U i : Int).tmod 4 = ((U i % 4 : Nat) : Int) := rfl; rw [h9]; omega
   have hou : outB hst (D.kd i) = false := by rw [HDk.out]; show outB hst (U i % 4) = _; simp [outB, hk, HK1.out]
   have HOU := Lib.hid hou
   clear hou
   have HK := Lib.hid hk
   clear hk
   have hOp : Own w0 wr (([row (ub) 5 (itR U n)] ++ Li) ++ Lo) X := hO.perm (by rw [List.append_assoc]; exact List.Perm.append_left _ List.perm_append_comm)
   have HT := Lib.hid hOp.tail
   replace hO := hOp.aside
   clear hOp
   generalize hY : FR Lo X = Y9 at hO
   have HY := Lib.hid hY
   clear hY
   have HS := Lib.hid ho
   clear ho
   obtain ⟨hnil, rfl, rfl⟩ | ⟨b, c, r, hr, hr0, rfl, rfl⟩ := hi
   ·skip
    have hN : Own w0 wr [row (ub) 5 (itR U n)] Y9 := hO.conv rfl
    clear hO
    have hO := hN
    clear hN
    have HR := Lib.hid hnil
    clear hnil
    obtain ⟨ix9, hix9, hax9, hjx9⟩ := hO.ix
    have ix9_0 : ix9 ub = 0 := hjx9 0 _ _ rfl
    clear hjx9
    have c9_0_i : wr.cell? ⟨ub, i, none⟩ = some (.int .u8 (U i : Int)) := hO.cell 0 rfl (i) ((itR_get hlt))
    have lt9_0 : ub < wr.heap.size := hO.lt 0 rfl
    have y9_0 : ∀ o, wr.frozen? ⟨ub, o, none⟩ = false := hO.free 0 rfl
    have HO := Lib.hid hO
    clear hO
    go_wp2_with (first | (with_reducible refine Own.stay (fn := Tryd.f6) ?_) | (at_builtin; refine Own.appStop ?_) | fail)
    try with_reducible refine Own.Stay.mk ?_
    have hO := HO.out
    clear HO hix9 hax9 ix9_0 ix9 c9_0_i lt9_0 y9_0
    generalize hW : World.alloc _ _ = W32
    have hN : Own w0 W32 [row (wr.heap.size) 21 #[vI ((i : Int) + 1)], row (ub) 5 (itR U n)] Y9 := by
     rw [← hW]
     exact (hO).alloc' _ (wr.heap.size) (by simp)
    clear hW hO
    generalize wr.heap.size = B31 at hN ⊢
    have hO := hN
    clear hN
    refine Own.AppStop.mk ?_
    obtain ⟨i9, hi9, z1, z2, z3⟩ := info_parts infoI32
    have hL := hO.apart
    have hX := hO.apartX
    have HL := Lib.hid hL
    have HX := Lib.hid hX
    clear hL hX
    have hP9 := hO.pick [0] (by decide)
    refine Own.wpList_append_full_nil rfl (.tmp 135) (.tmp 139) 87 rfl 21 i9 (vI 0) 1 4 Tryd.underlying87 hi9 z1 z2 z3 hP9 rfl rfl rfl (by decide) (by first | decide | omega | (unfold maxLen; omega)) (by first | decide | omega | (unfold maxLen; omega)) ?_
    intro nd33 nc34 u35 hQ
    clear hP9
    have hN : Own w0 u35 [row (nd33) 21 (full i32Z [vI ((i : Int) + 1)] nc34), row (B31) 21 #[vI ((i : Int) + 1)], row (ub) 5 (itR U n)] Y9 := hQ.back HL.out HX.out [1] (by decide) (by decide)
    clear hQ HL HX hO
    have hO := hN
    clear hN
    obtain ⟨c9_1_0, lt9_1, y9_1, -⟩ := hO.k1 1 rfl
    have HO := Lib.hid hO
    clear hO
    go_wp2_with (first | (with_reducible refine Own.stay (fn := Tryd.f6) ?_) | (at_builtin; refine Own.appStop ?_) | fail)
    try with_reducible refine Own.Stay.mk ?_
    have hO := HO.out
    clear HO c9_1_0 lt9_1 y9_1
    have hN : Own w0 u35 [row (ub) 5 (itR U n), row (nd33) 21 (full i32Z (iL (ins D hst (i + 1))) nc34)] Y9 := (hO.sub [2, 0] (by decide)).conv (by
     rw [ins_no HOU.out, iL_append, HR.out]
     rfl)
    rw [← HY.out] at hN
    have hM := hN.bring HT.out
    have hM2 : Own w0 u35 ([row (ub) 5 (itR U n)] ++ (Lo ++ [row (nd33) 21 (full i32Z (iL (ins D hst (i + 1))) nc34)])) X := hM.perm (by rw [show ∀ a b : Rw, [a, b] = [a] ++ [b] from fun _ _ => rfl, List.append_assoc]; exact List.Perm.append_left _ List.perm_append_comm)
    have hL1 : LsP (.slice (some ⟨nd33, 0, none⟩) 1 (1 + nc34)) [row (nd33) 21 (full i32Z (iL (ins D hst (i + 1))) nc34)] (ins D hst (i + 1)) := Or.inr ⟨nd33, nc34, 1, by rw [ins_no HOU.out, List.length_append, HR.out]; rfl, by omega, rfl, rfl⟩
    have hS2 := HS.out
    rw [← (outs_no HOU.out : outs D hst (i + 1) = _)] at hS2
    go_roundg gq
    case measure => omega
    case rel => exact ⟨i + 1, _, _, by omega, by first | rfl | simp, hS2, hL1, hM2⟩
   ·skip
    have hN : Own w0 wr [row (ub) 5 (itR U n), row (b) 21 (full i32Z (iL (ins D hst i)) c)] Y9 := hO.conv rfl
    clear hO
    have hO := hN
    clear hN
    have hrl : (iL (ins D hst i)).length = r * 1 := by rw [iL_length, hr, Nat.mul_one]
    have hr9 : r ≤ 4096 := by rw [hr]; exact Nat.le_trans ins_len (by omega)
    have hr8 : (r : Int) ≤ 4096 := by omega
    have HR := Lib.hid hr
    clear hr
    obtain ⟨ix9, hix9, hax9, hjx9⟩ := hO.ix
    have ix9_0 : ix9 ub = 0 := hjx9 0 _ _ rfl
    have ix9_1 : ix9 b = 1 := hjx9 1 _ _ rfl
    clear hjx9
    have c9_0_i : wr.cell? ⟨ub, i, none⟩ = some (.int .u8 (U i : Int)) := hO.cell 0 rfl (i) ((itR_get hlt))
    have lt9_0 : ub < wr.heap.size := hO.lt 0 rfl
    have y9_0 : ∀ o, wr.frozen? ⟨ub, o, none⟩ = false := hO.free 0 rfl
    have HO := Lib.hid hO
    clear hO
    go_wp2_with (first | (with_reducible refine Own.stay (fn := Tryd.f6) ?_) | (at_builtin; refine Own.appStop ?_) | fail)
    try with_reducible refine Own.Stay.mk ?_
    have hO := HO.out
    clear HO hix9 hax9 ix9_0 ix9_1 ix9 c9_0_i lt9_0 y9_0
    generalize hW : World.alloc _ _ = W37
    have hN : Own w0 W37 [row (wr.heap.size) 21 #[vI ((i : Int) + 1)], row (ub) 5 (itR U n), row (b) 21 (full i32Z (iL (ins D hst i)) c)] Y9 := by
     rw [← hW]
     exact (hO).alloc' _ (wr.heap.size) (by simp)
    clear hW hO
    generalize wr.heap.size = B36 at hN ⊢
    have hO := hN
    clear hN
    refine Own.AppStop.mk ?_
    obtain ⟨i9, hi9, z1, z2, z3⟩ := info_parts infoI32
    have hL := hO.apart
    have hX := hO.apartX
    have HL := Lib.hid hL
    have HX := Lib.hid hX
    clear hL hX
    have hP9 := hO.pick [2, 0] (by decide)
    refine Own.wpList_append_full rfl (.tmp 135) (.tmp 139) 87 rfl 21 i9 (vI 0) 1 4 Tryd.underlying87 hi9 z1 z2 z3 rfl (by decide) hP9 rfl rfl (by first | rfl | assumption | (simp; done) | (simp; omega)) (by first | rfl | assumption | omega) rfl (oneAll rfl) (by first | decide | omega | (unfold maxLen; omega)) (by first | decide | omega | (unfold maxLen; omega)) ?_
    intro nd38 nc39 u40 hQ
    clear hP9
    have hN : Own w0 u40 [row (nd38) 21 (full i32Z ((iL (ins D hst i)) ++ [vI ((i : Int) + 1)]) nc39), row (B36) 21 #[vI ((i : Int) + 1)], row (ub) 5 (itR U n)] Y9 := hQ.back HL.out HX.out [1] (by decide) (by decide)
    clear hQ HL HX hO
    have hO := hN
    clear hN
    obtain ⟨c9_1_0, lt9_1, y9_1, -⟩ := hO.k1 1 rfl
    have HO := Lib.hid hO
    clear hO
    go_wp2_with (first | (with_reducible refine Own.stay (fn := Tryd.f6) ?_) | (at_builtin; refine Own.appStop ?_) | fail)
    try with_reducible refine Own.Stay.mk ?_
    have hO := HO.out
    clear HO c9_1_0 lt9_1 y9_1
    have hN : Own w0 u40 [row (ub) 5 (itR U n), row (nd38) 21 (full i32Z (iL (ins D hst (i + 1))) nc39)] Y9 := (hO.sub [2, 0] (by decide)).conv (by
     rw [ins_no HOU.out, iL_append]
     rfl)
    rw [← HY.out] at hN
    have hM := hN.bring HT.out
    have hM2 : Own w0 u40 ([row (ub) 5 (itR U n)] ++ (Lo ++ [row (nd38) 21 (full i32Z (iL (ins D hst (i + 1))) nc39)])) X := hM.perm (by rw [show ∀ a b : Rw, [a, b] = [a] ++ [b] from fun _ _ => rfl, List.append_assoc]; exact List.Perm.append_left _ List.perm_append_comm)
    have hL1 : LsP (.slice (some ⟨nd38, 0, none⟩) (r + 1) ((r + 1) + nc39)) [row (nd38) 21 (full i32Z (iL (ins D hst (i + 1))) nc39)] (ins D hst (i + 1)) := Or.inr ⟨nd38, nc39, (r + 1), by rw [ins_no HOU.out, List.length_append, ← HR.out]; rfl, by omega, rfl, rfl⟩
    have hS2 := HS.out
    rw [← (outs_no HOU.out : outs D hst (i + 1) = _)] at hS2
    go_roundg gq
    case measure => omega
    case rel => exact ⟨i + 1, _, _, by omega, by first | rfl | simp, hS2, hL1, hM2⟩
 obtain rfl : i = n := by omega
 have hlt9 : ¬ (i : Int) < (i : Int) := by omega
 have HOO := Lib.hid hO
 have hM := hO.aside
 have hM2 : Own w0 wr [row (ub) 5 (itR U i)] (FR (Lo ++ Li) X) := hM
 clear hO hM
 have hO := hM2
 clear hM2
 have HLs := Lib.hid (And.intro ho hi)
 skip
 go_wp2_with (first | (with_reducible refine Own.stay (fn := Tryd.f6) ?_) | (at_builtin; refine Own.appStop ?_) | fail)
 try with_reducible refine Own.Stay.mk ?_
 rw [HC9.out]
 exact HB.out u19 u20 Lo Li _ _ _ _ _ _ _ _ _ _ _ _ _ _ _ _ _ _ _ _ _ _ _ _ _ _ _ _ _ _ _ _ _ _ _ _ _ _ _ _ _ _ _ _ _ _ _ _ _ _ _ _ _ _ _ _ _ _ _ _ _ _ _ _ _ _ _ _ _ _ _ _ _ _ _ _ _ _ _ _ _ _ _ _ _ _ _ _ _ _ _ _ _ _ _ _ _ _ _ _ _ _ _ _ _ _ _ _ _ _ _ _ _ _ _ _ _ _ _ _ _ _ _ _ _ _ _ _ _ _ _ _ _ _ _ _ _ _ _ _ _ _ _ _ _ _ _ _ _ _ _ _ _ _ _ _ _ _ _ _ _ _ _ _ _ _ _ _ _ _ _ _ _ _ _ _ _ _ _ _ _ _ _ _ _ _ _ _ _ _ _ _ _ _ _ _ _ _ _ _ _ _ _ _ _ _ _ _ _ _ _ _ _ _ _ _ _ _ _ _ _ _ _ _ _ _ _ _ _ _ _ _ _ _ _ _ _ _ _ _ _ _ _ _ _ _ _ _ _ _ _ _ _ _ _ _ _ _ _ _ _ _ _ _ _ _ _ _ _ _ _ _ _ _ _ _ _ _ _ _ _ _ _ _ _ _ _ _ _ _ _ _ _ _ _ _ _ _ _ _ _ _ _ _ _ _ _ _ _ _ _ _ _ _ _ _ _ _ _ _ _ _ _ _ _ _ _ _ _ _ wr HLs.out.1 HLs.out.2 HOO.out
end Go.Proofs.YtikopplofkemlaaDoor.Use
