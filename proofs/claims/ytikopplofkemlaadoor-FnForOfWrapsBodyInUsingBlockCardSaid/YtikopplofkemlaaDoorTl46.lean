/- Several texts in one. No condition. -/
import Derived.Test.YtikopplofkemlaaDoorDsb
import Derived.Test.YtikopplofkemlaaDoorFop
namespace Go.Proofs.YtikopplofkemlaaDoor.Use
open Go.ChangeShapes Go.WideShapes Go.ChangeAt Go.RowKit Go.Sort Own
set_option linter.unusedVariables false
noncomputable def rT46b_l0E (m : Nat) (ad : Nat → Nat) (tb : Nat) (tc : Nat) (nl : Nat) (wc : Nat) (j : Nat) (b : Nat) : Nat → Rega.Atoms → Value
 | 0, α => .slice (some ⟨tb, 0, none⟩) (m + 1) (m + 1 + tc)
 | 1, α => .int .i64 (j : Int)
 | 2, α => .int .i64 (1 + (j : Int))
 | 3, α => .pointer (some ⟨tb, (1 + j) * 2, none⟩)
 | 4, α => .pointer (some ⟨tb, (1 + j) * 2 + 1, none⟩)
 | 5, α => .pointer (some ⟨tb, (1 + j) * 2 + 1, none⟩)
 | 6, α => vI (100 + (j : Int))
 | 7, α => .slice (some ⟨b, 0, none⟩) m wc
 | 8, α => .int .i64 (j : Int)
 | 9, α => .pointer (some ⟨b, j, none⟩)
 | 10, α => vI (100 + (j : Int))
 | 11, α => bF
 | _, _ => undef
noncomputable def rT46b_l0Anc : Nat → List Nat
 | 2 => [1]
 | 3 => [0, 1, 2]
 | 4 => [0, 1, 2, 3]
 | 5 => [0, 1, 2, 3, 4]
 | 6 => [0, 1, 2, 3, 4, 5]
 | 9 => [7, 8]
 | 10 => [7, 8, 9]
 | 11 => [0, 1, 2, 3, 4, 5, 6, 7, 8, 9, 10]
 | _ => []
noncomputable def rT46b_l0Trn : Nat → List Nat
 | _ => []
noncomputable def rT46b_l0Cnt : List (Nat × Nat) := []
noncomputable def rT46b_l0R (m : Nat) (ad : Nat → Nat) (tb : Nat) (tc : Nat) (nl : Nat) (wc : Nat) (j : Nat) (b : Nat) (L9 : Nat → Bool) (α : Rega.Atoms) (ix9 : Nat) : Rw := if ix9 = 999 then row (tb) 61 (full stmZ (stL (dtL (adS nl ad) (lcS 5 lcB)) (List.range (m + 1))) tc) else (0, .map #[] 0)
theorem rT46b_l0_he (m : Nat) (ad : Nat → Nat) (tb : Nat) (tc : Nat) (nl : Nat) (wc : Nat) (j : Nat) (b : Nat) : ∀ kk α α', (∀ j, (j % 1000 = kk ∨ j % 1000 ∈ rT46b_l0Anc kk) → α j = α' j) → rT46b_l0E m ad tb tc nl wc j b kk α = rT46b_l0E m ad tb tc nl wc j b kk α' := by
 intro kk α α' h
 match kk with
 | 0 => rfl
 | 1 => rfl
 | 2 => rfl
 | 3 => rfl
 | 4 => rfl
 | 5 => rfl
 | 6 => rfl
 | 7 => rfl
 | 8 => rfl
 | 9 => rfl
 | 10 => rfl
 | 11 => rfl
 | n + 12 => rfl
theorem rT46b_l0_st (m : Nat) (ad : Nat → Nat) (tb : Nat) (tc : Nat) (nl : Nat) (wc : Nat) (j : Nat) (b : Nat) : Stable rT46b_l0Cnt 1 rT46b_l0Anc rT46b_l0Trn (rT46b_l0R m ad tb tc nl wc j b) := by
 intro k9 L9 α α' ix9 hk hcl hα hact ht
 have hp := act_places hact
 replace hp : ix9 ∈ [999] := hp
 simp only [List.mem_cons, List.not_mem_nil, or_false] at hp
 subst hp
 rfl

set_option maxRecDepth 100000 in
set_option maxHeartbeats 4000000 in
theorem tl46b (m : Nat) (ad : Nat → Nat) (tb tc nl : Nat) (so : Option Addr) (wc : Nat) (A0 A1 A2 A3 A4 A5 A6 A7 A8 A9 AA AB AC AD AE AF AG AH AI AJ AK AL AM AN AO AP AQ AR AS AT AU AV AW AX AY AZ B0 B2 B3 B4 B5 B6 B7 B8 B9 BA BB BC BD BE BF BG BH BI BJ BK BL BM BN BO BP BQ BR BS BT BU BV BW BX BY BZ C0 C1 C2 C3 C4 C5 C6 C7 C8 C9 CA CB CC CD CE CF CG CH CI CJ CK CL CM CN CO CP CQ CR CS CT CU CV CW CX CY CZ E0 E1 E2 E3 E4 E5 E6 E7 E8 E9 EA EB EC ED EE EF EG EH EI EJ EK EL EM EN EO EP EQ ER ES ET EU EV EW EX EY EZ F0 F1 F2 F3 F4 F5 F6 F7 F8 F9 FA FB FC FD FE FF FG FH FI FJ FK FL FM FN FO FP FQ FR FS FT FU FV FW FX FY FZ G0 G1 G2 G3 G4 G5 G6 G7 G8 G9 GA GB GC GD GE GF GG GH GI GJ GK GL GM GN GO GP GQ GR GS GT GU GV GW GX GY GZ I0 I1 I2 I3 I4 I5 I6 I7 I8 I9 IA IB IC ID IE IF IG IH II IJ IK IL IM IN IO IP IQ IR IS IT IU IV IW IX IY IZ J0 J1 J2 J3 J4 J5 J6 J7 J8 J9 JA JB JC JD JE JF JG JH JI JJ JK JL JM JN JO JP JQ JR JS JT JU JV JW JX JY JZ M0 M1 M2 M3 M4 M5 M6 M7 M8 M9 MA MB MC MD ME MF MG MH MI MJ MK ML MM MN MO MP MQ MR MS MT MU MV MW MX MY MZ N0 N1 N2 N3 N4 N5 N6 N7 N8 N9 NA NB NC ND NE NF NG NH NI NJ NK NL NM NN NO NP NQ NR NS NT NU NV NW NX NY NZ O0 O1 O2 : Value) (w0 w : World) (X : Nat → Obj → Prop) (Post : Ending → World → Prop) (hP : ∀ w3, Own w0 w3 [] X → Post (.returned (.bool true)) w3) (hO : Own w0 w [row (tb) 61 (full stmZ (stL (dtL (adS nl ad) (lcS 5 lcB)) (List.range (m + 1))) tc)] X) (hm : m ≤ 4096) (hso : 0 < m → ∃ b : Nat, so = some ⟨b, 0, none⟩ ∧ X b (.cells (full i32Z (tab wF m) 0) 21 (0, 0))) (hloc : ∀ i : Nat, i < m → X (ad i) (.cells #[vN, .int .u8 0, bF, bF] 57 (0, 0))) :
  Code.wp Tryd.prog rest46b (bodyPost Tryd.prog Tryd.f5 Post) ⟨#[A0, A1, A2, A3, A4, A5, A6, A7, A8, A9, AA, AB, AC, AD, .slice so m wc, AE, AF, AG, AH, AI, AJ, AK, AL, AM, .slice (some ⟨tb, 0, none⟩) (m + 1) (m + 1 + tc), AN, AO, AP, AQ, AR, AS, AT, AU, AV, AW, AX, AY, AZ, B0, B2, B3, B4, B5, B6, B7, B8, B9, BA, BB, BC, BD, BE, BF, BG, BH, BI, BJ, BK, BL, BM, BN, BO, BP, BQ, BR, BS, BT, BU, BV, BW, BX, BY, BZ, C0, C1, C2, C3, C4, C5, C6, C7, C8, C9, CA, CB, CC, CD, CE, CF, CG, CH, CI, CJ, CK, CL, CM, CN, CO, CP, CQ, CR, CS, CT, CU, CV, CW, CX, CY, CZ, E0, E1, E2, E3, E4, E5, E6, E7, E8, E9, EA, EB, EC, ED, EE, EF, EG, EH, EI, EJ, EK, EL, EM, EN, EO, EP, EQ, ER, ES, ET, EU, EV, EW, EX, EY, EZ, F0, F1, F2, F3, F4, F5, F6, F7, F8, F9, FA, FB, FC, FD, FE, FF, FG, FH, FI, FJ, FK, FL, FM, FN, FO, FP, FQ, FR, FS, FT, FU, FV, FW, FX, FY, FZ, G0, G1, G2, G3, G4, G5, G6, G7, G8, G9, GA, GB, GC, GD, GE, GF, GG, GH, GI, GJ, GK, GL, GM, GN, GO, GP, GQ, GR, GS, GT, GU, GV, GW, GX, GY, GZ, I0, I1, I2, I3, I4, I5, I6, I7, I8, I9, IA, IB, IC, ID, IE, IF, IG, IH, II, IJ, IK, IL, IM, IN, IO, IP, IQ, IR, IS, IT, IU, IV, IW, IX, IY, IZ, J0, J1, J2, J3, J4, J5, J6, J7, J8, J9, JA, JB, JC, JD, JE, JF, JG, JH, JI, JJ, JK, JL, JM, JN, JO, JP, JQ, JR, JS, JT, JU, JV, JW, JX, JY, JZ, M0, M1, M2, M3, M4, M5, M6, M7, M8, M9, MA, MB, MC, MD, ME, MF, MG, MH, MI, MJ, MK, ML, MM, MN, MO, MP, MQ, MR, MS, MT, MU, MV, MW, MX, MY, MZ, N0, N1, N2, N3, N4, N5, N6, N7, N8, N9, NA, NB, NC, ND, NE, NF, NG, NH, NI, NJ, NK, NL, NM, NN, NO, NP, NQ, NR, NS, NT, NU, NV, NW, NX, NY, NZ, O0, O1, O2], []⟩ w := by
 have HP := Lib.hid hP
 have HSO := Lib.hid hso
 have HLC := Lib.hid hloc
 clear hP hso hloc
 simp only [rest46b, Tryd.f5, Option.getD_some, cutC]
 have hm9 : (m : Int) ≤ 4096 := by omega
 have hm8 : (0 : Int) ≤ (m : Int) := by omega
 go_wp2_with (first | (with_reducible refine Own.stay (fn := Tryd.f5) ?_) | fail)
 try with_reducible refine Own.Stay.mk ?_
 replace hO : Own w0 w [row (tb) 61 (full stmZ (stL (dtL (adS nl ad) (lcS 5 lcB)) (List.range (m + 1))) tc)] X := hO.sub [0] (by decide)
 go_loopg [34] m (fun gf s34 wx => ∃ j : Nat, j + gf = m ∧ s34 = .int .i64 (j : Int) ∧ Own w0 wx [row (tb) 61 (full stmZ (stL (dtL (adS nl ad) (lcS 5 lcB)) (List.range (m + 1))) tc)] X)
 case atStart => exact ⟨0, by omega, rfl, hO⟩
 obtain ⟨j, hjm, rfl, hO⟩ := hrel
 by_cases hlt : j < m
 ·skip
  obtain ⟨gq, rfl⟩ : ∃ gq, gk = gq + 1 := ⟨gk - 1, by omega⟩
  have hlt9 : (j : Int) < (m : Int) := by omega
  have hj8 : (0 : Int) ≤ (j : Int) := by omega
  have hj7 : (j : Int) ≤ 4096 := by omega
  have hw1 : IntKind.i64.wrap (1 + (j : Int)) = 1 + (j : Int) := by rw [IntKind.wrap_i64]; omega
  have hlt5 : 1 + (j : Int) < (m : Int) + 1 := by omega
  have htn5 : (1 + (j : Int)).toNat = 1 + j := by omega
  have hlt4 : (j : Int) + 1 < (m : Int) + 1 := by omega
  obtain ⟨b, hsob, hxb⟩ := HSO.out (by omega)
  subst hsob
  obtain ⟨hs0, hs1⟩ := shift_at (nl := nl) (ad := ad) hlt
  have hlx := HLC.out j hlt
  have fx0 : wr.cell? ⟨ad j, 1, none⟩ = some (.int .u8 0) := Base.RowAt.cell (show Base.RowAt wr (ad j) 57 #[vN, .int .u8 0, bF, bF] from (hO.frame _ _ hlx).2.1) rfl
  have fx1 : ad j < wr.heap.size := Base.block_of_cell fx0
  go_wp2_with (first | (with_reducible refine Own.stay (fn := Tryd.f5) ?_) | (first | (go_at_call 15; go_in)))
  try with_reducible refine Own.Stay.mk ?_
  have HO := Lib.hid hO
  clear hO
  have hO := HO.out
  clear HO fx0 fx1
  have st9 := rT46b_l0_st m ad tb tc nl wc j b
  let R9 := rT46b_l0R m ad tb tc nl wc j b
  refine wp_region_own (e := rT46b_l0E m ad tb tc nl wc j b) (anc := rT46b_l0Anc) (G := (fun L9 α u9 => OwnF w0 u9 (act rT46b_l0Cnt 1 L9) (rT46b_l0R m ad tb tc nl wc j b L9 α) X)) (by kernel_rfl) (by kernel_rfl) (by kernel_rfl) (by kernel_rfl) (rT46b_l0_he m ad tb tc nl wc j b) ?_ (RunsAll.all ?_) ?_
  ·have hp : ∀ i, act rT46b_l0Cnt 1 (fun _ => false) i → i ∈ [999] := by
    intro i hi
    have h9 : i % 1000 = 999 := by
     by_cases h : i % 1000 = 999
     ·exact h
     ·exact absurd (act_lt hi h) (by simp)
    unfold act at hi
    rw [if_pos h9] at hi
    simp only [List.mem_cons, List.not_mem_nil, or_false]
    omega
   refine hO.drew.family (fun i hi => ?_) (fun i j hi hj hij => ?_)
   ·have := hp i hi
    simp only [List.mem_cons, List.not_mem_nil, or_false] at this
    subst this
    rfl
   ·have h1 := hp i hi
    have h2 := hp j hj
    simp only [List.mem_cons, List.not_mem_nil, or_false] at h1 h2
    omega
  ·refine ⟨?_, ?_, ?_, ?_, ?_, ?_, ?_, ?_, ?_, ?_, ?_, ?_, trivial⟩
   ·refine pur st9 rfl rfl fun L9 α a9 u9 K9 hL hcl hA hG hS h0 h1 hK => ?_
    have s24 := eS (.slice (some ⟨tb, 0, none⟩) (m + 1) (m + 1 + tc)) ((h0 24 (by kernel_rfl)).trans rfl)
    go_simp
    exact hK
   ·refine pur st9 rfl rfl fun L9 α a9 u9 K9 hL hcl hA hG hS h0 h1 hK => ?_
    have s34 := eS (.int .i64 (j : Int)) ((h0 34 (by kernel_rfl)).trans rfl)
    go_simp
    exact hK
   ·refine pur st9 rfl rfl fun L9 α a9 u9 K9 hL hcl hA hG hS h0 h1 hK => ?_
    have s338 := eS (.int .i64 (j : Int)) (hS 1 338 (by decide) rfl (ltd 364 rfl))
    go_simp
    exact hK
   ·refine pur st9 rfl rfl fun L9 α a9 u9 K9 hL hcl hA hG hS h0 h1 hK => ?_
    have q337 : a9.tmps[337]? = some (.slice (some ⟨tb, 0, none⟩) (m + 1) (m + 1 + tc)) := hS 0 337 (by decide) rfl (ltd 364 rfl)
    have s337 := Rega.eval_of q337
    have q339 : a9.tmps[339]? = some (.int .i64 (1 + (j : Int))) := hS 2 339 (by decide) rfl (ltd 364 rfl)
    have s339 := Rega.eval_of q339
    go_simp
    exact hK
   ·refine pur st9 rfl rfl fun L9 α a9 u9 K9 hL hcl hA hG hS h0 h1 hK => ?_
    have s340 := eS (.pointer (some ⟨tb, (1 + j) * 2, none⟩)) (hS 3 340 (by decide) rfl (ltd 364 rfl))
    go_simp
    exact hK
   ·refine pur st9 rfl rfl fun L9 α a9 u9 K9 hL hcl hA hG hS h0 h1 hK => ?_
    have s341 := eS (.pointer (some ⟨tb, (1 + j) * 2 + 1, none⟩)) (hS 4 341 (by decide) rfl (ltd 364 rfl))
    go_simp
    exact hK
   ·refine pur st9 rfl rfl fun L9 α a9 u9 K9 hL hcl hA hG hS h0 h1 hK => ?_
    have s342 := eS (.pointer (some ⟨tb, (1 + j) * 2 + 1, none⟩)) (hS 5 342 (by decide) rfl (ltd 364 rfl))
    have e0 : R9 L9 α 999 = row (tb) 61 (full stmZ (stL (dtL (adS nl ad) (lcS 5 lcB)) (List.range (m + 1))) tc) := rfl
    have hr := hG.rowAt 999 (act_base 999 rfl) e0
    have c0 : u9.cell? ⟨tb, (1 + j) * 2 + 1, none⟩ = some (vI (100 + (j : Int))) := hr.cell ((full_at hs1))
    clear hr e0
    go_simp
    exact hK
   ·refine pur st9 rfl rfl fun L9 α a9 u9 K9 hL hcl hA hG hS h0 h1 hK => ?_
    have s14 := eS (.slice (some ⟨b, 0, none⟩) m wc) ((h0 14 (by kernel_rfl)).trans rfl)
    go_simp
    exact hK
   ·refine pur st9 rfl rfl fun L9 α a9 u9 K9 hL hcl hA hG hS h0 h1 hK => ?_
    have s34 := eS (.int .i64 (j : Int)) ((h0 34 (by kernel_rfl)).trans rfl)
    go_simp
    exact hK
   ·refine pur st9 rfl rfl fun L9 α a9 u9 K9 hL hcl hA hG hS h0 h1 hK => ?_
    have q344 : a9.tmps[344]? = some (.slice (some ⟨b, 0, none⟩) m wc) := hS 7 344 (by decide) rfl (ltd 364 rfl)
    have s344 := Rega.eval_of q344
    have q345 : a9.tmps[345]? = some (.int .i64 (j : Int)) := hS 8 345 (by decide) rfl (ltd 364 rfl)
    have s345 := Rega.eval_of q345
    go_simp
    exact hK
   ·refine pur st9 rfl rfl fun L9 α a9 u9 K9 hL hcl hA hG hS h0 h1 hK => ?_
    have s346 := eS (.pointer (some ⟨b, j, none⟩)) (hS 9 346 (by decide) rfl (ltd 364 rfl))
    have c0 : u9.cell? ⟨b, j, none⟩ = some (vI (100 + (j : Int))) := Base.RowAt.cell (show Base.RowAt u9 b 21 (full i32Z (tab wF m) 0) from (hG.frame _ _ hxb).2.1) (wF_at hlt)
    go_simp
    exact hK
   ·refine pur st9 rfl rfl fun L9 α a9 u9 K9 hL hcl hA hG hS h0 h1 hK => ?_
    have q343 : a9.tmps[343]? = some (vI (100 + (j : Int))) := hS 6 343 (by decide) rfl (ltd 364 rfl)
    have s343 := Rega.eval_of q343
    have q347 : a9.tmps[347]? = some (vI (100 + (j : Int))) := hS 10 347 (by decide) rfl (ltd 364 rfl)
    have s347 := Rega.eval_of q347
    go_simp
    exact hK
  clear st9
  intro α u hG
  have e0 : R9 (fun k => decide (k < 12)) α 999 = row (tb) 61 (full stmZ (stL (dtL (adS nl ad) (lcS 5 lcB)) (List.range (m + 1))) tc) := rfl
  have hO : Own w0 u [row (tb) 61 (full stmZ (stL (dtL (adS nl ad) (lcS 5 lcB)) (List.range (m + 1))) tc)] X := (hG.list [999] (by decide) (act_all (by decide))).conv (by
   show [R9 (fun k => decide (k < 12)) α 999] = _
   rw [e0])
  clear hG e0 R9
  generalize hfr : Rega.frameAt _ _ _ _ _ = fr
  have hdf : fr = ⟨#[A0, A1, A2, A3, A4, A5, A6, A7, u8, A9, AA, AB, AC, AD, .slice (some ⟨b, 0, none⟩) m wc, AE, AF, AG, AH, AI, AJ, AK, AL, AM, .slice (some ⟨tb, 0, none⟩) (m + 1) (m + 1 + tc), AN, AO, AP, AQ, AR, AS, AT, AU, AV, .int .i64 (j : Int), u35, AY, AZ, B0, B2, B3, B4, B5, B6, B7, B8, B9, BA, BB, BC, BD, BE, BF, BG, BH, BI, BJ, BK, BL, BM, BN, BO, BP, BQ, BR, BS, BT, BU, BV, BW, BX, BY, BZ, C0, C1, C2, C3, C4, C5, C6, C7, C8, C9, CA, CB, CC, CD, CE, CF, CG, CH, CI, CJ, CK, CL, CM, CN, CO, CP, CQ, CR, CS, CT, CU, CV, CW, CX, CY, CZ, E0, E1, E2, E3, E4, E5, E6, E7, E8, E9, EA, EB, EC, ED, EE, EF, EG, EH, EI, EJ, EK, EL, EM, EN, EO, EP, EQ, ER, ES, ET, EU, EV, EW, EX, EY, EZ, F0, F1, F2, F3, F4, F5, F6, F7, F8, F9, FA, FB, FC, FD, FE, FF, FG, FH, FI, FJ, FK, FL, FM, FN, FO, FP, FQ, FR, FS, FT, FU, FV, FW, FX, FY, FZ, G0, G1, G2, G3, G4, G5, G6, G7, G8, G9, GA, GB, GC, GD, GE, GF, GG, GH, GI, GJ, GK, GL, GM, GN, GO, GP, GQ, GR, GS, GT, GU, GV, GW, GX, GY, GZ, I0, I1, I2, I3, I4, I5, I6, I7, I8, I9, IA, IB, IC, ID, IE, IF, IG, IH, II, IJ, IK, IL, IM, IN, IO, IP, IQ, IR, IS, IT, IU, IV, IW, IX, IY, IZ, J0, J1, J2, J3, J4, J5, J6, J7, J8, J9, JA, JB, JC, JD, JE, JF, JG, JH, JI, JJ, JK, JL, JM, JN, JO, JP, JQ, JR, JS, JT, JU, JV, JW, JX, JY, JZ, M0, M1, M2, M3, M4, M5, M6, M7, M8, M9, MA, MB, MC, MD, ME, MF, MG, MH, MI, MJ, MK, ML, MM, MN, MO, MP, MQ, MR, MS, MT, MU, MV, MW, MX, MY, MZ, N0, N1, N2, N3, N4, N5, .int .i64 (j : Int), .slice (some ⟨b, 0, none⟩) m wc, .int .i64 (m : Int), .bool true, u335, u336, .slice (some ⟨tb, 0, none⟩) (m + 1) (m + 1 + tc), .int .i64 (j : Int), .int .i64 (1 + (j : Int)), .pointer (some ⟨tb, (1 + j) * 2, none⟩), .pointer (some ⟨tb, (1 + j) * 2 + 1, none⟩), .pointer (some ⟨tb, (1 + j) * 2 + 1, none⟩), vI (100 + (j : Int)), .slice (some ⟨b, 0, none⟩) m wc, .int .i64 (j : Int), .pointer (some ⟨b, j, none⟩), vI (100 + (j : Int)), bF, u349, u350, u351, u352, u353, u354, u355, u356, u357, u358, u359, u360, u361, u362, u363], []⟩ := by rw [← hfr]; kernel_rfl
  clear hfr
  subst hdf
  clear α
  obtain ⟨ix9, hix9, hax9, hjx9⟩ := hO.ix
  have aA := hjx9 0 _ _ rfl
  clear hjx9
  have aB : u.cell? ⟨tb, (1 + j) * 2, none⟩ = some (.iface 42 (.pointer (some ⟨ad j, 0, none⟩))) := hO.cell 0 rfl ((1 + j) * 2) ((full_at hs0))
  have aC : u.cell? ⟨tb, (1 + j) * 2 + 1, none⟩ = some (vI (100 + (j : Int))) := hO.cell 0 rfl ((1 + j) * 2 + 1) ((full_at hs1))
  have aD := hO.lt 0 rfl
  have aE := hO.free 0 rfl
  have HO := Lib.hid hO
  clear hO
  have fx0 : u.cell? ⟨ad j, 1, none⟩ = some (.int .u8 0) := Base.RowAt.cell (show Base.RowAt u (ad j) 57 #[vN, .int .u8 0, bF, bF] from (HO.out.frame _ _ hlx).2.1) rfl
  have fx1 : ad j < u.heap.size := Base.block_of_cell fx0
  go_wp2_with (first | (with_reducible refine Own.stay (fn := Tryd.f5) ?_) | (first | (go_at_call 15; go_in)))
  try with_reducible refine Own.Stay.mk ?_
  have hO := HO.out
  clear HO hix9 hax9 aA ix9 fx0 fx1 aB aC aD aE
  generalize hW : World.alloc _ _ = W2
  have hN : Own w0 W2 [row (u.heap.size) 61 #[.iface 42 (.pointer (some ⟨ad j, 0, none⟩)), vI (100 + (j : Int))], row (tb) 61 (full stmZ (stL (dtL (adS nl ad) (lcS 5 lcB)) (List.range (m + 1))) tc)] X := by
   rw [← hW]
   exact (hO).alloc' _ (u.heap.size) (by simp)
  clear hW hO
  generalize u.heap.size = B1 at hN ⊢
  have hO := hN
  clear hN
  go_roundg gq
  case measure => omega
  case rel => exact ⟨j + 1, by omega, by first | rfl | simp, hO.sub [1] (by decide)⟩
 obtain rfl : j = m := by omega
 have hlt9 : ¬ (j : Int) < (j : Int) := by omega
 obtain ⟨ix9, hix9, hax9, hjx9⟩ := hO.ix
 have aA := hjx9 0 _ _ rfl
 clear hjx9
 go_wp2_with (first | (with_reducible refine Own.stay (fn := Tryd.f5) ?_) | (first | (go_at_call 15; go_in)))
 try with_reducible refine Own.Stay.mk ?_
 have HO := Lib.hid hO
 clear hO
 have hO := HO.out
 clear HO hix9 hax9 aA ix9
 exact HP.out _ (hO.sub [] (by decide))
end Go.Proofs.YtikopplofkemlaaDoor.Use
namespace Go.Proofs.YtikopplofkemlaaDoor.Use
open Go.ChangeShapes Go.WideShapes Go.ChangeAt Go.RowKit Go.Sort Own
set_option linter.unusedVariables false

set_option maxRecDepth 100000 in
set_option maxHeartbeats 4000000 in
theorem tl46a0 (pb : Nat) (nm : ByteArray) (pt mu cs ini dbx ib bx : Nat) (lv : Int) (m : Nat) (ad : Nat → Nat) (orf cx qb qc lb ld li la yb yc yf fb sb2 c2 gb2 cg2 db cd ca b a0 ab tr kb tb tc nl nd ni ne : Nat) (clv : Value) (PC QC KC : Array Value) (ul2 : List (Int × Int × Int)) (so : Option Addr) (wc : Nat) (nb : Int) (A0 A1 A2 A3 A4 A5 A6 A7 A8 A9 AA AB AC AD AE AF AG AH AI AJ AK AL AM AN AO AP AQ AR AS AT AU AV AW AX AY AZ B0 B2 B3 B4 B6 B7 B8 B9 BA BB BC BD BE BF BG BH BI BJ BK BL BM BN BO BP BQ BR BS BT BU BV BW BX BY BZ C0 C1 C2 C3 C4 C5 C6 C7 C8 C9 CA CB CC CD CE CF CG CH CI CJ CK CL CM CN CO CP CQ CR CS CT CU CV CW CX CY CZ E0 E1 E2 E3 E4 E5 E6 E7 E8 E9 EA EB EC ED EE EF EG EH EI EJ EK EL EM EN EO EP EQ ER ES ET EU EV EW EX EY EZ F0 F1 F2 F3 F4 F5 F6 F7 F8 F9 FA FB FC FD FE FF FG FH FI FJ FK FL FM FN FO FP FQ FR FS FT FU FV FW FX FY FZ G0 G1 G2 G3 G4 G5 G6 G7 G8 G9 GA GB GC GD GE GF GG GH GI GJ GK GL GM GN GO GP GQ GR GS GT GU GV GW GX GY GZ I0 I1 I2 I3 I4 I5 I6 I7 I8 I9 IA IB IC ID IE IF IG IH II IJ IK IL IM IN IO IP IQ IR IS IT IU IV IW IX IY IZ J0 J1 J2 J3 J4 J5 J6 J7 J8 J9 JA JB JC JD JE JF JG JH JI JJ JK JL JM JN JO JP JQ JR JS JT JU JV JW JX JY JZ M0 M1 M2 M3 M4 M5 M6 M7 M8 M9 MA MB MC MD ME MF MG MH MI MJ MK ML MM MN MO MP MQ MR MS MT MU MV MW MX MY MZ N0 N1 N2 N3 N4 N5 N6 N7 N8 N9 NA NB NC ND NE NF NG NH NI NJ NK NL NM NN NO NP NQ NR NS NT NU NV NW : Value) (w0 w : World) (X : Nat → Obj → Prop) (Q : Exit → Act → World → Prop) (hB : Hb46 m ad tb tc nl so wc w0 X Q) (hO : Own w0 w [row (orf) 31 #[vU 0, vU 0], row (qb) 61 (full stmZ [.iface 42 (vP lb), vI 5, .iface 67 (vP yb), vI 5] qc), row (lb) 57 #[.slice (some ⟨ld, 0, none⟩) 1 1, .int .u8 0, bF, bF], row (ld) 54 #[.iface 134 (vP li), vI 5, .iface 315 (vP la), vI 5], row (li) 136 #[vU 0, vU 2], row (yb) 76 #[vP yc, vP yf, .slice (some ⟨tb, 0, none⟩) (m + 1) (m + 1 + tc), vI 0, vI 5], row (yf) 116 #[.slice (some ⟨fb, 0, none⟩) 1 1, vI 0, vI 5], row (pb) 252 PC, row (sb2) 260 (full symZ (symL (bump (stF0 ([sy nm 0, sy (un nm) 0, sy ⟨#[95, 115, 116, 97, 99, 107]⟩ 1, sy ⟨#[95, 95, 117, 115, 105, 110, 103]⟩ 1]) 2 4) 4)) c2), row (tb) 61 (full stmZ (stL (dtL (adS nl ad) (lcS 5 lcB)) (List.range (m + 1))) tc), row (ini) 57 #[.slice (some ⟨dbx, 0, none⟩) 1 1, .int .u8 0, bF, bF], row (ib) 136 #[vU 0, vU 1], row (kb) 72 #[.slice (some ⟨qb, 0, none⟩) 2 (2 + qc), clv], row (nl) 57 #[.slice (some ⟨nd, 0, none⟩) 1 1, .int .u8 2, bF, bF], row (nd) 54 #[.iface 134 (vP ni), vI 3, .iface 261 (vP ca), vI 3], row (ca) 266 #[.iface 267 (vP b), vI 3, .slice (some ⟨ab, 0, none⟩) 2 2, vI 0, .int .u8 0, .int .u8 0, bF, bF], row (ab) 52 #[.iface 267 (vP a0), vI 3, .iface 267 (vP ne), vI 3], row (a0) 270 #[vU 0, vU 2, bF, bF, bF], row (dbx) 54 #[.iface 134 (vP ib), vI 3, .nilIface, vI 0], row (ni) 136 #[vU 0, vU 0], row (ne) 270 #[vU 0, vU 1, bF, bF, bF], row (bx) 61 #[.iface 110 (vP kb), vI lv]] X) (hk106 : PC[106]? = some (.slice (some ⟨sb2, 0, none⟩) 8 (8 + c2))) (hnm : nm.size ≤ 65536) (hm : m ≤ 4096) :
  Code.wp Tryd.prog rest46 Q ⟨#[.string nm, A0, .int .i64 nb, bF, A1, A2, A3, A4, A5, vP pb, vP cs, vP orf, vP ini, vP bx, .slice so m wc, A6, A7, A8, A9, AA, AB, AC, AD, AE, AF, AG, AH, AI, AJ, AK, AL, AM, AN, AO, AP, AQ, AR, AS, AT, AU, AV, AW, AX, AY, AZ, B0, B2, B3, B4, B6, B7, B8, B9, BA, BB, BC, BD, BE, BF, BG, BH, BI, BJ, BK, BL, BM, BN, BO, BP, BQ, BR, BS, BT, BU, BV, BW, BX, BY, BZ, C0, C1, C2, C3, C4, C5, C6, C7, C8, C9, CA, CB, CC, CD, CE, CF, CG, CH, CI, CJ, CK, CL, CM, CN, CO, CP, CQ, CR, CS, CT, CU, CV, CW, CX, CY, CZ, E0, E1, E2, E3, E4, E5, E6, E7, E8, E9, EA, EB, EC, ED, EE, EF, EG, EH, EI, EJ, EK, EL, EM, EN, EO, EP, EQ, ER, ES, ET, EU, EV, EW, EX, EY, EZ, F0, F1, F2, F3, F4, F5, F6, F7, F8, F9, FA, FB, FC, FD, FE, FF, FG, FH, FI, FJ, FK, FL, FM, FN, FO, FP, FQ, FR, FS, FT, FU, FV, FW, FX, FY, FZ, G0, G1, G2, G3, G4, G5, G6, G7, G8, G9, GA, GB, GC, GD, GE, GF, GG, GH, GI, GJ, GK, GL, GM, GN, GO, GP, GQ, GR, GS, GT, GU, GV, GW, GX, GY, GZ, I0, I1, I2, I3, I4, I5, I6, I7, I8, I9, IA, IB, IC, ID, IE, IF, IG, IH, II, IJ, IK, IL, IM, IN, IO, IP, IQ, IR, IS, IT, IU, IV, IW, IX, IY, IZ, J0, J1, J2, J3, J4, J5, J6, J7, J8, J9, JA, JB, JC, JD, JE, JF, JG, JH, JI, JJ, JK, JL, JM, JN, JO, JP, JQ, JR, JS, JT, JU, JV, JW, JX, JY, JZ, M0, M1, M2, M3, M4, M5, M6, M7, M8, M9, MA, MB, MC, MD, ME, MF, MG, MH, MI, MJ, MK, ML, MM, MN, MO, MP, MQ, MR, MS, MT, MU, MV, MW, MX, MY, MZ, N0, N1, N2, N3, N4, N5, N6, N7, N8, N9, NA, NB, NC, ND, NE, NF, NG, NH, NI, NJ, NK, NL, NM, NN, NO, NP, NQ, NR, NS, NT, NU, NV, NW], []⟩ w := by
 have HB := Lib.hid hB
 clear hB
 obtain ⟨c9, hc9⟩ : ∃ c, c = rest46b := ⟨_, rfl⟩
 have HC9 := Lib.hid hc9
 simp only [rest46b, Tryd.f5, Option.getD_some, cutC] at hc9
 simp only [rest46, Tryd.f5, Option.getD_some, cutC]
 rw [← hc9]
 clear hc9
 have hm9 : (m : Int) ≤ 4096 := by omega
 have hm8 : (0 : Int) ≤ (m : Int) := by omega
 have hq1 : ((m : Int) + 1 != 1 + (m : Int)) = false := by simp [Int.add_comm]
 have hq2 : (1 : Int) + (m : Int) = (m : Int) + 1 := Int.add_comm _ _
 have ha0 : (List.range (m + 1))[0]? = some 0 := by simp
 have hc0 : (stL (dtL (adS nl ad) (lcS 5 lcB)) (List.range (m + 1)))[0]? = some (.iface 42 (vP nl)) := stL_at0 (D := dtL (adS nl ad) (lcS 5 lcB)) (p := 0) ha0
 have hc1 : (stL (dtL (adS nl ad) (lcS 5 lcB)) (List.range (m + 1)))[1]? = some (vI 5) := stL_at1 (D := dtL (adS nl ad) (lcS 5 lcB)) (p := 0) ha0
 clear ha0
 obtain ⟨ce, cf, ba, bb, -⟩ := hO.k2 0 rfl
 obtain ⟨aA, aB, cg, ch, aC, aD, -⟩ := hO.k4 2 rfl
 obtain ⟨aE, aF, ci, cj, aG, aH, -⟩ := hO.k4 3 rfl
 obtain ⟨aI, aJ, aK, aL, -⟩ := hO.k2 4 rfl
 obtain ⟨aM, aN, ck, cl, cm, aO, aP, -⟩ := hO.k5 5 rfl
 obtain ⟨bc, bd, be, bf, bg, -⟩ := hO.k3 6 rfl
 obtain ⟨aQ, aR, aS, aT, aU, aV, -⟩ := hO.k4 10 rfl
 obtain ⟨aW, aX, aY, aZ, -⟩ := hO.k2 11 rfl
 obtain ⟨bh, bi, bj, bk, -⟩ := hO.k2 12 rfl
 obtain ⟨aa, ac, ae, af, ag, ah, -⟩ := hO.k4 13 rfl
 obtain ⟨ai, aj, cn, co, ak, al, -⟩ := hO.k4 14 rfl
 obtain ⟨am, an, cp, cq, cr, ct, cu, cv, ao, ap, -⟩ := hO.k8 15 rfl
 obtain ⟨aq, ar, au, av, aw, ax, -⟩ := hO.k4 16 rfl
 obtain ⟨ay, az, bA, bB, cw, bC, bD, -⟩ := hO.k5 17 rfl
 obtain ⟨bE, bG, bH, bI, bJ, bK, -⟩ := hO.k4 18 rfl
 obtain ⟨bL, bM, bN, bO, -⟩ := hO.k2 19 rfl
 obtain ⟨bP, bQ, bR, bS, bT, bU, bV, -⟩ := hO.k5 20 rfl
 obtain ⟨bW, bX, bY, bZ, -⟩ := hO.k2 21 rfl
 have HO := Lib.hid hO
 clear hO
 have htn : (⟨#[95]⟩ : ByteArray) ++ nm = un nm := rfl
 have hnz2 : ¬ 9223372036854775807 < 1 + nm.size := by omega
 have hnz3 : (nm.size : Int) ≤ 8388608 := by omega
 go_wp2_with (first | (with_reducible refine Own.stay (fn := Tryd.f5) ?_) | (first | (go_at_call 16; go_in) | (go_at_call 24; go_in) | (go_at_call 15; go_in) | (go_at_call 17; go_in) | (go_at_call 27; go_in) | (go_at_call 28; go_in) | (go_at_call 29; go_in)))
 try with_reducible refine Own.Stay.mk ?_
 have hO := HO.out
 clear HO ce cf ba bb aA aB cg ch aC aD aE aF ci cj aG aH aI aJ aK aL aM aN ck cl cm aO aP bc bd be bf bg aQ aR aS aT aU aV aW aX aY aZ bh bi bj bk aa ac ae af ag ah ai aj cn co ak al am an cp cq cr ct cu cv ao ap aq ar au av aw ax ay az bA bB cw bC bD bE bG bH bI bJ bK bL bM bN bO bP bQ bR bS bT bU bV bW bX bY bZ
 generalize hW : World.alloc _ _ = W2
 have hN : Own w0 W2 [row (w.heap.size + 1 + 1) 31 #[vU 0, vU 1], row (w.heap.size + 1) 31 #[vU 0, vU 1], row (w.heap.size) 47 #[.iface 134 (vP ib), vI 3], row (orf) 31 #[vU 0, vU 0], row (qb) 61 (full stmZ [.iface 42 (vP lb), vI 5, .iface 67 (vP yb), vI 5] qc), row (lb) 57 #[.slice (some ⟨ld, 0, none⟩) 1 1, .int .u8 0, bF, bF], row (ld) 54 #[.iface 134 (vP li), vI 5, .iface 315 (vP la), vI 5], row (li) 136 #[vU 0, vU 2], row (yb) 76 #[vP yc, vP yf, .slice (some ⟨tb, 0, none⟩) (m + 1) (m + 1 + tc), vI 0, vI 5], row (yf) 116 #[.slice (some ⟨fb, 0, none⟩) 1 1, vI 0, vI 5], row (pb) 252 PC, row (sb2) 260 (full symZ (symL (bump (stF0 ([sy nm 0, sy (un nm) 0, sy ⟨#[95, 115, 116, 97, 99, 107]⟩ 1, sy ⟨#[95, 95, 117, 115, 105, 110, 103]⟩ 1]) 2 4) 4)) c2), row (tb) 61 (full stmZ (stL (dtL (adS nl ad) (lcS 5 lcB)) (List.range (m + 1))) tc), row (ini) 57 #[.slice (some ⟨dbx, 0, none⟩) 1 1, .int .u8 0, bF, bF], row (ib) 136 #[vU 0, vU 1], row (kb) 72 #[.slice (some ⟨qb, 0, none⟩) 2 (2 + qc), clv], row (nl) 57 #[.slice (some ⟨nd, 0, none⟩) 1 1, .int .u8 2, bF, bF], row (nd) 54 #[.iface 134 (vP ni), vI 3, .iface 261 (vP ca), vI 3], row (ca) 266 #[.iface 267 (vP b), vI 3, .slice (some ⟨ab, 0, none⟩) 2 2, vI 0, .int .u8 0, .int .u8 0, bF, bF], row (ab) 52 #[.iface 267 (vP a0), vI 3, .iface 267 (vP ne), vI 3], row (a0) 270 #[vU 0, vU 2, bF, bF, bF], row (dbx) 54 #[.iface 134 (vP ib), vI 3, .nilIface, vI 0], row (ni) 136 #[vU 0, vU 0], row (ne) 270 #[vU 0, vU 1, bF, bF, bF], row (bx) 61 #[.iface 110 (vP kb), vI lv]] X := by
  rw [← hW]
  exact (((hO).alloc' _ (w.heap.size) (by simp)).alloc' _ (w.heap.size + 1) (by simp)).alloc' _ (w.heap.size + 1 + 1) (by simp)
 clear hW hO
 generalize w.heap.size + 1 + 1 = B1_2 at hN ⊢
 generalize w.heap.size + 1 = B1_1 at hN ⊢
 generalize w.heap.size = B1 at hN ⊢
 have hO := hN
 clear hN
 obtain ⟨HL, HX⟩ := hid2 hO
 have hP9 := hO.pick [10, 11] (by decide)
 have h9_hn : (bump (stF0 [sy nm 0, sy (un nm) 0, sy ⟨#[95, 115, 116, 97, 99, 107]⟩ 1, sy ⟨#[95, 95, 117, 115, 105, 110, 103]⟩ 1] 2 4) 4).length = 8 := rfl
 have h9_hnb : 8 ≤ 2000000 := (by omega)
 have h9_hnm9 : ∃ y : Sy, (bump (stF0 [sy nm 0, sy (un nm) 0, sy ⟨#[95, 115, 116, 97, 99, 107]⟩ 1, sy ⟨#[95, 95, 117, 115, 105, 110, 103]⟩ 1] 2 4) 4)[1]? = some y ∧ y.nm = (un nm) := ⟨_, rfl, rfl⟩
 have T9 := symName pb PC sb2 c2 (bump (stF0 [sy nm 0, sy (un nm) 0, sy ⟨#[95, 115, 116, 97, 99, 107]⟩ 1, sy ⟨#[95, 95, 117, 115, 105, 110, 103]⟩ 1] 2 4) 4) 8 0 1 (un nm) _ _ _ hP9 hk106 h9_hn h9_hnb h9_hnm9
 refine Calls.mono T9 ?_
 clear hP9 T9 h9_hn h9_hnb h9_hnm9
 rintro e uw3 ⟨rfl, hQ⟩
 replace hO : Own w0 uw3 [row (pb) 252 PC, row (sb2) 260 (full symZ (symL (bump (stF0 [sy nm 0, sy (un nm) 0, sy ⟨#[95, 115, 116, 97, 99, 107]⟩ 1, sy ⟨#[95, 95, 117, 115, 105, 110, 103]⟩ 1] 2 4) 4)) c2), row (B1_2) 31 #[vU 0, vU 1], row (B1_1) 31 #[vU 0, vU 1], row (B1) 47 #[.iface 134 (vP ib), vI 3], row (orf) 31 #[vU 0, vU 0], row (qb) 61 (full stmZ [.iface 42 (vP lb), vI 5, .iface 67 (vP yb), vI 5] qc), row (lb) 57 #[.slice (some ⟨ld, 0, none⟩) 1 1, .int .u8 0, bF, bF], row (ld) 54 #[.iface 134 (vP li), vI 5, .iface 315 (vP la), vI 5], row (li) 136 #[vU 0, vU 2], row (yb) 76 #[vP yc, vP yf, .slice (some ⟨tb, 0, none⟩) (m + 1) (m + 1 + tc), vI 0, vI 5], row (yf) 116 #[.slice (some ⟨fb, 0, none⟩) 1 1, vI 0, vI 5], row (tb) 61 (full stmZ (stL (dtL (adS nl ad) (lcS 5 lcB)) (List.range (m + 1))) tc), row (ini) 57 #[.slice (some ⟨dbx, 0, none⟩) 1 1, .int .u8 0, bF, bF], row (ib) 136 #[vU 0, vU 1], row (kb) 72 #[.slice (some ⟨qb, 0, none⟩) 2 (2 + qc), clv], row (nl) 57 #[.slice (some ⟨nd, 0, none⟩) 1 1, .int .u8 2, bF, bF], row (nd) 54 #[.iface 134 (vP ni), vI 3, .iface 261 (vP ca), vI 3], row (ca) 266 #[.iface 267 (vP b), vI 3, .slice (some ⟨ab, 0, none⟩) 2 2, vI 0, .int .u8 0, .int .u8 0, bF, bF], row (ab) 52 #[.iface 267 (vP a0), vI 3, .iface 267 (vP ne), vI 3], row (a0) 270 #[vU 0, vU 2, bF, bF, bF], row (dbx) 54 #[.iface 134 (vP ib), vI 3, .nilIface, vI 0], row (ni) 136 #[vU 0, vU 0], row (ne) 270 #[vU 0, vU 1, bF, bF, bF], row (bx) 61 #[.iface 110 (vP kb), vI lv]] X := hQ.back HL.out HX.out [0, 1, 2, 3, 4, 5, 6, 7, 8, 9, 12, 13, 14, 15, 16, 17, 18, 19, 20, 21, 22, 23, 24] (by decide) (by decide)
 clear hQ HL HX
 obtain ⟨aA, aB, aC, aD, -⟩ := hO.k2 2 rfl
 obtain ⟨aE, aF, aG, aH, -⟩ := hO.k2 3 rfl
 obtain ⟨aI, aJ, aK, aL, -⟩ := hO.k2 4 rfl
 obtain ⟨aM, aN, aO, aP, -⟩ := hO.k2 5 rfl
 obtain ⟨bl, bm, bn, bo, bp, bq, -⟩ := hO.k4 7 rfl
 obtain ⟨br, bs, bt, bu, bv, bw, -⟩ := hO.k4 8 rfl
 obtain ⟨bz, cA, cB, cC, -⟩ := hO.k2 9 rfl
 obtain ⟨aQ, aR, aS, aT, cD, aU, aV, -⟩ := hO.k5 10 rfl
 obtain ⟨aW, aX, cE, aY, aZ, -⟩ := hO.k3 11 rfl
 obtain ⟨aa, ac, ae, af, ag, ah, -⟩ := hO.k4 13 rfl
 obtain ⟨ai, aj, ak, al, -⟩ := hO.k2 14 rfl
 obtain ⟨am, an, ao, ap, -⟩ := hO.k2 15 rfl
 obtain ⟨aq, ar, au, av, aw, ax, -⟩ := hO.k4 16 rfl
 obtain ⟨ay, az, bA, bB, bC, bD, -⟩ := hO.k4 17 rfl
 obtain ⟨bE, bG, bH, bI, cF, cG, cH, cI, bJ, bK, -⟩ := hO.k8 18 rfl
 obtain ⟨bL, bM, cJ, cK, bN, bO, -⟩ := hO.k4 19 rfl
 obtain ⟨bP, bQ, bR, bS, bT, bU, bV, -⟩ := hO.k5 20 rfl
 obtain ⟨bW, bX, cL, cM, bY, bZ, -⟩ := hO.k4 21 rfl
 obtain ⟨cN, cO, cP, cQ, -⟩ := hO.k2 22 rfl
 obtain ⟨cR, cS, cT, cU, cV, cW, cX, -⟩ := hO.k5 23 rfl
 obtain ⟨cY, cZ, cb, cc, -⟩ := hO.k2 24 rfl
 have HO := Lib.hid hO
 clear hO
 go_wp2_with (first | (with_reducible refine Own.stay (fn := Tryd.f5) ?_) | (first | (go_at_call 16; go_in) | (go_at_call 24; go_in) | (go_at_call 15; go_in) | (go_at_call 17; go_in) | (go_at_call 27; go_in) | (go_at_call 28; go_in) | (go_at_call 29; go_in)))
 try with_reducible refine Own.Stay.mk ?_
 have hO := HO.out
 clear HO aA aB aC aD aE aF aG aH aI aJ aK aL aM aN aO aP bl bm bn bo bp bq br bs bt bu bv bw bz cA cB cC aQ aR aS aT cD aU aV aW aX cE aY aZ aa ac ae af ag ah ai aj ak al am an ao ap aq ar au av aw ax ay az bA bB bC bD bE bG bH bI cF cG cH cI bJ bK bL bM cJ cK bN bO bP bQ bR bS bT bU bV bW bX cL cM bY bZ cN cO cP cQ cR cS cT cU cV cW cX cY cZ cb cc
 obtain ⟨HL, HX⟩ := hid2 hO
 have hP9 := hO.pick [0, 1] (by decide)
 have h9_hn : (bump (stF0 [sy nm 0, sy (un nm) 0, sy ⟨#[95, 115, 116, 97, 99, 107]⟩ 1, sy ⟨#[95, 95, 117, 115, 105, 110, 103]⟩ 1] 2 4) 4).length = 8 := rfl
 have h9_hnb : 8 ≤ 2000000 := (by omega)
 have h9_hnm9 : ∃ y : Sy, (bump (stF0 [sy nm 0, sy (un nm) 0, sy ⟨#[95, 115, 116, 97, 99, 107]⟩ 1, sy ⟨#[95, 95, 117, 115, 105, 110, 103]⟩ 1] 2 4) 4)[0]? = some y ∧ y.nm = nm := ⟨_, rfl, rfl⟩
 have T9 := symName pb PC sb2 c2 (bump (stF0 [sy nm 0, sy (un nm) 0, sy ⟨#[95, 115, 116, 97, 99, 107]⟩ 1, sy ⟨#[95, 95, 117, 115, 105, 110, 103]⟩ 1] 2 4) 4) 8 0 0 nm _ _ _ hP9 hk106 h9_hn h9_hnb h9_hnm9
 refine Calls.mono T9 ?_
 clear hP9 T9 h9_hn h9_hnb h9_hnm9
 rintro e uw4 ⟨rfl, hQ⟩
 replace hO : Own w0 uw4 [row (pb) 252 PC, row (sb2) 260 (full symZ (symL (bump (stF0 [sy nm 0, sy (un nm) 0, sy ⟨#[95, 115, 116, 97, 99, 107]⟩ 1, sy ⟨#[95, 95, 117, 115, 105, 110, 103]⟩ 1] 2 4) 4)) c2), row (B1_2) 31 #[vU 0, vU 1], row (B1_1) 31 #[vU 0, vU 1], row (B1) 47 #[.iface 134 (vP ib), vI 3], row (orf) 31 #[vU 0, vU 0], row (qb) 61 (full stmZ [.iface 42 (vP lb), vI 5, .iface 67 (vP yb), vI 5] qc), row (lb) 57 #[.slice (some ⟨ld, 0, none⟩) 1 1, .int .u8 0, bF, bF], row (ld) 54 #[.iface 134 (vP li), vI 5, .iface 315 (vP la), vI 5], row (li) 136 #[vU 0, vU 2], row (yb) 76 #[vP yc, vP yf, .slice (some ⟨tb, 0, none⟩) (m + 1) (m + 1 + tc), vI 0, vI 5], row (yf) 116 #[.slice (some ⟨fb, 0, none⟩) 1 1, vI 0, vI 5], row (tb) 61 (full stmZ (stL (dtL (adS nl ad) (lcS 5 lcB)) (List.range (m + 1))) tc), row (ini) 57 #[.slice (some ⟨dbx, 0, none⟩) 1 1, .int .u8 0, bF, bF], row (ib) 136 #[vU 0, vU 1], row (kb) 72 #[.slice (some ⟨qb, 0, none⟩) 2 (2 + qc), clv], row (nl) 57 #[.slice (some ⟨nd, 0, none⟩) 1 1, .int .u8 2, bF, bF], row (nd) 54 #[.iface 134 (vP ni), vI 3, .iface 261 (vP ca), vI 3], row (ca) 266 #[.iface 267 (vP b), vI 3, .slice (some ⟨ab, 0, none⟩) 2 2, vI 0, .int .u8 0, .int .u8 0, bF, bF], row (ab) 52 #[.iface 267 (vP a0), vI 3, .iface 267 (vP ne), vI 3], row (a0) 270 #[vU 0, vU 2, bF, bF, bF], row (dbx) 54 #[.iface 134 (vP ib), vI 3, .nilIface, vI 0], row (ni) 136 #[vU 0, vU 0], row (ne) 270 #[vU 0, vU 1, bF, bF, bF], row (bx) 61 #[.iface 110 (vP kb), vI lv]] X := hQ.back HL.out HX.out [2, 3, 4, 5, 6, 7, 8, 9, 10, 11, 12, 13, 14, 15, 16, 17, 18, 19, 20, 21, 22, 23, 24] (by decide) (by decide)
 clear hQ HL HX
 obtain ⟨ix9, hix9, hax9, hjx9⟩ := hO.ix
 have cy := hjx9 0 _ _ rfl
 have cz := hjx9 1 _ _ rfl
 have dA := hjx9 2 _ _ rfl
 have dB := hjx9 3 _ _ rfl
 have dC := hjx9 4 _ _ rfl
 have dD := hjx9 5 _ _ rfl
 have dE := hjx9 6 _ _ rfl
 have dF := hjx9 7 _ _ rfl
 have dG := hjx9 8 _ _ rfl
 have dH := hjx9 9 _ _ rfl
 have dI := hjx9 10 _ _ rfl
 have dJ := hjx9 11 _ _ rfl
 have dK := hjx9 12 _ _ rfl
 have dL := hjx9 13 _ _ rfl
 have dM := hjx9 14 _ _ rfl
 have dN := hjx9 15 _ _ rfl
 have dO := hjx9 16 _ _ rfl
 have dP := hjx9 17 _ _ rfl
 have dQ := hjx9 18 _ _ rfl
 have dR := hjx9 19 _ _ rfl
 have dS := hjx9 20 _ _ rfl
 have dT := hjx9 21 _ _ rfl
 have dU := hjx9 22 _ _ rfl
 have dV := hjx9 23 _ _ rfl
 have dW := hjx9 24 _ _ rfl
 clear hjx9
 have dX := hO.cell 0 rfl 106 hk106
 have ba := hO.lt 0 rfl
 have bb := hO.free 0 rfl
 have dY : uw4.cell? ⟨sb2, 1, none⟩ = some (.string nm) := hO.cell 1 rfl (1) ((full_at (symL_at _ 0 _ 1 _ rfl rfl)))
 have dZ : uw4.cell? ⟨sb2, 11, none⟩ = some (.string (un nm)) := hO.cell 1 rfl (11) ((full_at (symL_at _ 1 _ 1 _ rfl rfl)))
 have da : uw4.cell? ⟨sb2, 21, none⟩ = some (.string ⟨#[95, 115, 116, 97, 99, 107]⟩) := hO.cell 1 rfl (21) ((full_at (symL_at _ 2 _ 1 _ rfl rfl)))
 have dc : uw4.cell? ⟨sb2, 31, none⟩ = some (.string ⟨#[95, 95, 117, 115, 105, 110, 103]⟩) := hO.cell 1 rfl (31) ((full_at (symL_at _ 3 _ 1 _ rfl rfl)))
 have dd : uw4.cell? ⟨sb2, 41, none⟩ = some (.string ⟨#[95]⟩) := hO.cell 1 rfl (41) ((full_at (symL_at _ 4 _ 1 _ rfl rfl)))
 have de : uw4.cell? ⟨sb2, 51, none⟩ = some (.string ⟨#[95, 101, 114, 114, 111, 114]⟩) := hO.cell 1 rfl (51) ((full_at (symL_at _ 5 _ 1 _ rfl rfl)))
 have df : uw4.cell? ⟨sb2, 61, none⟩ = some (.string ⟨#[95, 104, 97, 115, 69, 114, 114, 111, 114]⟩) := hO.cell 1 rfl (61) ((full_at (symL_at _ 6 _ 1 _ rfl rfl)))
 have dg : uw4.cell? ⟨sb2, 71, none⟩ = some (.string ⟨#[95, 95, 99, 97, 108, 108, 68, 105, 115, 112, 111, 115, 101]⟩) := hO.cell 1 rfl (71) ((full_at (symL_at _ 7 _ 1 _ rfl rfl)))
 have dh := hO.lt 1 rfl
 have di := hO.free 1 rfl
 obtain ⟨aA, aB, aC, aD, dj⟩ := hO.k2 2 rfl
 obtain ⟨aE, aF, aG, aH, dk⟩ := hO.k2 3 rfl
 obtain ⟨aI, aJ, aK, aL, -⟩ := hO.k2 4 rfl
 obtain ⟨aM, aN, aO, aP, dl⟩ := hO.k2 5 rfl
 have dm : Base.plainAt uw4 (qb) = true := hO.plain 6 rfl
 have bc : uw4.cell? ⟨qb, 0, none⟩ = some (.iface 42 (vP lb)) := hO.cell 6 rfl (0) ((full_at rfl))
 have bd : uw4.cell? ⟨qb, 1, none⟩ = some (vI 5) := hO.cell 6 rfl (1) ((full_at rfl))
 have be : uw4.cell? ⟨qb, 2, none⟩ = some (.iface 67 (vP yb)) := hO.cell 6 rfl (2) ((full_at rfl))
 have dn : uw4.cell? ⟨qb, 3, none⟩ = some (vI 5) := hO.cell 6 rfl (3) ((full_at rfl))
 have bf := hO.lt 6 rfl
 have bg := hO.free 6 rfl
 obtain ⟨bl, bm, bn, bo, bp, bq, dp⟩ := hO.k4 7 rfl
 obtain ⟨br, bs, bt, bu, bv, bw, dq⟩ := hO.k4 8 rfl
 obtain ⟨bz, cA, cB, cC, dr⟩ := hO.k2 9 rfl
 obtain ⟨aQ, aR, aS, aT, cD, aU, aV, -⟩ := hO.k5 10 rfl
 obtain ⟨aW, aX, cE, aY, aZ, -⟩ := hO.k3 11 rfl
 have ds : Base.plainAt uw4 (tb) = true := hO.plain 12 rfl
 have bh : uw4.cell? ⟨tb, 0, none⟩ = some (.iface 42 (vP nl)) := hO.cell 12 rfl (0) ((full_at hc0))
 have bi : uw4.cell? ⟨tb, 1, none⟩ = some (vI 5) := hO.cell 12 rfl (1) ((full_at hc1))
 have bj := hO.lt 12 rfl
 have bk := hO.free 12 rfl
 obtain ⟨aa, ac, ae, af, ag, ah, dt⟩ := hO.k4 13 rfl
 obtain ⟨ai, aj, ak, al, du⟩ := hO.k2 14 rfl
 obtain ⟨am, an, ao, ap, -⟩ := hO.k2 15 rfl
 obtain ⟨aq, ar, au, av, aw, ax, dv⟩ := hO.k4 16 rfl
 obtain ⟨ay, az, bA, bB, bC, bD, dw⟩ := hO.k4 17 rfl
 obtain ⟨bE, bG, bH, bI, cF, cG, cH, cI, bJ, bK, -⟩ := hO.k8 18 rfl
 obtain ⟨bL, bM, cJ, cK, bN, bO, -⟩ := hO.k4 19 rfl
 obtain ⟨bP, bQ, bR, bS, bT, bU, bV, dx⟩ := hO.k5 20 rfl
 obtain ⟨bW, bX, cL, cM, bY, bZ, dy⟩ := hO.k4 21 rfl
 obtain ⟨cN, cO, cP, cQ, dz⟩ := hO.k2 22 rfl
 obtain ⟨cR, cS, cT, cU, cV, cW, cX, eA⟩ := hO.k5 23 rfl
 obtain ⟨cY, cZ, cb, cc, eB⟩ := hO.k2 24 rfl
 have HO := Lib.hid hO
 clear hO
 go_wp2_with (first | (with_reducible refine Own.stay (fn := Tryd.f5) ?_) | (first | (go_at_call 16; go_in) | (go_at_call 24; go_in) | (go_at_call 15; go_in) | (go_at_call 17; go_in) | (go_at_call 27; go_in) | (go_at_call 28; go_in) | (go_at_call 29; go_in)))
 try with_reducible refine Own.Stay.mk ?_
 have hO := HO.out
 clear HO hix9 hax9 cy cz dA dB dC dD dE dF dG dH dI dJ dK dL dM dN dO dP dQ dR dS dT dU dV dW ix9 dX ba bb dY dZ da dc dd de df dg dh di aA aB aC aD dj aE aF aG aH dk aI aJ aK aL aM aN aO aP dl dm bc bd be dn bf bg bl bm bn bo bp bq dp br bs bt bu bv bw dq bz cA cB cC dr aQ aR aS aT cD aU aV aW aX cE aY aZ ds bh bi bj bk aa ac ae af ag ah dt ai aj ak al du am an ao ap aq ar au av aw ax dv ay az bA bB bC bD dw bE bG bH bI cF cG cH cI bJ bK bL bM cJ cK bN bO bP bQ bR bS bT bU bV dx bW bX cL cM bY bZ dy cN cO cP cQ dz cR cS cT cU cV cW cX eA cY cZ cb cc eB
 generalize hW : World.alloc _ _ = W6
 have hN : Own w0 W6 [row (uw4.heap.size + 1 + 1 + 1 + 1 + 1 + 1 + 1 + 1 + 1 + 1 + 1 + 1 + 1 + 1 + 1 + 1) 31 #[vU 0, vU 1], row (uw4.heap.size + 1 + 1 + 1 + 1 + 1 + 1 + 1 + 1 + 1 + 1 + 1 + 1 + 1 + 1 + 1) 31 #[vU 0, vU 1], row (uw4.heap.size + 1 + 1 + 1 + 1 + 1 + 1 + 1 + 1 + 1 + 1 + 1 + 1 + 1 + 1) 52 #[.iface 267 (vP ne), vI 3], row (uw4.heap.size + 1 + 1 + 1 + 1 + 1 + 1 + 1 + 1 + 1 + 1 + 1 + 1 + 1) 31 #[vU 0, vU 2], row (uw4.heap.size + 1 + 1 + 1 + 1 + 1 + 1 + 1 + 1 + 1 + 1 + 1 + 1) 31 #[vU 0, vU 2], row (uw4.heap.size + 1 + 1 + 1 + 1 + 1 + 1 + 1 + 1 + 1 + 1 + 1) 52 #[.iface 267 (vP a0), vI 3], row (uw4.heap.size + 1 + 1 + 1 + 1 + 1 + 1 + 1 + 1 + 1 + 1) 52 #[.iface 261 (vP ca), vI 3], row (uw4.heap.size + 1 + 1 + 1 + 1 + 1 + 1 + 1 + 1 + 1) 31 #[vU 0, vU 0], row (uw4.heap.size + 1 + 1 + 1 + 1 + 1 + 1 + 1 + 1) 31 #[vU 0, vU 0], row (uw4.heap.size + 1 + 1 + 1 + 1 + 1 + 1 + 1) 47 #[.iface 134 (vP ni), vI 3], row (uw4.heap.size + 1 + 1 + 1 + 1 + 1 + 1) 61 #[.iface 42 (vP nl), vI 5], row (uw4.heap.size + 1 + 1 + 1 + 1 + 1) 61 #[.iface 67 (vP yb), vI 5], row (uw4.heap.size + 1 + 1 + 1 + 1) 31 #[vU 0, vU 2], row (uw4.heap.size + 1 + 1 + 1) 31 #[vU 0, vU 2], row (uw4.heap.size + 1 + 1) 47 #[.iface 134 (vP li), vI 5], row (uw4.heap.size + 1) 61 #[.iface 42 (vP lb), vI 5], row (uw4.heap.size) 61 #[.iface 110 (vP kb), vI lv], row (pb) 252 PC, row (sb2) 260 (full symZ (symL (bump (stF0 [sy nm 0, sy (un nm) 0, sy ⟨#[95, 115, 116, 97, 99, 107]⟩ 1, sy ⟨#[95, 95, 117, 115, 105, 110, 103]⟩ 1] 2 4) 4)) c2), row (B1_2) 31 #[vU 0, vU 1], row (B1_1) 31 #[vU 0, vU 1], row (B1) 47 #[.iface 134 (vP ib), vI 3], row (orf) 31 #[vU 0, vU 0], row (qb) 61 (full stmZ [.iface 42 (vP lb), vI 5, .iface 67 (vP yb), vI 5] qc), row (lb) 57 #[.slice (some ⟨ld, 0, none⟩) 1 1, .int .u8 0, bF, bF], row (ld) 54 #[.iface 134 (vP li), vI 5, .iface 315 (vP la), vI 5], row (li) 136 #[vU 0, vU 2], row (yb) 76 #[vP yc, vP yf, .slice (some ⟨tb, 0, none⟩) (m + 1) (m + 1 + tc), vI 0, vI 5], row (yf) 116 #[.slice (some ⟨fb, 0, none⟩) 1 1, vI 0, vI 5], row (tb) 61 (full stmZ (stL (dtL (adS nl ad) (lcS 5 lcB)) (List.range (m + 1))) tc), row (ini) 57 #[.slice (some ⟨dbx, 0, none⟩) 1 1, .int .u8 0, bF, bF], row (ib) 136 #[vU 0, vU 1], row (kb) 72 #[.slice (some ⟨qb, 0, none⟩) 2 (2 + qc), clv], row (nl) 57 #[.slice (some ⟨nd, 0, none⟩) 1 1, .int .u8 2, bF, bF], row (nd) 54 #[.iface 134 (vP ni), vI 3, .iface 261 (vP ca), vI 3], row (ca) 266 #[.iface 267 (vP b), vI 3, .slice (some ⟨ab, 0, none⟩) 2 2, vI 0, .int .u8 0, .int .u8 0, bF, bF], row (ab) 52 #[.iface 267 (vP a0), vI 3, .iface 267 (vP ne), vI 3], row (a0) 270 #[vU 0, vU 2, bF, bF, bF], row (dbx) 54 #[.iface 134 (vP ib), vI 3, .nilIface, vI 0], row (ni) 136 #[vU 0, vU 0], row (ne) 270 #[vU 0, vU 1, bF, bF, bF], row (bx) 61 #[.iface 110 (vP kb), vI lv]] X := by
  rw [← hW]
  exact (((((((((((((((((hO).alloc' _ (uw4.heap.size) (by simp)).alloc' _ (uw4.heap.size + 1) (by simp)).alloc' _ (uw4.heap.size + 1 + 1) (by simp)).alloc' _ (uw4.heap.size + 1 + 1 + 1) (by simp)).alloc' _ (uw4.heap.size + 1 + 1 + 1 + 1) (by simp)).alloc' _ (uw4.heap.size + 1 + 1 + 1 + 1 + 1) (by simp)).alloc' _ (uw4.heap.size + 1 + 1 + 1 + 1 + 1 + 1) (by simp)).alloc' _ (uw4.heap.size + 1 + 1 + 1 + 1 + 1 + 1 + 1) (by simp)).alloc' _ (uw4.heap.size + 1 + 1 + 1 + 1 + 1 + 1 + 1 + 1) (by simp)).alloc' _ (uw4.heap.size + 1 + 1 + 1 + 1 + 1 + 1 + 1 + 1 + 1) (by simp)).alloc' _ (uw4.heap.size + 1 + 1 + 1 + 1 + 1 + 1 + 1 + 1 + 1 + 1) (by simp)).alloc' _ (uw4.heap.size + 1 + 1 + 1 + 1 + 1 + 1 + 1 + 1 + 1 + 1 + 1) (by simp)).alloc' _ (uw4.heap.size + 1 + 1 + 1 + 1 + 1 + 1 + 1 + 1 + 1 + 1 + 1 + 1) (by simp)).alloc' _ (uw4.heap.size + 1 + 1 + 1 + 1 + 1 + 1 + 1 + 1 + 1 + 1 + 1 + 1 + 1) (by simp)).alloc' _ (uw4.heap.size + 1 + 1 + 1 + 1 + 1 + 1 + 1 + 1 + 1 + 1 + 1 + 1 + 1 + 1) (by simp)).alloc' _ (uw4.heap.size + 1 + 1 + 1 + 1 + 1 + 1 + 1 + 1 + 1 + 1 + 1 + 1 + 1 + 1 + 1) (by simp)).alloc' _ (uw4.heap.size + 1 + 1 + 1 + 1 + 1 + 1 + 1 + 1 + 1 + 1 + 1 + 1 + 1 + 1 + 1 + 1) (by simp)
 clear hW hO
 generalize uw4.heap.size + 1 + 1 + 1 + 1 + 1 + 1 + 1 + 1 + 1 + 1 + 1 + 1 + 1 + 1 + 1 + 1 = B5_16 at hN ⊢
 generalize uw4.heap.size + 1 + 1 + 1 + 1 + 1 + 1 + 1 + 1 + 1 + 1 + 1 + 1 + 1 + 1 + 1 = B5_15 at hN ⊢
 generalize uw4.heap.size + 1 + 1 + 1 + 1 + 1 + 1 + 1 + 1 + 1 + 1 + 1 + 1 + 1 + 1 = B5_14 at hN ⊢
 generalize uw4.heap.size + 1 + 1 + 1 + 1 + 1 + 1 + 1 + 1 + 1 + 1 + 1 + 1 + 1 = B5_13 at hN ⊢
 generalize uw4.heap.size + 1 + 1 + 1 + 1 + 1 + 1 + 1 + 1 + 1 + 1 + 1 + 1 = B5_12 at hN ⊢
 generalize uw4.heap.size + 1 + 1 + 1 + 1 + 1 + 1 + 1 + 1 + 1 + 1 + 1 = B5_11 at hN ⊢
 generalize uw4.heap.size + 1 + 1 + 1 + 1 + 1 + 1 + 1 + 1 + 1 + 1 = B5_10 at hN ⊢
 generalize uw4.heap.size + 1 + 1 + 1 + 1 + 1 + 1 + 1 + 1 + 1 = B5_9 at hN ⊢
 generalize uw4.heap.size + 1 + 1 + 1 + 1 + 1 + 1 + 1 + 1 = B5_8 at hN ⊢
 generalize uw4.heap.size + 1 + 1 + 1 + 1 + 1 + 1 + 1 = B5_7 at hN ⊢
 generalize uw4.heap.size + 1 + 1 + 1 + 1 + 1 + 1 = B5_6 at hN ⊢
 generalize uw4.heap.size + 1 + 1 + 1 + 1 + 1 = B5_5 at hN ⊢
 generalize uw4.heap.size + 1 + 1 + 1 + 1 = B5_4 at hN ⊢
 generalize uw4.heap.size + 1 + 1 + 1 = B5_3 at hN ⊢
 generalize uw4.heap.size + 1 + 1 = B5_2 at hN ⊢
 generalize uw4.heap.size + 1 = B5_1 at hN ⊢
 generalize uw4.heap.size = B5 at hN ⊢
 have hO := hN
 clear hN
 rw [HC9.out]
 exact HB.out _ _ _ _ _ _ _ _ _ _ _ _ _ _ _ _ _ _ _ _ _ _ _ _ _ _ _ _ _ _ _ _ _ _ _ _ _ _ _ _ _ _ _ _ _ _ _ _ _ _ _ _ _ _ _ _ _ _ _ _ _ _ _ _ _ _ _ _ _ _ _ _ _ _ _ _ _ _ _ _ _ _ _ _ _ _ _ _ _ _ _ _ _ _ _ _ _ _ _ _ _ _ _ _ _ _ _ _ _ _ _ _ _ _ _ _ _ _ _ _ _ _ _ _ _ _ _ _ _ _ _ _ _ _ _ _ _ _ _ _ _ _ _ _ _ _ _ _ _ _ _ _ _ _ _ _ _ _ _ _ _ _ _ _ _ _ _ _ _ _ _ _ _ _ _ _ _ _ _ _ _ _ _ _ _ _ _ _ _ _ _ _ _ _ _ _ _ _ _ _ _ _ _ _ _ _ _ _ _ _ _ _ _ _ _ _ _ _ _ _ _ _ _ _ _ _ _ _ _ _ _ _ _ _ _ _ _ _ _ _ _ _ _ _ _ _ _ _ _ _ _ _ _ _ _ _ _ _ _ _ _ _ _ _ _ _ _ _ _ _ _ _ _ _ _ _ _ _ _ _ _ _ _ _ _ _ _ _ _ _ _ _ _ _ _ _ _ _ _ _ _ _ _ _ _ _ _ _ _ _ _ _ _ _ _ _ _ _ _ _ _ _ _ _ _ _ _ _ _ _ _ _ _ _ _ _ _ _ _ _ _ _ _ _ _ _ _ _ _ _ _ _ _ _ _ _ _ _ _ _ _ _ _ (hO.sub [29] (by decide))
end Go.Proofs.YtikopplofkemlaaDoor.Use
namespace Go.Proofs.YtikopplofkemlaaDoor.Use
open Go.ChangeShapes Go.WideShapes Go.ChangeAt Go.RowKit Go.Sort Own
set_option linter.unusedVariables false

set_option maxRecDepth 100000 in
set_option maxHeartbeats 4000000 in
theorem tl46a1 (pb : Nat) (nm : ByteArray) (pt mu cs ini dbx ib bx : Nat) (lv : Int) (m : Nat) (ad : Nat → Nat) (orf cx qb qc lb ld li la yb yc yf fb sb2 c2 gb2 cg2 db cd ca b a0 ab a2 ac tr kb tb tc nl nd ni ne : Nat) (clv : Value) (PC QC KC : Array Value) (ul2 : List (Int × Int × Int)) (so : Option Addr) (wc : Nat) (nb : Int) (A0 A1 A2 A3 A4 A5 A6 A7 A8 A9 AA AB AC AD AE AF AG AH AI AJ AK AL AM AN AO AP AQ AR AS AT AU AV AW AX AY AZ B0 B2 B3 B4 B6 B7 B8 B9 BA BB BC BD BE BF BG BH BI BJ BK BL BM BN BO BP BQ BR BS BT BU BV BW BX BY BZ C0 C1 C2 C3 C4 C5 C6 C7 C8 C9 CA CB CC CD CE CF CG CH CI CJ CK CL CM CN CO CP CQ CR CS CT CU CV CW CX CY CZ E0 E1 E2 E3 E4 E5 E6 E7 E8 E9 EA EB EC ED EE EF EG EH EI EJ EK EL EM EN EO EP EQ ER ES ET EU EV EW EX EY EZ F0 F1 F2 F3 F4 F5 F6 F7 F8 F9 FA FB FC FD FE FF FG FH FI FJ FK FL FM FN FO FP FQ FR FS FT FU FV FW FX FY FZ G0 G1 G2 G3 G4 G5 G6 G7 G8 G9 GA GB GC GD GE GF GG GH GI GJ GK GL GM GN GO GP GQ GR GS GT GU GV GW GX GY GZ I0 I1 I2 I3 I4 I5 I6 I7 I8 I9 IA IB IC ID IE IF IG IH II IJ IK IL IM IN IO IP IQ IR IS IT IU IV IW IX IY IZ J0 J1 J2 J3 J4 J5 J6 J7 J8 J9 JA JB JC JD JE JF JG JH JI JJ JK JL JM JN JO JP JQ JR JS JT JU JV JW JX JY JZ M0 M1 M2 M3 M4 M5 M6 M7 M8 M9 MA MB MC MD ME MF MG MH MI MJ MK ML MM MN MO MP MQ MR MS MT MU MV MW MX MY MZ N0 N1 N2 N3 N4 N5 N6 N7 N8 N9 NA NB NC ND NE NF NG NH NI NJ NK NL NM NN NO NP NQ NR NS NT NU NV NW : Value) (w0 w : World) (X : Nat → Obj → Prop) (Q : Exit → Act → World → Prop) (hB : Hb46 m ad tb tc nl so wc w0 X Q) (hO : Own w0 w [row (orf) 31 #[vU 0, vU 0], row (qb) 61 (full stmZ [.iface 42 (vP lb), vI 5, .iface 67 (vP yb), vI 5] qc), row (lb) 57 #[.slice (some ⟨ld, 0, none⟩) 1 1, .int .u8 0, bF, bF], row (ld) 54 #[.iface 134 (vP li), vI 5, .iface 315 (vP la), vI 5], row (li) 136 #[vU 0, vU 2], row (yb) 76 #[vP yc, vP yf, .slice (some ⟨tb, 0, none⟩) (m + 1) (m + 1 + tc), vI 0, vI 5], row (yf) 116 #[.slice (some ⟨fb, 0, none⟩) 2 2, vI 0, vI 5], row (pb) 252 PC, row (sb2) 260 (full symZ (symL (bump (stF1 ([sy nm 0, sy (un nm) 0, sy ⟨#[95, 115, 116, 97, 99, 107]⟩ 1, sy ⟨#[95, 95, 117, 115, 105, 110, 103]⟩ 1]) 2 4) 4)) c2), row (tb) 61 (full stmZ (stL (dtL (adS nl ad) (lcS 5 lcB)) (List.range (m + 1))) tc), row (ini) 57 #[.slice (some ⟨dbx, 0, none⟩) 1 1, .int .u8 0, bF, bF], row (ib) 136 #[vU 0, vU 1], row (kb) 72 #[.slice (some ⟨qb, 0, none⟩) 2 (2 + qc), clv], row (nl) 57 #[.slice (some ⟨nd, 0, none⟩) 1 1, .int .u8 2, bF, bF], row (nd) 54 #[.iface 134 (vP ni), vI 3, .iface 261 (vP ca), vI 3], row (ca) 266 #[.iface 267 (vP b), vI 3, .slice (some ⟨ab, 0, none⟩) 3 (3 + ac), vI 0, .int .u8 0, .int .u8 0, bF, bF], row (ab) 52 (full expZ [.iface 267 (vP a0), vI 3, .iface 267 (vP ne), vI 3, .iface 271 (vP a2), vI 3] ac), row (a0) 270 #[vU 0, vU 2, bF, bF, bF], row (a2) 274 #[.bool true], row (dbx) 54 #[.iface 134 (vP ib), vI 3, .nilIface, vI 0], row (ni) 136 #[vU 0, vU 0], row (ne) 270 #[vU 0, vU 1, bF, bF, bF], row (bx) 61 #[.iface 110 (vP kb), vI lv]] X) (hk106 : PC[106]? = some (.slice (some ⟨sb2, 0, none⟩) 9 (9 + c2))) (hnm : nm.size ≤ 65536) (hm : m ≤ 4096) :
  Code.wp Tryd.prog rest46 Q ⟨#[.string nm, A0, .int .i64 nb, .bool true, A1, A2, A3, A4, A5, vP pb, vP cs, vP orf, vP ini, vP bx, .slice so m wc, A6, A7, A8, A9, AA, AB, AC, AD, AE, AF, AG, AH, AI, AJ, AK, AL, AM, AN, AO, AP, AQ, AR, AS, AT, AU, AV, AW, AX, AY, AZ, B0, B2, B3, B4, B6, B7, B8, B9, BA, BB, BC, BD, BE, BF, BG, BH, BI, BJ, BK, BL, BM, BN, BO, BP, BQ, BR, BS, BT, BU, BV, BW, BX, BY, BZ, C0, C1, C2, C3, C4, C5, C6, C7, C8, C9, CA, CB, CC, CD, CE, CF, CG, CH, CI, CJ, CK, CL, CM, CN, CO, CP, CQ, CR, CS, CT, CU, CV, CW, CX, CY, CZ, E0, E1, E2, E3, E4, E5, E6, E7, E8, E9, EA, EB, EC, ED, EE, EF, EG, EH, EI, EJ, EK, EL, EM, EN, EO, EP, EQ, ER, ES, ET, EU, EV, EW, EX, EY, EZ, F0, F1, F2, F3, F4, F5, F6, F7, F8, F9, FA, FB, FC, FD, FE, FF, FG, FH, FI, FJ, FK, FL, FM, FN, FO, FP, FQ, FR, FS, FT, FU, FV, FW, FX, FY, FZ, G0, G1, G2, G3, G4, G5, G6, G7, G8, G9, GA, GB, GC, GD, GE, GF, GG, GH, GI, GJ, GK, GL, GM, GN, GO, GP, GQ, GR, GS, GT, GU, GV, GW, GX, GY, GZ, I0, I1, I2, I3, I4, I5, I6, I7, I8, I9, IA, IB, IC, ID, IE, IF, IG, IH, II, IJ, IK, IL, IM, IN, IO, IP, IQ, IR, IS, IT, IU, IV, IW, IX, IY, IZ, J0, J1, J2, J3, J4, J5, J6, J7, J8, J9, JA, JB, JC, JD, JE, JF, JG, JH, JI, JJ, JK, JL, JM, JN, JO, JP, JQ, JR, JS, JT, JU, JV, JW, JX, JY, JZ, M0, M1, M2, M3, M4, M5, M6, M7, M8, M9, MA, MB, MC, MD, ME, MF, MG, MH, MI, MJ, MK, ML, MM, MN, MO, MP, MQ, MR, MS, MT, MU, MV, MW, MX, MY, MZ, N0, N1, N2, N3, N4, N5, N6, N7, N8, N9, NA, NB, NC, ND, NE, NF, NG, NH, NI, NJ, NK, NL, NM, NN, NO, NP, NQ, NR, NS, NT, NU, NV, NW], []⟩ w := by
 have HB := Lib.hid hB
 clear hB
 obtain ⟨c9, hc9⟩ : ∃ c, c = rest46b := ⟨_, rfl⟩
 have HC9 := Lib.hid hc9
 simp only [rest46b, Tryd.f5, Option.getD_some, cutC] at hc9
 simp only [rest46, Tryd.f5, Option.getD_some, cutC]
 rw [← hc9]
 clear hc9
 have hm9 : (m : Int) ≤ 4096 := by omega
 have hm8 : (0 : Int) ≤ (m : Int) := by omega
 have hq1 : ((m : Int) + 1 != 1 + (m : Int)) = false := by simp [Int.add_comm]
 have hq2 : (1 : Int) + (m : Int) = (m : Int) + 1 := Int.add_comm _ _
 have ha0 : (List.range (m + 1))[0]? = some 0 := by simp
 have hc0 : (stL (dtL (adS nl ad) (lcS 5 lcB)) (List.range (m + 1)))[0]? = some (.iface 42 (vP nl)) := stL_at0 (D := dtL (adS nl ad) (lcS 5 lcB)) (p := 0) ha0
 have hc1 : (stL (dtL (adS nl ad) (lcS 5 lcB)) (List.range (m + 1)))[1]? = some (vI 5) := stL_at1 (D := dtL (adS nl ad) (lcS 5 lcB)) (p := 0) ha0
 clear ha0
 obtain ⟨ci, cj, bO, bP, -⟩ := hO.k2 0 rfl
 obtain ⟨aA, aB, ck, cl, aC, aD, -⟩ := hO.k4 2 rfl
 obtain ⟨aE, aF, cm, cn, aG, aH, -⟩ := hO.k4 3 rfl
 obtain ⟨aI, aJ, aK, aL, -⟩ := hO.k2 4 rfl
 obtain ⟨aM, aN, co, cp, cq, aO, aP, -⟩ := hO.k5 5 rfl
 obtain ⟨bQ, bR, bS, bT, bU, -⟩ := hO.k3 6 rfl
 obtain ⟨aQ, aR, aS, aT, aU, aV, -⟩ := hO.k4 10 rfl
 obtain ⟨aW, aX, aY, aZ, -⟩ := hO.k2 11 rfl
 obtain ⟨bV, bW, bX, bY, -⟩ := hO.k2 12 rfl
 obtain ⟨aa, ae, af, ag, ah, ai, -⟩ := hO.k4 13 rfl
 obtain ⟨aj, ak, cr, ct, al, am, -⟩ := hO.k4 14 rfl
 obtain ⟨an, ao, cu, cv, cw, cy, cz, dA, ap, aq, -⟩ := hO.k8 15 rfl
 obtain ⟨ar, au, av, aw, dB, ax, ay, -⟩ := hO.k5 17 rfl
 obtain ⟨az, bA, bB, -⟩ := hO.k1 18 rfl
 obtain ⟨bZ, ba, bb, bc, bd, be, -⟩ := hO.k4 19 rfl
 obtain ⟨bC, bD, bE, bG, -⟩ := hO.k2 20 rfl
 obtain ⟨bH, dC, dD, dE, dF, bI, bJ, -⟩ := hO.k5 21 rfl
 obtain ⟨bK, bL, bM, bN, -⟩ := hO.k2 22 rfl
 have HO := Lib.hid hO
 clear hO
 have htn : (⟨#[95]⟩ : ByteArray) ++ nm = un nm := rfl
 have hnz2 : ¬ 9223372036854775807 < 1 + nm.size := by omega
 have hnz3 : (nm.size : Int) ≤ 8388608 := by omega
 go_wp2_with (first | (with_reducible refine Own.stay (fn := Tryd.f5) ?_) | (first | (go_at_call 16; go_in) | (go_at_call 24; go_in) | (go_at_call 15; go_in) | (go_at_call 17; go_in) | (go_at_call 27; go_in) | (go_at_call 28; go_in) | (go_at_call 29; go_in)))
 try with_reducible refine Own.Stay.mk ?_
 have hO := HO.out
 clear HO ci cj bO bP aA aB ck cl aC aD aE aF cm cn aG aH aI aJ aK aL aM aN co cp cq aO aP bQ bR bS bT bU aQ aR aS aT aU aV aW aX aY aZ bV bW bX bY aa ae af ag ah ai aj ak cr ct al am an ao cu cv cw cy cz dA ap aq ar au av aw dB ax ay az bA bB bZ ba bb bc bd be bC bD bE bG bH dC dD dE dF bI bJ bK bL bM bN
 generalize hW : World.alloc _ _ = W2
 have hN : Own w0 W2 [row (w.heap.size + 1 + 1) 31 #[vU 0, vU 1], row (w.heap.size + 1) 31 #[vU 0, vU 1], row (w.heap.size) 47 #[.iface 134 (vP ib), vI 3], row (orf) 31 #[vU 0, vU 0], row (qb) 61 (full stmZ [.iface 42 (vP lb), vI 5, .iface 67 (vP yb), vI 5] qc), row (lb) 57 #[.slice (some ⟨ld, 0, none⟩) 1 1, .int .u8 0, bF, bF], row (ld) 54 #[.iface 134 (vP li), vI 5, .iface 315 (vP la), vI 5], row (li) 136 #[vU 0, vU 2], row (yb) 76 #[vP yc, vP yf, .slice (some ⟨tb, 0, none⟩) (m + 1) (m + 1 + tc), vI 0, vI 5], row (yf) 116 #[.slice (some ⟨fb, 0, none⟩) 2 2, vI 0, vI 5], row (pb) 252 PC, row (sb2) 260 (full symZ (symL (bump (stF1 ([sy nm 0, sy (un nm) 0, sy ⟨#[95, 115, 116, 97, 99, 107]⟩ 1, sy ⟨#[95, 95, 117, 115, 105, 110, 103]⟩ 1]) 2 4) 4)) c2), row (tb) 61 (full stmZ (stL (dtL (adS nl ad) (lcS 5 lcB)) (List.range (m + 1))) tc), row (ini) 57 #[.slice (some ⟨dbx, 0, none⟩) 1 1, .int .u8 0, bF, bF], row (ib) 136 #[vU 0, vU 1], row (kb) 72 #[.slice (some ⟨qb, 0, none⟩) 2 (2 + qc), clv], row (nl) 57 #[.slice (some ⟨nd, 0, none⟩) 1 1, .int .u8 2, bF, bF], row (nd) 54 #[.iface 134 (vP ni), vI 3, .iface 261 (vP ca), vI 3], row (ca) 266 #[.iface 267 (vP b), vI 3, .slice (some ⟨ab, 0, none⟩) 3 (3 + ac), vI 0, .int .u8 0, .int .u8 0, bF, bF], row (ab) 52 (full expZ [.iface 267 (vP a0), vI 3, .iface 267 (vP ne), vI 3, .iface 271 (vP a2), vI 3] ac), row (a0) 270 #[vU 0, vU 2, bF, bF, bF], row (a2) 274 #[.bool true], row (dbx) 54 #[.iface 134 (vP ib), vI 3, .nilIface, vI 0], row (ni) 136 #[vU 0, vU 0], row (ne) 270 #[vU 0, vU 1, bF, bF, bF], row (bx) 61 #[.iface 110 (vP kb), vI lv]] X := by
  rw [← hW]
  exact (((hO).alloc' _ (w.heap.size) (by simp)).alloc' _ (w.heap.size + 1) (by simp)).alloc' _ (w.heap.size + 1 + 1) (by simp)
 clear hW hO
 generalize w.heap.size + 1 + 1 = B1_2 at hN ⊢
 generalize w.heap.size + 1 = B1_1 at hN ⊢
 generalize w.heap.size = B1 at hN ⊢
 have hO := hN
 clear hN
 obtain ⟨HL, HX⟩ := hid2 hO
 have hP9 := hO.pick [10, 11] (by decide)
 have h9_hn : (bump (stF1 [sy nm 0, sy (un nm) 0, sy ⟨#[95, 115, 116, 97, 99, 107]⟩ 1, sy ⟨#[95, 95, 117, 115, 105, 110, 103]⟩ 1] 2 4) 4).length = 9 := rfl
 have h9_hnb : 9 ≤ 2000000 := (by omega)
 have h9_hnm9 : ∃ y : Sy, (bump (stF1 [sy nm 0, sy (un nm) 0, sy ⟨#[95, 115, 116, 97, 99, 107]⟩ 1, sy ⟨#[95, 95, 117, 115, 105, 110, 103]⟩ 1] 2 4) 4)[1]? = some y ∧ y.nm = (un nm) := ⟨_, rfl, rfl⟩
 have T9 := symName pb PC sb2 c2 (bump (stF1 [sy nm 0, sy (un nm) 0, sy ⟨#[95, 115, 116, 97, 99, 107]⟩ 1, sy ⟨#[95, 95, 117, 115, 105, 110, 103]⟩ 1] 2 4) 4) 9 0 1 (un nm) _ _ _ hP9 hk106 h9_hn h9_hnb h9_hnm9
 refine Calls.mono T9 ?_
 clear hP9 T9 h9_hn h9_hnb h9_hnm9
 rintro e uw3 ⟨rfl, hQ⟩
 replace hO : Own w0 uw3 [row (pb) 252 PC, row (sb2) 260 (full symZ (symL (bump (stF1 [sy nm 0, sy (un nm) 0, sy ⟨#[95, 115, 116, 97, 99, 107]⟩ 1, sy ⟨#[95, 95, 117, 115, 105, 110, 103]⟩ 1] 2 4) 4)) c2), row (B1_2) 31 #[vU 0, vU 1], row (B1_1) 31 #[vU 0, vU 1], row (B1) 47 #[.iface 134 (vP ib), vI 3], row (orf) 31 #[vU 0, vU 0], row (qb) 61 (full stmZ [.iface 42 (vP lb), vI 5, .iface 67 (vP yb), vI 5] qc), row (lb) 57 #[.slice (some ⟨ld, 0, none⟩) 1 1, .int .u8 0, bF, bF], row (ld) 54 #[.iface 134 (vP li), vI 5, .iface 315 (vP la), vI 5], row (li) 136 #[vU 0, vU 2], row (yb) 76 #[vP yc, vP yf, .slice (some ⟨tb, 0, none⟩) (m + 1) (m + 1 + tc), vI 0, vI 5], row (yf) 116 #[.slice (some ⟨fb, 0, none⟩) 2 2, vI 0, vI 5], row (tb) 61 (full stmZ (stL (dtL (adS nl ad) (lcS 5 lcB)) (List.range (m + 1))) tc), row (ini) 57 #[.slice (some ⟨dbx, 0, none⟩) 1 1, .int .u8 0, bF, bF], row (ib) 136 #[vU 0, vU 1], row (kb) 72 #[.slice (some ⟨qb, 0, none⟩) 2 (2 + qc), clv], row (nl) 57 #[.slice (some ⟨nd, 0, none⟩) 1 1, .int .u8 2, bF, bF], row (nd) 54 #[.iface 134 (vP ni), vI 3, .iface 261 (vP ca), vI 3], row (ca) 266 #[.iface 267 (vP b), vI 3, .slice (some ⟨ab, 0, none⟩) 3 (3 + ac), vI 0, .int .u8 0, .int .u8 0, bF, bF], row (ab) 52 (full expZ [.iface 267 (vP a0), vI 3, .iface 267 (vP ne), vI 3, .iface 271 (vP a2), vI 3] ac), row (a0) 270 #[vU 0, vU 2, bF, bF, bF], row (a2) 274 #[.bool true], row (dbx) 54 #[.iface 134 (vP ib), vI 3, .nilIface, vI 0], row (ni) 136 #[vU 0, vU 0], row (ne) 270 #[vU 0, vU 1, bF, bF, bF], row (bx) 61 #[.iface 110 (vP kb), vI lv]] X := hQ.back HL.out HX.out [0, 1, 2, 3, 4, 5, 6, 7, 8, 9, 12, 13, 14, 15, 16, 17, 18, 19, 20, 21, 22, 23, 24, 25] (by decide) (by decide)
 clear hQ HL HX
 obtain ⟨aA, aB, aC, aD, -⟩ := hO.k2 2 rfl
 obtain ⟨aE, aF, aG, aH, -⟩ := hO.k2 3 rfl
 obtain ⟨aI, aJ, aK, aL, -⟩ := hO.k2 4 rfl
 obtain ⟨aM, aN, aO, aP, -⟩ := hO.k2 5 rfl
 obtain ⟨bf, bg, bh, bi, bj, bk, -⟩ := hO.k4 7 rfl
 obtain ⟨bl, bm, bn, bo, bp, bq, -⟩ := hO.k4 8 rfl
 obtain ⟨br, bs, bt, bu, -⟩ := hO.k2 9 rfl
 obtain ⟨aQ, aR, aS, aT, bv, aU, aV, -⟩ := hO.k5 10 rfl
 obtain ⟨aW, aX, bw, aY, aZ, -⟩ := hO.k3 11 rfl
 obtain ⟨aa, ae, af, ag, ah, ai, -⟩ := hO.k4 13 rfl
 obtain ⟨aj, ak, al, am, -⟩ := hO.k2 14 rfl
 obtain ⟨an, ao, ap, aq, -⟩ := hO.k2 15 rfl
 obtain ⟨bz, cA, cB, cC, cD, cE, -⟩ := hO.k4 16 rfl
 obtain ⟨ar, au, av, aw, ax, ay, -⟩ := hO.k4 17 rfl
 obtain ⟨az, cF, cG, cH, cI, cJ, cK, cL, bA, bB, -⟩ := hO.k8 18 rfl
 obtain ⟨bC, bD, cM, cN, cO, bE, bG, -⟩ := hO.k5 20 rfl
 obtain ⟨bH, bI, bJ, -⟩ := hO.k1 21 rfl
 obtain ⟨bK, bL, cP, cQ, bM, bN, -⟩ := hO.k4 22 rfl
 obtain ⟨cR, cS, cT, cU, -⟩ := hO.k2 23 rfl
 obtain ⟨cV, cW, cX, cY, cZ, cb, cc, -⟩ := hO.k5 24 rfl
 obtain ⟨ce, cf, cg, ch, -⟩ := hO.k2 25 rfl
 have HO := Lib.hid hO
 clear hO
 go_wp2_with (first | (with_reducible refine Own.stay (fn := Tryd.f5) ?_) | (first | (go_at_call 16; go_in) | (go_at_call 24; go_in) | (go_at_call 15; go_in) | (go_at_call 17; go_in) | (go_at_call 27; go_in) | (go_at_call 28; go_in) | (go_at_call 29; go_in)))
 try with_reducible refine Own.Stay.mk ?_
 have hO := HO.out
 clear HO aA aB aC aD aE aF aG aH aI aJ aK aL aM aN aO aP bf bg bh bi bj bk bl bm bn bo bp bq br bs bt bu aQ aR aS aT bv aU aV aW aX bw aY aZ aa ae af ag ah ai aj ak al am an ao ap aq bz cA cB cC cD cE ar au av aw ax ay az cF cG cH cI cJ cK cL bA bB bC bD cM cN cO bE bG bH bI bJ bK bL cP cQ bM bN cR cS cT cU cV cW cX cY cZ cb cc ce cf cg ch
 obtain ⟨HL, HX⟩ := hid2 hO
 have hP9 := hO.pick [0, 1] (by decide)
 have h9_hn : (bump (stF1 [sy nm 0, sy (un nm) 0, sy ⟨#[95, 115, 116, 97, 99, 107]⟩ 1, sy ⟨#[95, 95, 117, 115, 105, 110, 103]⟩ 1] 2 4) 4).length = 9 := rfl
 have h9_hnb : 9 ≤ 2000000 := (by omega)
 have h9_hnm9 : ∃ y : Sy, (bump (stF1 [sy nm 0, sy (un nm) 0, sy ⟨#[95, 115, 116, 97, 99, 107]⟩ 1, sy ⟨#[95, 95, 117, 115, 105, 110, 103]⟩ 1] 2 4) 4)[0]? = some y ∧ y.nm = nm := ⟨_, rfl, rfl⟩
 have T9 := symName pb PC sb2 c2 (bump (stF1 [sy nm 0, sy (un nm) 0, sy ⟨#[95, 115, 116, 97, 99, 107]⟩ 1, sy ⟨#[95, 95, 117, 115, 105, 110, 103]⟩ 1] 2 4) 4) 9 0 0 nm _ _ _ hP9 hk106 h9_hn h9_hnb h9_hnm9
 refine Calls.mono T9 ?_
 clear hP9 T9 h9_hn h9_hnb h9_hnm9
 rintro e uw4 ⟨rfl, hQ⟩
 replace hO : Own w0 uw4 [row (pb) 252 PC, row (sb2) 260 (full symZ (symL (bump (stF1 [sy nm 0, sy (un nm) 0, sy ⟨#[95, 115, 116, 97, 99, 107]⟩ 1, sy ⟨#[95, 95, 117, 115, 105, 110, 103]⟩ 1] 2 4) 4)) c2), row (B1_2) 31 #[vU 0, vU 1], row (B1_1) 31 #[vU 0, vU 1], row (B1) 47 #[.iface 134 (vP ib), vI 3], row (orf) 31 #[vU 0, vU 0], row (qb) 61 (full stmZ [.iface 42 (vP lb), vI 5, .iface 67 (vP yb), vI 5] qc), row (lb) 57 #[.slice (some ⟨ld, 0, none⟩) 1 1, .int .u8 0, bF, bF], row (ld) 54 #[.iface 134 (vP li), vI 5, .iface 315 (vP la), vI 5], row (li) 136 #[vU 0, vU 2], row (yb) 76 #[vP yc, vP yf, .slice (some ⟨tb, 0, none⟩) (m + 1) (m + 1 + tc), vI 0, vI 5], row (yf) 116 #[.slice (some ⟨fb, 0, none⟩) 2 2, vI 0, vI 5], row (tb) 61 (full stmZ (stL (dtL (adS nl ad) (lcS 5 lcB)) (List.range (m + 1))) tc), row (ini) 57 #[.slice (some ⟨dbx, 0, none⟩) 1 1, .int .u8 0, bF, bF], row (ib) 136 #[vU 0, vU 1], row (kb) 72 #[.slice (some ⟨qb, 0, none⟩) 2 (2 + qc), clv], row (nl) 57 #[.slice (some ⟨nd, 0, none⟩) 1 1, .int .u8 2, bF, bF], row (nd) 54 #[.iface 134 (vP ni), vI 3, .iface 261 (vP ca), vI 3], row (ca) 266 #[.iface 267 (vP b), vI 3, .slice (some ⟨ab, 0, none⟩) 3 (3 + ac), vI 0, .int .u8 0, .int .u8 0, bF, bF], row (ab) 52 (full expZ [.iface 267 (vP a0), vI 3, .iface 267 (vP ne), vI 3, .iface 271 (vP a2), vI 3] ac), row (a0) 270 #[vU 0, vU 2, bF, bF, bF], row (a2) 274 #[.bool true], row (dbx) 54 #[.iface 134 (vP ib), vI 3, .nilIface, vI 0], row (ni) 136 #[vU 0, vU 0], row (ne) 270 #[vU 0, vU 1, bF, bF, bF], row (bx) 61 #[.iface 110 (vP kb), vI lv]] X := hQ.back HL.out HX.out [2, 3, 4, 5, 6, 7, 8, 9, 10, 11, 12, 13, 14, 15, 16, 17, 18, 19, 20, 21, 22, 23, 24, 25] (by decide) (by decide)
 clear hQ HL HX
 obtain ⟨ix9, hix9, hax9, hjx9⟩ := hO.ix
 have dG := hjx9 0 _ _ rfl
 have dH := hjx9 1 _ _ rfl
 have dI := hjx9 2 _ _ rfl
 have dJ := hjx9 3 _ _ rfl
 have dK := hjx9 4 _ _ rfl
 have dL := hjx9 5 _ _ rfl
 have dM := hjx9 6 _ _ rfl
 have dN := hjx9 7 _ _ rfl
 have dO := hjx9 8 _ _ rfl
 have dP := hjx9 9 _ _ rfl
 have dQ := hjx9 10 _ _ rfl
 have dR := hjx9 11 _ _ rfl
 have dS := hjx9 12 _ _ rfl
 have dT := hjx9 13 _ _ rfl
 have dU := hjx9 14 _ _ rfl
 have dV := hjx9 15 _ _ rfl
 have dW := hjx9 16 _ _ rfl
 have dX := hjx9 17 _ _ rfl
 have dY := hjx9 18 _ _ rfl
 have dZ := hjx9 19 _ _ rfl
 have da := hjx9 20 _ _ rfl
 have dc := hjx9 21 _ _ rfl
 have dd := hjx9 22 _ _ rfl
 have de := hjx9 23 _ _ rfl
 have df := hjx9 24 _ _ rfl
 have dg := hjx9 25 _ _ rfl
 clear hjx9
 have dh := hO.cell 0 rfl 106 hk106
 have bO := hO.lt 0 rfl
 have bP := hO.free 0 rfl
 have di : uw4.cell? ⟨sb2, 1, none⟩ = some (.string nm) := hO.cell 1 rfl (1) ((full_at (symL_at _ 0 _ 1 _ rfl rfl)))
 have dj : uw4.cell? ⟨sb2, 11, none⟩ = some (.string (un nm)) := hO.cell 1 rfl (11) ((full_at (symL_at _ 1 _ 1 _ rfl rfl)))
 have dk : uw4.cell? ⟨sb2, 21, none⟩ = some (.string ⟨#[95, 115, 116, 97, 99, 107]⟩) := hO.cell 1 rfl (21) ((full_at (symL_at _ 2 _ 1 _ rfl rfl)))
 have dl : uw4.cell? ⟨sb2, 31, none⟩ = some (.string ⟨#[95, 95, 117, 115, 105, 110, 103]⟩) := hO.cell 1 rfl (31) ((full_at (symL_at _ 3 _ 1 _ rfl rfl)))
 have dm : uw4.cell? ⟨sb2, 41, none⟩ = some (.string ⟨#[95]⟩) := hO.cell 1 rfl (41) ((full_at (symL_at _ 4 _ 1 _ rfl rfl)))
 have dn : uw4.cell? ⟨sb2, 51, none⟩ = some (.string ⟨#[95, 101, 114, 114, 111, 114]⟩) := hO.cell 1 rfl (51) ((full_at (symL_at _ 5 _ 1 _ rfl rfl)))
 have dp : uw4.cell? ⟨sb2, 61, none⟩ = some (.string ⟨#[95, 104, 97, 115, 69, 114, 114, 111, 114]⟩) := hO.cell 1 rfl (61) ((full_at (symL_at _ 6 _ 1 _ rfl rfl)))
 have dq : uw4.cell? ⟨sb2, 71, none⟩ = some (.string ⟨#[95, 95, 99, 97, 108, 108, 68, 105, 115, 112, 111, 115, 101]⟩) := hO.cell 1 rfl (71) ((full_at (symL_at _ 7 _ 1 _ rfl rfl)))
 have dr : uw4.cell? ⟨sb2, 81, none⟩ = some (.string ⟨#[95, 112, 114, 111, 109, 105, 115, 101]⟩) := hO.cell 1 rfl (81) ((full_at (symL_at _ 8 _ 1 _ rfl rfl)))
 have ds := hO.lt 1 rfl
 have dt := hO.free 1 rfl
 obtain ⟨aA, aB, aC, aD, du⟩ := hO.k2 2 rfl
 obtain ⟨aE, aF, aG, aH, dv⟩ := hO.k2 3 rfl
 obtain ⟨aI, aJ, aK, aL, -⟩ := hO.k2 4 rfl
 obtain ⟨aM, aN, aO, aP, dw⟩ := hO.k2 5 rfl
 have dx : Base.plainAt uw4 (qb) = true := hO.plain 6 rfl
 have bQ : uw4.cell? ⟨qb, 0, none⟩ = some (.iface 42 (vP lb)) := hO.cell 6 rfl (0) ((full_at rfl))
 have bR : uw4.cell? ⟨qb, 1, none⟩ = some (vI 5) := hO.cell 6 rfl (1) ((full_at rfl))
 have bS : uw4.cell? ⟨qb, 2, none⟩ = some (.iface 67 (vP yb)) := hO.cell 6 rfl (2) ((full_at rfl))
 have dy : uw4.cell? ⟨qb, 3, none⟩ = some (vI 5) := hO.cell 6 rfl (3) ((full_at rfl))
 have bT := hO.lt 6 rfl
 have bU := hO.free 6 rfl
 obtain ⟨bf, bg, bh, bi, bj, bk, dz⟩ := hO.k4 7 rfl
 obtain ⟨bl, bm, bn, bo, bp, bq, eA⟩ := hO.k4 8 rfl
 obtain ⟨br, bs, bt, bu, eB⟩ := hO.k2 9 rfl
 obtain ⟨aQ, aR, aS, aT, bv, aU, aV, -⟩ := hO.k5 10 rfl
 obtain ⟨aW, aX, bw, aY, aZ, -⟩ := hO.k3 11 rfl
 have eC : Base.plainAt uw4 (tb) = true := hO.plain 12 rfl
 have bV : uw4.cell? ⟨tb, 0, none⟩ = some (.iface 42 (vP nl)) := hO.cell 12 rfl (0) ((full_at hc0))
 have bW : uw4.cell? ⟨tb, 1, none⟩ = some (vI 5) := hO.cell 12 rfl (1) ((full_at hc1))
 have bX := hO.lt 12 rfl
 have bY := hO.free 12 rfl
 obtain ⟨aa, ae, af, ag, ah, ai, eD⟩ := hO.k4 13 rfl
 obtain ⟨aj, ak, al, am, eE⟩ := hO.k2 14 rfl
 obtain ⟨an, ao, ap, aq, -⟩ := hO.k2 15 rfl
 obtain ⟨bz, cA, cB, cC, cD, cE, eF⟩ := hO.k4 16 rfl
 obtain ⟨ar, au, av, aw, ax, ay, eG⟩ := hO.k4 17 rfl
 obtain ⟨az, cF, cG, cH, cI, cJ, cK, cL, bA, bB, -⟩ := hO.k8 18 rfl
 have bZ : uw4.cell? ⟨ab, 0, none⟩ = some (.iface 267 (vP a0)) := hO.cell 19 rfl (0) ((full_at rfl))
 have ba : uw4.cell? ⟨ab, 1, none⟩ = some (vI 3) := hO.cell 19 rfl (1) ((full_at rfl))
 have bb : uw4.cell? ⟨ab, 2, none⟩ = some (.iface 267 (vP ne)) := hO.cell 19 rfl (2) ((full_at rfl))
 have bc : uw4.cell? ⟨ab, 3, none⟩ = some (vI 3) := hO.cell 19 rfl (3) ((full_at rfl))
 have eH : uw4.cell? ⟨ab, 4, none⟩ = some (.iface 271 (vP a2)) := hO.cell 19 rfl (4) ((full_at rfl))
 have eI : uw4.cell? ⟨ab, 5, none⟩ = some (vI 3) := hO.cell 19 rfl (5) ((full_at rfl))
 have bd := hO.lt 19 rfl
 have be := hO.free 19 rfl
 obtain ⟨bC, bD, cM, cN, cO, bE, bG, eJ⟩ := hO.k5 20 rfl
 obtain ⟨bH, bI, bJ, -⟩ := hO.k1 21 rfl
 obtain ⟨bK, bL, cP, cQ, bM, bN, eK⟩ := hO.k4 22 rfl
 obtain ⟨cR, cS, cT, cU, eL⟩ := hO.k2 23 rfl
 obtain ⟨cV, cW, cX, cY, cZ, cb, cc, eM⟩ := hO.k5 24 rfl
 obtain ⟨ce, cf, cg, ch, eN⟩ := hO.k2 25 rfl
 have HO := Lib.hid hO
 clear hO
 go_wp2_with (first | (with_reducible refine Own.stay (fn := Tryd.f5) ?_) | (first | (go_at_call 16; go_in) | (go_at_call 24; go_in) | (go_at_call 15; go_in) | (go_at_call 17; go_in) | (go_at_call 27; go_in) | (go_at_call 28; go_in) | (go_at_call 29; go_in)))
 try with_reducible refine Own.Stay.mk ?_
 have hO := HO.out
 clear HO hix9 hax9 dG dH dI dJ dK dL dM dN dO dP dQ dR dS dT dU dV dW dX dY dZ da dc dd de df dg ix9 dh bO bP di dj dk dl dm dn dp dq dr ds dt aA aB aC aD du aE aF aG aH dv aI aJ aK aL aM aN aO aP dw dx bQ bR bS dy bT bU bf bg bh bi bj bk dz bl bm bn bo bp bq eA br bs bt bu eB aQ aR aS aT bv aU aV aW aX bw aY aZ eC bV bW bX bY aa ae af ag ah ai eD aj ak al am eE an ao ap aq bz cA cB cC cD cE eF ar au av aw ax ay eG az cF cG cH cI cJ cK cL bA bB bZ ba bb bc eH eI bd be bC bD cM cN cO bE bG eJ bH bI bJ bK bL cP cQ bM bN eK cR cS cT cU eL cV cW cX cY cZ cb cc eM ce cf cg ch eN
 generalize hW : World.alloc _ _ = W6
 have hN : Own w0 W6 [row (uw4.heap.size + 1 + 1 + 1 + 1 + 1 + 1 + 1 + 1 + 1 + 1 + 1 + 1 + 1 + 1 + 1 + 1 + 1) 52 #[.iface 271 (vP a2), vI 3], row (uw4.heap.size + 1 + 1 + 1 + 1 + 1 + 1 + 1 + 1 + 1 + 1 + 1 + 1 + 1 + 1 + 1 + 1) 31 #[vU 0, vU 1], row (uw4.heap.size + 1 + 1 + 1 + 1 + 1 + 1 + 1 + 1 + 1 + 1 + 1 + 1 + 1 + 1 + 1) 31 #[vU 0, vU 1], row (uw4.heap.size + 1 + 1 + 1 + 1 + 1 + 1 + 1 + 1 + 1 + 1 + 1 + 1 + 1 + 1) 52 #[.iface 267 (vP ne), vI 3], row (uw4.heap.size + 1 + 1 + 1 + 1 + 1 + 1 + 1 + 1 + 1 + 1 + 1 + 1 + 1) 31 #[vU 0, vU 2], row (uw4.heap.size + 1 + 1 + 1 + 1 + 1 + 1 + 1 + 1 + 1 + 1 + 1 + 1) 31 #[vU 0, vU 2], row (uw4.heap.size + 1 + 1 + 1 + 1 + 1 + 1 + 1 + 1 + 1 + 1 + 1) 52 #[.iface 267 (vP a0), vI 3], row (uw4.heap.size + 1 + 1 + 1 + 1 + 1 + 1 + 1 + 1 + 1 + 1) 52 #[.iface 261 (vP ca), vI 3], row (uw4.heap.size + 1 + 1 + 1 + 1 + 1 + 1 + 1 + 1 + 1) 31 #[vU 0, vU 0], row (uw4.heap.size + 1 + 1 + 1 + 1 + 1 + 1 + 1 + 1) 31 #[vU 0, vU 0], row (uw4.heap.size + 1 + 1 + 1 + 1 + 1 + 1 + 1) 47 #[.iface 134 (vP ni), vI 3], row (uw4.heap.size + 1 + 1 + 1 + 1 + 1 + 1) 61 #[.iface 42 (vP nl), vI 5], row (uw4.heap.size + 1 + 1 + 1 + 1 + 1) 61 #[.iface 67 (vP yb), vI 5], row (uw4.heap.size + 1 + 1 + 1 + 1) 31 #[vU 0, vU 2], row (uw4.heap.size + 1 + 1 + 1) 31 #[vU 0, vU 2], row (uw4.heap.size + 1 + 1) 47 #[.iface 134 (vP li), vI 5], row (uw4.heap.size + 1) 61 #[.iface 42 (vP lb), vI 5], row (uw4.heap.size) 61 #[.iface 110 (vP kb), vI lv], row (pb) 252 PC, row (sb2) 260 (full symZ (symL (bump (stF1 [sy nm 0, sy (un nm) 0, sy ⟨#[95, 115, 116, 97, 99, 107]⟩ 1, sy ⟨#[95, 95, 117, 115, 105, 110, 103]⟩ 1] 2 4) 4)) c2), row (B1_2) 31 #[vU 0, vU 1], row (B1_1) 31 #[vU 0, vU 1], row (B1) 47 #[.iface 134 (vP ib), vI 3], row (orf) 31 #[vU 0, vU 0], row (qb) 61 (full stmZ [.iface 42 (vP lb), vI 5, .iface 67 (vP yb), vI 5] qc), row (lb) 57 #[.slice (some ⟨ld, 0, none⟩) 1 1, .int .u8 0, bF, bF], row (ld) 54 #[.iface 134 (vP li), vI 5, .iface 315 (vP la), vI 5], row (li) 136 #[vU 0, vU 2], row (yb) 76 #[vP yc, vP yf, .slice (some ⟨tb, 0, none⟩) (m + 1) (m + 1 + tc), vI 0, vI 5], row (yf) 116 #[.slice (some ⟨fb, 0, none⟩) 2 2, vI 0, vI 5], row (tb) 61 (full stmZ (stL (dtL (adS nl ad) (lcS 5 lcB)) (List.range (m + 1))) tc), row (ini) 57 #[.slice (some ⟨dbx, 0, none⟩) 1 1, .int .u8 0, bF, bF], row (ib) 136 #[vU 0, vU 1], row (kb) 72 #[.slice (some ⟨qb, 0, none⟩) 2 (2 + qc), clv], row (nl) 57 #[.slice (some ⟨nd, 0, none⟩) 1 1, .int .u8 2, bF, bF], row (nd) 54 #[.iface 134 (vP ni), vI 3, .iface 261 (vP ca), vI 3], row (ca) 266 #[.iface 267 (vP b), vI 3, .slice (some ⟨ab, 0, none⟩) 3 (3 + ac), vI 0, .int .u8 0, .int .u8 0, bF, bF], row (ab) 52 (full expZ [.iface 267 (vP a0), vI 3, .iface 267 (vP ne), vI 3, .iface 271 (vP a2), vI 3] ac), row (a0) 270 #[vU 0, vU 2, bF, bF, bF], row (a2) 274 #[.bool true], row (dbx) 54 #[.iface 134 (vP ib), vI 3, .nilIface, vI 0], row (ni) 136 #[vU 0, vU 0], row (ne) 270 #[vU 0, vU 1, bF, bF, bF], row (bx) 61 #[.iface 110 (vP kb), vI lv]] X := by
  rw [← hW]
  exact ((((((((((((((((((hO).alloc' _ (uw4.heap.size) (by simp)).alloc' _ (uw4.heap.size + 1) (by simp)).alloc' _ (uw4.heap.size + 1 + 1) (by simp)).alloc' _ (uw4.heap.size + 1 + 1 + 1) (by simp)).alloc' _ (uw4.heap.size + 1 + 1 + 1 + 1) (by simp)).alloc' _ (uw4.heap.size + 1 + 1 + 1 + 1 + 1) (by simp)).alloc' _ (uw4.heap.size + 1 + 1 + 1 + 1 + 1 + 1) (by simp)).alloc' _ (uw4.heap.size + 1 + 1 + 1 + 1 + 1 + 1 + 1) (by simp)).alloc' _ (uw4.heap.size + 1 + 1 + 1 + 1 + 1 + 1 + 1 + 1) (by simp)).alloc' _ (uw4.heap.size + 1 + 1 + 1 + 1 + 1 + 1 + 1 + 1 + 1) (by simp)).alloc' _ (uw4.heap.size + 1 + 1 + 1 + 1 + 1 + 1 + 1 + 1 + 1 + 1) (by simp)).alloc' _ (uw4.heap.size + 1 + 1 + 1 + 1 + 1 + 1 + 1 + 1 + 1 + 1 + 1) (by simp)).alloc' _ (uw4.heap.size + 1 + 1 + 1 + 1 + 1 + 1 + 1 + 1 + 1 + 1 + 1 + 1) (by simp)).alloc' _ (uw4.heap.size + 1 + 1 + 1 + 1 + 1 + 1 + 1 + 1 + 1 + 1 + 1 + 1 + 1) (by simp)).alloc' _ (uw4.heap.size + 1 + 1 + 1 + 1 + 1 + 1 + 1 + 1 + 1 + 1 + 1 + 1 + 1 + 1) (by simp)).alloc' _ (uw4.heap.size + 1 + 1 + 1 + 1 + 1 + 1 + 1 + 1 + 1 + 1 + 1 + 1 + 1 + 1 + 1) (by simp)).alloc' _ (uw4.heap.size + 1 + 1 + 1 + 1 + 1 + 1 + 1 + 1 + 1 + 1 + 1 + 1 + 1 + 1 + 1 + 1) (by simp)).alloc' _ (uw4.heap.size + 1 + 1 + 1 + 1 + 1 + 1 + 1 + 1 + 1 + 1 + 1 + 1 + 1 + 1 + 1 + 1 + 1) (by simp)
 clear hW hO
 generalize uw4.heap.size + 1 + 1 + 1 + 1 + 1 + 1 + 1 + 1 + 1 + 1 + 1 + 1 + 1 + 1 + 1 + 1 + 1 = B5_17 at hN ⊢
 generalize uw4.heap.size + 1 + 1 + 1 + 1 + 1 + 1 + 1 + 1 + 1 + 1 + 1 + 1 + 1 + 1 + 1 + 1 = B5_16 at hN ⊢
 generalize uw4.heap.size + 1 + 1 + 1 + 1 + 1 + 1 + 1 + 1 + 1 + 1 + 1 + 1 + 1 + 1 + 1 = B5_15 at hN ⊢
 generalize uw4.heap.size + 1 + 1 + 1 + 1 + 1 + 1 + 1 + 1 + 1 + 1 + 1 + 1 + 1 + 1 = B5_14 at hN ⊢
 generalize uw4.heap.size + 1 + 1 + 1 + 1 + 1 + 1 + 1 + 1 + 1 + 1 + 1 + 1 + 1 = B5_13 at hN ⊢
 generalize uw4.heap.size + 1 + 1 + 1 + 1 + 1 + 1 + 1 + 1 + 1 + 1 + 1 + 1 = B5_12 at hN ⊢
 generalize uw4.heap.size + 1 + 1 + 1 + 1 + 1 + 1 + 1 + 1 + 1 + 1 + 1 = B5_11 at hN ⊢
 generalize uw4.heap.size + 1 + 1 + 1 + 1 + 1 + 1 + 1 + 1 + 1 + 1 = B5_10 at hN ⊢
 generalize uw4.heap.size + 1 + 1 + 1 + 1 + 1 + 1 + 1 + 1 + 1 = B5_9 at hN ⊢
 generalize uw4.heap.size + 1 + 1 + 1 + 1 + 1 + 1 + 1 + 1 = B5_8 at hN ⊢
 generalize uw4.heap.size + 1 + 1 + 1 + 1 + 1 + 1 + 1 = B5_7 at hN ⊢
 generalize uw4.heap.size + 1 + 1 + 1 + 1 + 1 + 1 = B5_6 at hN ⊢
 generalize uw4.heap.size + 1 + 1 + 1 + 1 + 1 = B5_5 at hN ⊢
 generalize uw4.heap.size + 1 + 1 + 1 + 1 = B5_4 at hN ⊢
 generalize uw4.heap.size + 1 + 1 + 1 = B5_3 at hN ⊢
 generalize uw4.heap.size + 1 + 1 = B5_2 at hN ⊢
 generalize uw4.heap.size + 1 = B5_1 at hN ⊢
 generalize uw4.heap.size = B5 at hN ⊢
 have hO := hN
 clear hN
 rw [HC9.out]
 exact HB.out _ _ _ _ _ _ _ _ _ _ _ _ _ _ _ _ _ _ _ _ _ _ _ _ _ _ _ _ _ _ _ _ _ _ _ _ _ _ _ _ _ _ _ _ _ _ _ _ _ _ _ _ _ _ _ _ _ _ _ _ _ _ _ _ _ _ _ _ _ _ _ _ _ _ _ _ _ _ _ _ _ _ _ _ _ _ _ _ _ _ _ _ _ _ _ _ _ _ _ _ _ _ _ _ _ _ _ _ _ _ _ _ _ _ _ _ _ _ _ _ _ _ _ _ _ _ _ _ _ _ _ _ _ _ _ _ _ _ _ _ _ _ _ _ _ _ _ _ _ _ _ _ _ _ _ _ _ _ _ _ _ _ _ _ _ _ _ _ _ _ _ _ _ _ _ _ _ _ _ _ _ _ _ _ _ _ _ _ _ _ _ _ _ _ _ _ _ _ _ _ _ _ _ _ _ _ _ _ _ _ _ _ _ _ _ _ _ _ _ _ _ _ _ _ _ _ _ _ _ _ _ _ _ _ _ _ _ _ _ _ _ _ _ _ _ _ _ _ _ _ _ _ _ _ _ _ _ _ _ _ _ _ _ _ _ _ _ _ _ _ _ _ _ _ _ _ _ _ _ _ _ _ _ _ _ _ _ _ _ _ _ _ _ _ _ _ _ _ _ _ _ _ _ _ _ _ _ _ _ _ _ _ _ _ _ _ _ _ _ _ _ _ _ _ _ _ _ _ _ _ _ _ _ _ _ _ _ _ _ _ _ _ _ _ _ _ _ _ _ _ _ _ _ _ _ _ _ _ _ _ _ _ _ (hO.sub [30] (by decide))
end Go.Proofs.YtikopplofkemlaaDoor.Use
namespace Go.Proofs.YtikopplofkemlaaDoor.Use
open Go.ChangeShapes Go.WideShapes Go.ChangeAt Go.RowKit Go.Sort Own
set_option linter.unusedVariables false
set_option maxRecDepth 100000 in
set_option maxHeartbeats 4000000 in
theorem tl460 (pb : Nat) (nm : ByteArray) (pt mu cs ini dbx ib bx : Nat) (lv : Int) (m : Nat) (ad : Nat → Nat) (orf cx qb qc lb ld li la yb yc yf fb sb2 c2 gb2 cg2 db cd ca b a0 ab tr kb tb tc nl nd ni ne : Nat) (clv : Value) (PC QC KC : Array Value) (ul2 : List (Int × Int × Int)) (so : Option Addr) (wc : Nat) (nb : Int) (A0 A1 A2 A3 A4 A5 A6 A7 A8 A9 AA AB AC AD AE AF AG AH AI AJ AK AL AM AN AO AP AQ AR AS AT AU AV AW AX AY AZ B0 B1 B2 B3 B4 B5 B6 B7 B8 B9 BA BB BC BD BE BF BG BH BI BJ BK BL BM BN BO BP BQ BR BS BT BU BV BW BX BY BZ C0 C1 C2 C3 C4 C5 C6 C7 C8 C9 CA CB CC CD CE CF CG CH CI CJ CK CL CM CN CO CP CQ CR CS CT CU CV CW CX CY CZ E0 E1 E2 E3 E4 E5 E6 E7 E8 E9 EA EB EC ED EE EF EG EH EI EJ EK EL EM EN EO EP EQ ER ES ET EU EV EW EX EY EZ F0 F1 F2 F3 F4 F5 F6 F7 F8 F9 FA FB FC FD FE FF FG FH FI FJ FK FL FM FN FO FP FQ FR FS FT FU FV FW FX FY FZ G0 G1 G2 G3 G4 G5 G6 G7 G8 G9 GA GB GC GD GE GF GG GH GI GJ GK GL GM GN GO GP GQ GR GS GT GU GV GW GX GY GZ I0 I1 I2 I3 I4 I5 I6 I7 I8 I9 IA IB IC ID IE IF IG IH II IJ IK IL IM IN IO IP IQ IR IS IT IU IV IW IX IY IZ J0 J1 J2 J3 J4 J5 J6 J7 J8 J9 JA JB JC JD JE JF JG JH JI JJ JK JL JM JN JO JP JQ JR JS JT JU JV JW JX JY JZ M0 M1 M2 M3 M4 M5 M6 M7 M8 M9 MA MB MC MD ME MF MG MH MI MJ MK ML MM MN MO MP MQ MR MS MT MU MV MW MX MY MZ N0 N1 N2 N3 N4 N5 N6 N7 N8 N9 NA NB NC ND NE NF NG NH NI NJ NK NL NM NN NO NP NQ NR NS NT NU : Value) (w0 w : World) (X : Nat → Obj → Prop) (Post : Ending → World → Prop) (hP : ∀ w3, Own w0 w3 [] X → Post (.returned (.bool true)) w3) (hO : Own w0 w [row (orf) 31 #[vU 0, vU 0], row (qb) 61 (full stmZ [.iface 42 (vP lb), vI 5, .iface 67 (vP yb), vI 5] qc), row (lb) 57 #[.slice (some ⟨ld, 0, none⟩) 1 1, .int .u8 0, bF, bF], row (ld) 54 #[.iface 134 (vP li), vI 5, .iface 315 (vP la), vI 5], row (li) 136 #[vU 0, vU 2], row (yb) 76 #[vP yc, vP yf, .slice (some ⟨tb, 0, none⟩) (m + 1) (m + 1 + tc), vI 0, vI 5], row (yf) 116 #[.slice (some ⟨fb, 0, none⟩) 1 1, vI 0, vI 5], row (pb) 252 PC, row (sb2) 260 (full symZ (symL (bump (stF0 ([sy nm 0, sy (un nm) 0, sy ⟨#[95, 115, 116, 97, 99, 107]⟩ 1, sy ⟨#[95, 95, 117, 115, 105, 110, 103]⟩ 1]) 2 4) 4)) c2), row (tb) 61 (full stmZ (stL (dtL (adS nl ad) (lcS 5 lcB)) (List.range (m + 1))) tc), row (ini) 57 #[.slice (some ⟨dbx, 0, none⟩) 1 1, .int .u8 0, bF, bF], row (ib) 136 #[vU 0, vU 1], row (kb) 72 #[.slice (some ⟨qb, 0, none⟩) 2 (2 + qc), clv], row (nl) 57 #[.slice (some ⟨nd, 0, none⟩) 1 1, .int .u8 2, bF, bF], row (nd) 54 #[.iface 134 (vP ni), vI 3, .iface 261 (vP ca), vI 3], row (ca) 266 #[.iface 267 (vP b), vI 3, .slice (some ⟨ab, 0, none⟩) 2 2, vI 0, .int .u8 0, .int .u8 0, bF, bF], row (ab) 52 #[.iface 267 (vP a0), vI 3, .iface 267 (vP ne), vI 3], row (a0) 270 #[vU 0, vU 2, bF, bF, bF], row (dbx) 54 #[.iface 134 (vP ib), vI 3, .nilIface, vI 0], row (ni) 136 #[vU 0, vU 0], row (ne) 270 #[vU 0, vU 1, bF, bF, bF], row (bx) 61 #[.iface 110 (vP kb), vI lv]] X) (hk106 : PC[106]? = some (.slice (some ⟨sb2, 0, none⟩) 8 (8 + c2))) (hnm : nm.size ≤ 65536) (hm : m ≤ 4096) (hso : 0 < m → ∃ b : Nat, so = some ⟨b, 0, none⟩ ∧ X b (.cells (full i32Z (tab wF m) 0) 21 (0, 0))) (hloc : ∀ i : Nat, i < m → X (ad i) (.cells #[vN, .int .u8 0, bF, bF] 57 (0, 0))) :
  Code.wp Tryd.prog rest46 (bodyPost Tryd.prog Tryd.f5 Post) ⟨#[.string nm, A0, .int .i64 nb, bF, A1, A2, A3, A4, A5, vP pb, vP cs, vP orf, vP ini, vP bx, .slice so m wc, A6, A7, A8, A9, AA, AB, AC, AD, AE, AF, AG, AH, AI, AJ, AK, AL, AM, AN, AO, AP, AQ, AR, AS, AT, AU, AV, AW, AX, AY, AZ, B0, B1, B2, B3, B4, B5, B6, B7, B8, B9, BA, BB, BC, BD, BE, BF, BG, BH, BI, BJ, BK, BL, BM, BN, BO, BP, BQ, BR, BS, BT, BU, BV, BW, BX, BY, BZ, C0, C1, C2, C3, C4, C5, C6, C7, C8, C9, CA, CB, CC, CD, CE, CF, CG, CH, CI, CJ, CK, CL, CM, CN, CO, CP, CQ, CR, CS, CT, CU, CV, CW, CX, CY, CZ, E0, E1, E2, E3, E4, E5, E6, E7, E8, E9, EA, EB, EC, ED, EE, EF, EG, EH, EI, EJ, EK, EL, EM, EN, EO, EP, EQ, ER, ES, ET, EU, EV, EW, EX, EY, EZ, F0, F1, F2, F3, F4, F5, F6, F7, F8, F9, FA, FB, FC, FD, FE, FF, FG, FH, FI, FJ, FK, FL, FM, FN, FO, FP, FQ, FR, FS, FT, FU, FV, FW, FX, FY, FZ, G0, G1, G2, G3, G4, G5, G6, G7, G8, G9, GA, GB, GC, GD, GE, GF, GG, GH, GI, GJ, GK, GL, GM, GN, GO, GP, GQ, GR, GS, GT, GU, GV, GW, GX, GY, GZ, I0, I1, I2, I3, I4, I5, I6, I7, I8, I9, IA, IB, IC, ID, IE, IF, IG, IH, II, IJ, IK, IL, IM, IN, IO, IP, IQ, IR, IS, IT, IU, IV, IW, IX, IY, IZ, J0, J1, J2, J3, J4, J5, J6, J7, J8, J9, JA, JB, JC, JD, JE, JF, JG, JH, JI, JJ, JK, JL, JM, JN, JO, JP, JQ, JR, JS, JT, JU, JV, JW, JX, JY, JZ, M0, M1, M2, M3, M4, M5, M6, M7, M8, M9, MA, MB, MC, MD, ME, MF, MG, MH, MI, MJ, MK, ML, MM, MN, MO, MP, MQ, MR, MS, MT, MU, MV, MW, MX, MY, MZ, N0, N1, N2, N3, N4, N5, N6, N7, N8, N9, NA, NB, NC, ND, NE, NF, NG, NH, NI, NJ, NK, NL, NM, NN, NO, NP, NQ, NR, NS, NT, NU], []⟩ w := by
 refine tl46a0 pb nm pt mu cs ini dbx ib bx lv m ad orf cx qb qc lb ld li la yb yc yf fb sb2 c2 gb2 cg2 db cd ca b a0 ab tr kb tb tc nl nd ni ne clv PC QC KC ul2 so wc nb _ _ _ _ _ _ _ _ _ _ _ _ _ _ _ _ _ _ _ _ _ _ _ _ _ _ _ _ _ _ _ _ _ _ _ _ _ _ _ _ _ _ _ _ _ _ _ _ _ _ _ _ _ _ _ _ _ _ _ _ _ _ _ _ _ _ _ _ _ _ _ _ _ _ _ _ _ _ _ _ _ _ _ _ _ _ _ _ _ _ _ _ _ _ _ _ _ _ _ _ _ _ _ _ _ _ _ _ _ _ _ _ _ _ _ _ _ _ _ _ _ _ _ _ _ _ _ _ _ _ _ _ _ _ _ _ _ _ _ _ _ _ _ _ _ _ _ _ _ _ _ _ _ _ _ _ _ _ _ _ _ _ _ _ _ _ _ _ _ _ _ _ _ _ _ _ _ _ _ _ _ _ _ _ _ _ _ _ _ _ _ _ _ _ _ _ _ _ _ _ _ _ _ _ _ _ _ _ _ _ _ _ _ _ _ _ _ _ _ _ _ _ _ _ _ _ _ _ _ _ _ _ _ _ _ _ _ _ _ _ _ _ _ _ _ _ _ _ _ _ _ _ _ _ _ _ _ _ _ _ _ _ _ _ _ _ _ _ _ _ _ _ _ _ _ _ _ _ _ _ _ _ _ _ _ _ _ _ _ _ _ _ _ _ _ _ _ _ _ _ _ _ _ _ _ _ _ _ _ _ _ _ _ _ _ _ _ _ _ _ _ _ _ _ _ _ _ _ _ _ _ _ _ _ _ _ _ _ _ _ _ _ _ _ _ _ _ _ _ _ _ _ _ _ _ w0 w X _ ?_ hO hk106 hnm hm
 unfold Hb46
 intro _ _ _ _ _ _ _ _ _ _ _ _ _ _ _ _ _ _ _ _ _ _ _ _ _ _ _ _ _ _ _ _ _ _ _ _ _ _ _ _ _ _ _ _ _ _ _ _ _ _ _ _ _ _ _ _ _ _ _ _ _ _ _ _ _ _ _ _ _ _ _ _ _ _ _ _ _ _ _ _ _ _ _ _ _ _ _ _ _ _ _ _ _ _ _ _ _ _ _ _ _ _ _ _ _ _ _ _ _ _ _ _ _ _ _ _ _ _ _ _ _ _ _ _ _ _ _ _ _ _ _ _ _ _ _ _ _ _ _ _ _ _ _ _ _ _ _ _ _ _ _ _ _ _ _ _ _ _ _ _ _ _ _ _ _ _ _ _ _ _ _ _ _ _ _ _ _ _ _ _ _ _ _ _ _ _ _ _ _ _ _ _ _ _ _ _ _ _ _ _ _ _ _ _ _ _ _ _ _ _ _ _ _ _ _ _ _ _ _ _ _ _ _ _ _ _ _ _ _ _ _ _ _ _ _ _ _ _ _ _ _ _ _ _ _ _ _ _ _ _ _ _ _ _ _ _ _ _ _ _ _ _ _ _ _ _ _ _ _ _ _ _ _ _ _ _ _ _ _ _ _ _ _ _ _ _ _ _ _ _ _ _ _ _ _ _ _ _ _ _ _ _ _ _ _ _ _ _ _ _ _ _ _ _ _ _ _ _ _ _ _ _ _ _ _ _ _ _ _ _ _ _ _ _ _ _ _ _ _ _ _ _ _ _ _ _ _ _ _ _ _ _ _ _ _ _ _ _ _ _ _ _ w2 hQ
 exact tl46b m ad tb tc nl so wc _ _ _ _ _ _ _ _ _ _ _ _ _ _ _ _ _ _ _ _ _ _ _ _ _ _ _ _ _ _ _ _ _ _ _ _ _ _ _ _ _ _ _ _ _ _ _ _ _ _ _ _ _ _ _ _ _ _ _ _ _ _ _ _ _ _ _ _ _ _ _ _ _ _ _ _ _ _ _ _ _ _ _ _ _ _ _ _ _ _ _ _ _ _ _ _ _ _ _ _ _ _ _ _ _ _ _ _ _ _ _ _ _ _ _ _ _ _ _ _ _ _ _ _ _ _ _ _ _ _ _ _ _ _ _ _ _ _ _ _ _ _ _ _ _ _ _ _ _ _ _ _ _ _ _ _ _ _ _ _ _ _ _ _ _ _ _ _ _ _ _ _ _ _ _ _ _ _ _ _ _ _ _ _ _ _ _ _ _ _ _ _ _ _ _ _ _ _ _ _ _ _ _ _ _ _ _ _ _ _ _ _ _ _ _ _ _ _ _ _ _ _ _ _ _ _ _ _ _ _ _ _ _ _ _ _ _ _ _ _ _ _ _ _ _ _ _ _ _ _ _ _ _ _ _ _ _ _ _ _ _ _ _ _ _ _ _ _ _ _ _ _ _ _ _ _ _ _ _ _ _ _ _ _ _ _ _ _ _ _ _ _ _ _ _ _ _ _ _ _ _ _ _ _ _ _ _ _ _ _ _ _ _ _ _ _ _ _ _ _ _ _ _ _ _ _ _ _ _ _ _ _ _ _ _ _ _ _ _ _ _ _ _ _ _ _ _ _ _ _ _ _ _ _ _ _ _ _ _ _ _ _ w0 w2 X Post hP hQ hm hso hloc
end Go.Proofs.YtikopplofkemlaaDoor.Use
namespace Go.Proofs.YtikopplofkemlaaDoor.Use
open Go.ChangeShapes Go.WideShapes Go.ChangeAt Go.RowKit Go.Sort Own
set_option linter.unusedVariables false
set_option maxRecDepth 100000 in
set_option maxHeartbeats 4000000 in
theorem tl461 (pb : Nat) (nm : ByteArray) (pt mu cs ini dbx ib bx : Nat) (lv : Int) (m : Nat) (ad : Nat → Nat) (orf cx qb qc lb ld li la yb yc yf fb sb2 c2 gb2 cg2 db cd ca b a0 ab a2 ac tr kb tb tc nl nd ni ne : Nat) (clv : Value) (PC QC KC : Array Value) (ul2 : List (Int × Int × Int)) (so : Option Addr) (wc : Nat) (nb : Int) (A0 A1 A2 A3 A4 A5 A6 A7 A8 A9 AA AB AC AD AE AF AG AH AI AJ AK AL AM AN AO AP AQ AR AS AT AU AV AW AX AY AZ B0 B1 B2 B3 B4 B5 B6 B7 B8 B9 BA BB BC BD BE BF BG BH BI BJ BK BL BM BN BO BP BQ BR BS BT BU BV BW BX BY BZ C0 C1 C2 C3 C4 C5 C6 C7 C8 C9 CA CB CC CD CE CF CG CH CI CJ CK CL CM CN CO CP CQ CR CS CT CU CV CW CX CY CZ E0 E1 E2 E3 E4 E5 E6 E7 E8 E9 EA EB EC ED EE EF EG EH EI EJ EK EL EM EN EO EP EQ ER ES ET EU EV EW EX EY EZ F0 F1 F2 F3 F4 F5 F6 F7 F8 F9 FA FB FC FD FE FF FG FH FI FJ FK FL FM FN FO FP FQ FR FS FT FU FV FW FX FY FZ G0 G1 G2 G3 G4 G5 G6 G7 G8 G9 GA GB GC GD GE GF GG GH GI GJ GK GL GM GN GO GP GQ GR GS GT GU GV GW GX GY GZ I0 I1 I2 I3 I4 I5 I6 I7 I8 I9 IA IB IC ID IE IF IG IH II IJ IK IL IM IN IO IP IQ IR IS IT IU IV IW IX IY IZ J0 J1 J2 J3 J4 J5 J6 J7 J8 J9 JA JB JC JD JE JF JG JH JI JJ JK JL JM JN JO JP JQ JR JS JT JU JV JW JX JY JZ M0 M1 M2 M3 M4 M5 M6 M7 M8 M9 MA MB MC MD ME MF MG MH MI MJ MK ML MM MN MO MP MQ MR MS MT MU MV MW MX MY MZ N0 N1 N2 N3 N4 N5 N6 N7 N8 N9 NA NB NC ND NE NF NG NH NI NJ NK NL NM NN NO NP NQ NR NS NT NU : Value) (w0 w : World) (X : Nat → Obj → Prop) (Post : Ending → World → Prop) (hP : ∀ w3, Own w0 w3 [] X → Post (.returned (.bool true)) w3) (hO : Own w0 w [row (orf) 31 #[vU 0, vU 0], row (qb) 61 (full stmZ [.iface 42 (vP lb), vI 5, .iface 67 (vP yb), vI 5] qc), row (lb) 57 #[.slice (some ⟨ld, 0, none⟩) 1 1, .int .u8 0, bF, bF], row (ld) 54 #[.iface 134 (vP li), vI 5, .iface 315 (vP la), vI 5], row (li) 136 #[vU 0, vU 2], row (yb) 76 #[vP yc, vP yf, .slice (some ⟨tb, 0, none⟩) (m + 1) (m + 1 + tc), vI 0, vI 5], row (yf) 116 #[.slice (some ⟨fb, 0, none⟩) 2 2, vI 0, vI 5], row (pb) 252 PC, row (sb2) 260 (full symZ (symL (bump (stF1 ([sy nm 0, sy (un nm) 0, sy ⟨#[95, 115, 116, 97, 99, 107]⟩ 1, sy ⟨#[95, 95, 117, 115, 105, 110, 103]⟩ 1]) 2 4) 4)) c2), row (tb) 61 (full stmZ (stL (dtL (adS nl ad) (lcS 5 lcB)) (List.range (m + 1))) tc), row (ini) 57 #[.slice (some ⟨dbx, 0, none⟩) 1 1, .int .u8 0, bF, bF], row (ib) 136 #[vU 0, vU 1], row (kb) 72 #[.slice (some ⟨qb, 0, none⟩) 2 (2 + qc), clv], row (nl) 57 #[.slice (some ⟨nd, 0, none⟩) 1 1, .int .u8 2, bF, bF], row (nd) 54 #[.iface 134 (vP ni), vI 3, .iface 261 (vP ca), vI 3], row (ca) 266 #[.iface 267 (vP b), vI 3, .slice (some ⟨ab, 0, none⟩) 3 (3 + ac), vI 0, .int .u8 0, .int .u8 0, bF, bF], row (ab) 52 (full expZ [.iface 267 (vP a0), vI 3, .iface 267 (vP ne), vI 3, .iface 271 (vP a2), vI 3] ac), row (a0) 270 #[vU 0, vU 2, bF, bF, bF], row (a2) 274 #[.bool true], row (dbx) 54 #[.iface 134 (vP ib), vI 3, .nilIface, vI 0], row (ni) 136 #[vU 0, vU 0], row (ne) 270 #[vU 0, vU 1, bF, bF, bF], row (bx) 61 #[.iface 110 (vP kb), vI lv]] X) (hk106 : PC[106]? = some (.slice (some ⟨sb2, 0, none⟩) 9 (9 + c2))) (hnm : nm.size ≤ 65536) (hm : m ≤ 4096) (hso : 0 < m → ∃ b : Nat, so = some ⟨b, 0, none⟩ ∧ X b (.cells (full i32Z (tab wF m) 0) 21 (0, 0))) (hloc : ∀ i : Nat, i < m → X (ad i) (.cells #[vN, .int .u8 0, bF, bF] 57 (0, 0))) :
  Code.wp Tryd.prog rest46 (bodyPost Tryd.prog Tryd.f5 Post) ⟨#[.string nm, A0, .int .i64 nb, .bool true, A1, A2, A3, A4, A5, vP pb, vP cs, vP orf, vP ini, vP bx, .slice so m wc, A6, A7, A8, A9, AA, AB, AC, AD, AE, AF, AG, AH, AI, AJ, AK, AL, AM, AN, AO, AP, AQ, AR, AS, AT, AU, AV, AW, AX, AY, AZ, B0, B1, B2, B3, B4, B5, B6, B7, B8, B9, BA, BB, BC, BD, BE, BF, BG, BH, BI, BJ, BK, BL, BM, BN, BO, BP, BQ, BR, BS, BT, BU, BV, BW, BX, BY, BZ, C0, C1, C2, C3, C4, C5, C6, C7, C8, C9, CA, CB, CC, CD, CE, CF, CG, CH, CI, CJ, CK, CL, CM, CN, CO, CP, CQ, CR, CS, CT, CU, CV, CW, CX, CY, CZ, E0, E1, E2, E3, E4, E5, E6, E7, E8, E9, EA, EB, EC, ED, EE, EF, EG, EH, EI, EJ, EK, EL, EM, EN, EO, EP, EQ, ER, ES, ET, EU, EV, EW, EX, EY, EZ, F0, F1, F2, F3, F4, F5, F6, F7, F8, F9, FA, FB, FC, FD, FE, FF, FG, FH, FI, FJ, FK, FL, FM, FN, FO, FP, FQ, FR, FS, FT, FU, FV, FW, FX, FY, FZ, G0, G1, G2, G3, G4, G5, G6, G7, G8, G9, GA, GB, GC, GD, GE, GF, GG, GH, GI, GJ, GK, GL, GM, GN, GO, GP, GQ, GR, GS, GT, GU, GV, GW, GX, GY, GZ, I0, I1, I2, I3, I4, I5, I6, I7, I8, I9, IA, IB, IC, ID, IE, IF, IG, IH, II, IJ, IK, IL, IM, IN, IO, IP, IQ, IR, IS, IT, IU, IV, IW, IX, IY, IZ, J0, J1, J2, J3, J4, J5, J6, J7, J8, J9, JA, JB, JC, JD, JE, JF, JG, JH, JI, JJ, JK, JL, JM, JN, JO, JP, JQ, JR, JS, JT, JU, JV, JW, JX, JY, JZ, M0, M1, M2, M3, M4, M5, M6, M7, M8, M9, MA, MB, MC, MD, ME, MF, MG, MH, MI, MJ, MK, ML, MM, MN, MO, MP, MQ, MR, MS, MT, MU, MV, MW, MX, MY, MZ, N0, N1, N2, N3, N4, N5, N6, N7, N8, N9, NA, NB, NC, ND, NE, NF, NG, NH, NI, NJ, NK, NL, NM, NN, NO, NP, NQ, NR, NS, NT, NU], []⟩ w := by
 refine tl46a1 pb nm pt mu cs ini dbx ib bx lv m ad orf cx qb qc lb ld li la yb yc yf fb sb2 c2 gb2 cg2 db cd ca b a0 ab a2 ac tr kb tb tc nl nd ni ne clv PC QC KC ul2 so wc nb _ _ _ _ _ _ _ _ _ _ _ _ _ _ _ _ _ _ _ _ _ _ _ _ _ _ _ _ _ _ _ _ _ _ _ _ _ _ _ _ _ _ _ _ _ _ _ _ _ _ _ _ _ _ _ _ _ _ _ _ _ _ _ _ _ _ _ _ _ _ _ _ _ _ _ _ _ _ _ _ _ _ _ _ _ _ _ _ _ _ _ _ _ _ _ _ _ _ _ _ _ _ _ _ _ _ _ _ _ _ _ _ _ _ _ _ _ _ _ _ _ _ _ _ _ _ _ _ _ _ _ _ _ _ _ _ _ _ _ _ _ _ _ _ _ _ _ _ _ _ _ _ _ _ _ _ _ _ _ _ _ _ _ _ _ _ _ _ _ _ _ _ _ _ _ _ _ _ _ _ _ _ _ _ _ _ _ _ _ _ _ _ _ _ _ _ _ _ _ _ _ _ _ _ _ _ _ _ _ _ _ _ _ _ _ _ _ _ _ _ _ _ _ _ _ _ _ _ _ _ _ _ _ _ _ _ _ _ _ _ _ _ _ _ _ _ _ _ _ _ _ _ _ _ _ _ _ _ _ _ _ _ _ _ _ _ _ _ _ _ _ _ _ _ _ _ _ _ _ _ _ _ _ _ _ _ _ _ _ _ _ _ _ _ _ _ _ _ _ _ _ _ _ _ _ _ _ _ _ _ _ _ _ _ _ _ _ _ _ _ _ _ _ _ _ _ _ _ _ _ _ _ _ _ _ _ _ _ _ _ _ _ _ _ _ _ _ _ _ _ _ _ _ _ _ w0 w X _ ?_ hO hk106 hnm hm
 unfold Hb46
 intro _ _ _ _ _ _ _ _ _ _ _ _ _ _ _ _ _ _ _ _ _ _ _ _ _ _ _ _ _ _ _ _ _ _ _ _ _ _ _ _ _ _ _ _ _ _ _ _ _ _ _ _ _ _ _ _ _ _ _ _ _ _ _ _ _ _ _ _ _ _ _ _ _ _ _ _ _ _ _ _ _ _ _ _ _ _ _ _ _ _ _ _ _ _ _ _ _ _ _ _ _ _ _ _ _ _ _ _ _ _ _ _ _ _ _ _ _ _ _ _ _ _ _ _ _ _ _ _ _ _ _ _ _ _ _ _ _ _ _ _ _ _ _ _ _ _ _ _ _ _ _ _ _ _ _ _ _ _ _ _ _ _ _ _ _ _ _ _ _ _ _ _ _ _ _ _ _ _ _ _ _ _ _ _ _ _ _ _ _ _ _ _ _ _ _ _ _ _ _ _ _ _ _ _ _ _ _ _ _ _ _ _ _ _ _ _ _ _ _ _ _ _ _ _ _ _ _ _ _ _ _ _ _ _ _ _ _ _ _ _ _ _ _ _ _ _ _ _ _ _ _ _ _ _ _ _ _ _ _ _ _ _ _ _ _ _ _ _ _ _ _ _ _ _ _ _ _ _ _ _ _ _ _ _ _ _ _ _ _ _ _ _ _ _ _ _ _ _ _ _ _ _ _ _ _ _ _ _ _ _ _ _ _ _ _ _ _ _ _ _ _ _ _ _ _ _ _ _ _ _ _ _ _ _ _ _ _ _ _ _ _ _ _ _ _ _ _ _ _ _ _ _ _ _ _ _ _ _ _ _ _ _ w2 hQ
 exact tl46b m ad tb tc nl so wc _ _ _ _ _ _ _ _ _ _ _ _ _ _ _ _ _ _ _ _ _ _ _ _ _ _ _ _ _ _ _ _ _ _ _ _ _ _ _ _ _ _ _ _ _ _ _ _ _ _ _ _ _ _ _ _ _ _ _ _ _ _ _ _ _ _ _ _ _ _ _ _ _ _ _ _ _ _ _ _ _ _ _ _ _ _ _ _ _ _ _ _ _ _ _ _ _ _ _ _ _ _ _ _ _ _ _ _ _ _ _ _ _ _ _ _ _ _ _ _ _ _ _ _ _ _ _ _ _ _ _ _ _ _ _ _ _ _ _ _ _ _ _ _ _ _ _ _ _ _ _ _ _ _ _ _ _ _ _ _ _ _ _ _ _ _ _ _ _ _ _ _ _ _ _ _ _ _ _ _ _ _ _ _ _ _ _ _ _ _ _ _ _ _ _ _ _ _ _ _ _ _ _ _ _ _ _ _ _ _ _ _ _ _ _ _ _ _ _ _ _ _ _ _ _ _ _ _ _ _ _ _ _ _ _ _ _ _ _ _ _ _ _ _ _ _ _ _ _ _ _ _ _ _ _ _ _ _ _ _ _ _ _ _ _ _ _ _ _ _ _ _ _ _ _ _ _ _ _ _ _ _ _ _ _ _ _ _ _ _ _ _ _ _ _ _ _ _ _ _ _ _ _ _ _ _ _ _ _ _ _ _ _ _ _ _ _ _ _ _ _ _ _ _ _ _ _ _ _ _ _ _ _ _ _ _ _ _ _ _ _ _ _ _ _ _ _ _ _ _ _ _ _ _ _ _ _ _ _ _ _ _ w0 w2 X Post hP hQ hm hso hloc
end Go.Proofs.YtikopplofkemlaaDoor.Use
