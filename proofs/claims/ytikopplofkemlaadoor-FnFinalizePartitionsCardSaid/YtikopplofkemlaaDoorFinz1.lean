/- finalize of statements that export nothing, walked. No condition. -/
import Derived.Test.YtikopplofkemlaaDoorAbb
import Derived.Test.YtikopplofkemlaaDoorFinB00
import Derived.Test.YtikopplofkemlaaDoorFinB10
import Derived.Test.YtikopplofkemlaaDoorFinA10
import Derived.Test.YtikopplofkemlaaDoorMsc
import Derived.Test.YtikopplofkemlaaDoorGtr
import Derived.Test.YtikopplofkemlaaDoorImp0
import Derived.Test.YtikopplofkemlaaDoorEls
import Derived.Test.YtikopplofkemlaaDoorUmp
import Derived.Test.YtikopplofkemlaaDoorLive
import Derived.Test.YtikopplofkemlaaDoorLoop
import Derived.Test.YtikopplofkemlaaDoorUms
import Derived.Test.YtikopplofkemlaaDoorAppL
import Derived.Test.YtikopplofkemlaaDoorApp
import Derived.Test.YtikopplofkemlaaDoorOwnK
import Derived.Test.YtikopplofkemlaaDoorOwn
import Derived.Test.YtikopplofkemlaaDoorDeepCells
import Derived.Test.YtikopplofkemlaaDoorRows
import Derived.Test.YtikopplofkemlaaDoorUse
namespace Go.Proofs.YtikopplofkemlaaDoor.Use
open Go.ChangeShapes Go.WideShapes Go.ChangeAt Go.RowKit Go.Sort Own
set_option linter.unusedVariables false
def finz1Post (pb : Nat) (PC : Array Value) (sb c : Nat) (st : List Sy) (n : Nat) (src : Int) (mp : Nat) (es : Array MapEntry) (k ms : Nat) (MC : Array Value) (pt : Nat) (QC : Array Value) (mu : Nat) (ul : List (Int × Int × Int)) (cs : Nat) (KC : Array Value) (cx : Nat) (loc : Int) (si tb : Nat) (D : Dt) (nn : Nat) (hst : Bool) (w0 : World) (X : Nat → Obj → Prop) (e : Ending) (w' : World) : Prop :=
 ∃ qb : Nat, ∃ qc : Nat, ∃ lb : Nat, ∃ ld : Nat, ∃ li : Nat, ∃ la : Nat, ∃ yb : Nat, ∃ yc : Nat, ∃ yf : Nat, ∃ fb : Nat, ∃ sb2 : Nat, ∃ c2 : Nat, ∃ gb2 : Nat, ∃ cg2 : Nat, ∃ db : Nat, ∃ cd : Nat, ∃ PC2 : Array Value, ∃ QC2 : Array Value, ∃ KC2 : Array Value, ∃ ul2 : List (Int × Int × Int), ∃ sa : Option Addr, e = .returned (.slice (some ⟨qb, 0, none⟩) ((outs D hst nn).length + 2) ((outs D hst nn).length + 2 + qc)) ∧ PC2[350]? = some (bF) ∧ PC2[32]? = some (bF) ∧ PC2[105]? = some (vP pt) ∧ PC2[106]? = some (.slice (some ⟨sb2, 0, none⟩) (n + 5) (n + 5 + c2)) ∧ QC2[4]? = some (.map (some mu)) ∧ QC2[3]? = some (.slice (some ⟨db, 0, none⟩) 5 (5 + cd)) ∧ KC2[5]? = some (.slice (some ⟨gb2, 0, none⟩) 6 (6 + cg2)) ∧ (0 < (ins D hst nn).length → sa = some ⟨tb, 0, none⟩) ∧ Own w0 w' [row (qb) 61 (full stmZ (stL D (outs D hst nn) ++ [.iface 42 (vP lb), vI loc, .iface 67 (vP yb), vI loc]) qc), row (lb) 57 #[.slice (some ⟨ld, 0, none⟩) 1 1, .int .u8 0, bF, bF], row (ld) 54 #[.iface 134 (vP li), vI loc, .iface 315 (vP la), vI loc], row (li) 136 #[vU src, vU (si : Int)], row (yb) 76 #[vP yc, vP yf, .slice sa (ins D hst nn).length nn, vI 0, vI loc], row (yf) 116 #[.slice (some ⟨fb, 0, none⟩) 2 2, vI 0, vI loc], row (pb) 252 PC2, row (sb2) 260 (full symZ (symL (bump (stF1 st si n) n)) c2), row (pt) 107 QC2, ((mu, .map (uA ul2) (uN ul2)) : Rw), row (cs) 99 KC2, row (gb2) 31 (full refZ ([vU src, vU (si : Int), vU src, vU (n : Int), vU src, vU (n + 1 : Int), vU src, vU (n + 1 + 1 : Int), vU src, vU (n + 1 + 1 + 1 + 1 : Int), vU src, vU (n + 1 + 1 + 1 + 1 : Int)]) cg2), row (db) 113 (full dsyZ [vU src, vU (si : Int), bF, vU src, vU (n : Int), bF, vU src, vU (n + 1 : Int), bF, vU src, vU (n + 1 + 1 : Int), bF, vU src, vU (n + 1 + 1 + 1 + 1 : Int), bF] cd), row (tb) 61 (full stmZ (stL D (arrI D hst nn nn)) 0)] X
set_option maxRecDepth 100000 in
set_option maxHeartbeats 4000000 in
theorem finz1 (pb : Nat) (PC : Array Value) (sb c : Nat) (st : List Sy) (n : Nat) (src : Int) (mp : Nat) (es : Array MapEntry) (k ms : Nat) (MC : Array Value) (pt : Nat) (QC : Array Value) (mu : Nat) (ul : List (Int × Int × Int)) (cs : Nat) (KC : Array Value) (cx : Nat) (loc : Int) (si tb : Nat) (D : Dt) (nn : Nat) (hst : Bool) (w0 w : World) (X : Nat → Obj → Prop) (hO : Own w0 w [row (cx) 33 #[vI loc, vU src, vU (si : Int), .bool true], row (pb) 252 PC, row (sb) 260 (full symZ (symL st) c), ((mp, .map es k) : Rw), row (ms) 99 MC, row (pt) 107 QC, ((mu, .map (uA ul) (uN ul)) : Rw), row (cs) 99 KC, row (tb) 61 (full stmZ (stL D (List.range nn)) 0)] X) (hk350 : PC[350]? = some (bF)) (hk32 : PC[32]? = some (bF)) (hk105 : PC[105]? = some (vP pt)) (hk66 : PC[66]? = some (vU src)) (hk117 : PC[117]? = some (.map (some mp))) (hk187 : PC[187]? = some (vP ms)) (hk104 : PC[104]? = some (vP cs)) (hk333 : PC[333]? = some (bF)) (hk23 : PC[23]? = some (.int .u64 0)) (hk106 : PC[106]? = some (.slice (some ⟨sb, 0, none⟩) n (n + c))) (hn : st.length = n) (hnb : n ≤ 100000) (hsu : QC[4]? = some (.map (some mu))) (hds : QC[3]? = some (vN)) (hkind : KC[15]? = some (.int .u8 8)) (hgen : MC[5]? = some (vN)) (hcg : KC[5]? = some (vN)) (hsi : si < n) (hno : Instr.findNow .string (.string ⟨#[95, 95, 99, 97, 108, 108, 68, 105, 115, 112, 111, 115, 101]⟩) es.toList 0 = some none) (hnn : nn ≤ 5000) (hkd : ∀ i : Nat, i < nn → D.kd i < 4) (hloc : ∀ i : Nat, i < nn → D.kd i = 3 → ∃ lcs : List Value, X (D.ad i) (.cells lcs.toArray 57 (0, 0)) ∧ lcs[2]? = some (bF)) (hg0 : w0.cell? ⟨0, 0, none⟩ = some (vU 4294967295)) (hg1 : w0.cell? ⟨0, 1, none⟩ = some (vU 4294967295)) :
  Calls Tryd.prog 39 #[vP cx, vP pb, .slice (some ⟨tb, 0, none⟩) nn nn, .bool hst] w (finz1Post pb PC sb c st n src mp es k ms MC pt QC mu ul cs KC cx loc si tb D nn hst w0 X) := by
 go_enter Tryd.func39, Tryd.ntmps39
 obtain ⟨c9, hc9⟩ : ∃ c, c = restA := ⟨_, rfl⟩
 have HC9 := Lib.hid hc9
 simp only [restA, Tryd.f39, Option.getD_some, cutC] at hc9
 rw [← hc9]
 clear hc9
 have HLC := Lib.hid hloc
 clear hloc
 have HKD := Lib.hid hkd
 clear hkd
 have hn9 : (nn : Int) ≤ 5000 := by omega
 have hn8 : (0 : Int) ≤ (nn : Int) := by omega
 obtain ⟨c9_0_0, c9_0_1, c9_0_2, c9_0_3, lt9_0, y9_0, -⟩ := hO.k4 0 rfl
 have HO := Lib.hid hO
 clear hO
 go_wp2_with (first | (with_reducible refine Own.stay (fn := Tryd.f39) ?_) | (at_builtin; refine Own.appStop ?_) | fail)
 try with_reducible refine Own.Stay.mk ?_
 have hO := HO.out
 clear HO c9_0_0 c9_0_1 c9_0_2 c9_0_3 lt9_0 y9_0
 generalize hW : World.alloc _ _ = W2
 have hN : Own w0 W2 [row (w.heap.size + 1) 77 #[vN], row (w.heap.size) 25 #[vP pb], row (cx) 33 #[vI loc, vU src, vU (si : Int), .bool true], row (pb) 252 PC, row (sb) 260 (full symZ (symL st) c), ((mp, .map es k) : Rw), row (ms) 99 MC, row (pt) 107 QC, ((mu, .map (uA ul) (uN ul)) : Rw), row (cs) 99 KC, row (tb) 61 (full stmZ (stL D (List.range nn)) 0)] X := by
  rw [← hW]
  exact ((hO).alloc' _ (w.heap.size) (by simp)).alloc' _ (w.heap.size + 1) (by simp)
 clear hW hO
 generalize w.heap.size + 1 = B1_1 at hN ⊢
 generalize w.heap.size = B1 at hN ⊢
 have hO := hN
 clear hN
 have hL := hO.apart
 have hX := hO.apartX
 have HL0 := Lib.hid hL
 have HX0 := Lib.hid hX
 clear hL hX
 have hP9 := hO.pick [10] (by decide)
 generalize hX9 : Own.Rest _ _ X = X9 at hP9
 have hXY : ∀ b o, X b o → X9 b o := by rw [← hX9]; exact fun b o h => Or.inl h
 have HXE := Lib.hid hX9
 clear hX9
 have HXY := Lib.hid hXY
 clear hXY
 have hN : Own w0 W2 [row (tb) 61 (full stmZ (stL D (arrI D hst nn 0)) 0)] X9 := by rw [arrI_zero]; exact hP9
 clear hO hP9
 have hO := hN
 clear hN
 go_loopg [9, 11, 33] nn (fun gf s9 s11 s33 wx => ∃ i ew : Nat, i + gf = nn ∧ ew = (ins D hst i).length ∧ s33 = .int .i64 (i : Int) ∧ s11 = .int .i64 (ew : Int) ∧ ((outs D hst i = [] ∧ s9 = vN ∧ Own w0 wx [row (tb) 61 (full stmZ (stL D (arrI D hst nn i)) 0)] X9) ∨ (∃ rb rc r : Nat, r = (outs D hst i).length ∧ 0 < r ∧ s9 = .slice (some ⟨rb, 0, none⟩) r (r + rc) ∧ Own w0 wx [row (rb) 61 (full stmZ (stL D (outs D hst i)) rc), row (tb) 61 (full stmZ (stL D (arrI D hst nn i)) 0)] X9)))
 case atStart => exact ⟨0, 0, by omega, rfl, rfl, rfl, Or.inl ⟨rfl, rfl, hO⟩⟩
 obtain ⟨i, ew, hin, hew, rfl, rfl, hcase⟩ := hrel
 have hew2 : ew ≤ i := by rw [hew]; exact ins_len
 have hew9 : (ew : Int) ≤ 5000 := by omega
 have hew8 : (0 : Int) ≤ (ew : Int) := by omega
 have hi9 : (i : Int) ≤ 5000 := by omega
 have hi8 : (0 : Int) ≤ (i : Int) := by omega
 have HEW := Lib.hid hew
 clear hew
 by_cases hlt : i < nn
 ·skip
  obtain ⟨gq, rfl⟩ : ∃ gq, gk = gq + 1 := ⟨gk - 1, by omega⟩
  have hlt9 : (i : Int) < (nn : Int) := by omega
  have ha0 : (arrI D hst nn i)[i]? = some i := arrI_at (by rw [← HEW.out]; exact hew2) hlt
  have ha1 : (arrI D hst nn i)[ew]? = some ew := arrI_at (by rw [← HEW.out]; exact Nat.le_refl _) (by omega)
  have hk4 := HKD.out i hlt
  have hc2 := stL_at0 (D := D) ha1
  have hc3 := stL_at1 (D := D) ha1
  have hc1 := stL_at1 (D := D) ha0
  have hc4 := stL_at0 (D := D) ha0
  have HA := Lib.hid (And.intro ha0 ha1)
  clear ha0 ha1
  have HC2 := Lib.hid hc2
  have HC3 := Lib.hid hc3
  have HC1 := Lib.hid hc1
  have HC4 := Lib.hid hc4
  clear hc1 hc2 hc3 hc4
  obtain ⟨hnil, rfl, hO⟩ | ⟨rb, rc, r, hr, hr0, rfl, hO⟩ := hcase
  ·skip
   by_cases hk : D.kd i = 1
   ·skip
    have ho : outB hst (D.kd i) = true := by rw [hk]; rfl
    have hc0 := HC4.out
    rw [hk] at hc0
    have hc0 : (stL D (arrI D hst nn i))[i * 2]? = some (.iface 278 (.pointer (some ⟨D.ad i, 0, none⟩))) := hc0
    have hc1 := HC1.out
    have hc2 := HC2.out
    have hc3 := HC3.out
    have HK := Lib.hid hk
    clear hk
    have HOU := Lib.hid ho
    clear ho
    have HR := Lib.hid hnil
    clear hnil
    obtain ⟨ix9, hix9, hax9, hjx9⟩ := hO.ix
    have ix9_0 : ix9 tb = 0 := hjx9 0 _ _ rfl
    clear hjx9
    have c9_0_i_2 : wr.cell? ⟨tb, i * 2, none⟩ = some (.iface 278 (.pointer (some ⟨D.ad i, 0, none⟩))) := hO.cell 0 rfl (i * 2) ((full_at hc0))
    have c9_0_i_2_1 : wr.cell? ⟨tb, i * 2 + 1, none⟩ = some (vI (D.lc i)) := hO.cell 0 rfl (i * 2 + 1) ((full_at hc1))
    have lt9_0 : tb < wr.heap.size := hO.lt 0 rfl
    have y9_0 : ∀ o, wr.frozen? ⟨tb, o, none⟩ = false := hO.free 0 rfl
    have HO := Lib.hid hO
    clear hO
    go_wp2_with (first | (with_reducible refine Own.stay (fn := Tryd.f39) ?_) | (at_builtin; refine Own.appStop ?_) | fail)
    try with_reducible refine Own.Stay.mk ?_
    have hO := HO.out
    clear HO hix9 hax9 ix9_0 ix9 c9_0_i_2 c9_0_i_2_1 lt9_0 y9_0
    generalize hW : World.alloc _ _ = W4
    have hN : Own w0 W4 [row (wr.heap.size + 1) 61 #[.iface 278 (.pointer (some ⟨D.ad i, 0, none⟩)), vI (D.lc i)], row (wr.heap.size) 61 #[.iface 278 (.pointer (some ⟨D.ad i, 0, none⟩)), vI (D.lc i)], row (tb) 61 (full stmZ (stL D (arrI D hst nn i)) 0)] X9 := by
     rw [← hW]
     exact ((hO).alloc' _ (wr.heap.size) (by simp)).alloc' _ (wr.heap.size + 1) (by simp)
    clear hW hO
    generalize wr.heap.size + 1 = B3_1 at hN ⊢
    generalize wr.heap.size = B3 at hN ⊢
    have hO := hN
    clear hN
    refine Own.AppStop.mk ?_
    obtain ⟨i9, hi9, z1, z2, z3⟩ := info_parts infoStm
    have hL := hO.apart
    have hX := hO.apartX
    have HL := Lib.hid hL
    have HX := Lib.hid hX
    clear hL hX
    have hP9 := hO.pick [0] (by decide)
    refine Own.wpList_append_full_nil rfl (.tmp 54) (.tmp 56) 40 rfl 61 i9 (.agg stmZ) 2 24 Tryd.underlying40 hi9 z1 z2 z3 hP9 rfl rfl rfl (by decide) (by first | decide | omega | (unfold maxLen; omega)) (by first | decide | omega | (unfold maxLen; omega)) ?_
    intro nd5 nc6 u7 hQ
    clear hP9
    have hN : Own w0 u7 [row (nd5) 61 (full stmZ [.iface 278 (.pointer (some ⟨D.ad i, 0, none⟩)), vI (D.lc i)] nc6), row (B3_1) 61 #[.iface 278 (.pointer (some ⟨D.ad i, 0, none⟩)), vI (D.lc i)], row (B3) 61 #[.iface 278 (.pointer (some ⟨D.ad i, 0, none⟩)), vI (D.lc i)], row (tb) 61 (full stmZ (stL D (arrI D hst nn i)) 0)] X9 := hQ.back HL.out HX.out [1, 2] (by decide) (by decide)
    clear hQ HL HX hO
    have hO := hN
    clear hN
    obtain ⟨c9_1_0, c9_1_1, lt9_1, y9_1, -⟩ := hO.k2 1 rfl
    obtain ⟨c9_2_0, c9_2_1, lt9_2, y9_2, -⟩ := hO.k2 2 rfl
    have HO := Lib.hid hO
    clear hO
    go_wp2_with (first | (with_reducible refine Own.stay (fn := Tryd.f39) ?_) | (at_builtin; refine Own.appStop ?_) | fail)
    try with_reducible refine Own.Stay.mk ?_
    have hO := HO.out
    clear HO c9_1_0 c9_1_1 lt9_1 y9_1 c9_2_0 c9_2_1 lt9_2 y9_2
    have hN : Own w0 u7 [row (nd5) 61 (full stmZ (stL D (outs D hst (i + 1))) nc6), row (tb) 61 (full stmZ (stL D (arrI D hst nn (i + 1))) 0)] X9 := (hO.sub [0, 3] (by decide)).conv (by
     rw [arrI_yes HOU.out, outs_yes HOU.out, stL_append, stL_one, stC, HK.out, HR.out]
     rfl)
    go_roundg gq
    case measure => omega
    case rel => exact ⟨i + 1, ew, by omega, by rw [ins_yes HOU.out]; exact HEW.out, by first | rfl | simp, rfl, Or.inr ⟨nd5, nc6, 1, by rw [outs_yes HOU.out, List.length_append, HR.out]; rfl, by omega, by first | rfl | simp, hN⟩⟩
   have HK1 := Lib.hid hk
   clear hk
   by_cases hk : D.kd i = 2
   ·skip
    have hhs : hst = true ∨ hst = false := by cases hst <;> simp
    obtain hhs | hhs := hhs
    ·skip
     obtain rfl : hst = true := hhs
     have ho : outB true (D.kd i) = true := by rw [hk]; rfl
     have hc0 := HC4.out
     rw [hk] at hc0
     have hc0 : (stL D (arrI D true nn i))[i * 2]? = some (.iface 281 (.pointer (some ⟨D.ad i, 0, none⟩))) := hc0
     have hc1 := HC1.out
     have hc2 := HC2.out
     have hc3 := HC3.out
     have HK := Lib.hid hk
     clear hk
     have HOU := Lib.hid ho
     clear ho
     have HR := Lib.hid hnil
     clear hnil
     obtain ⟨ix9, hix9, hax9, hjx9⟩ := hO.ix
     have ix9_0 : ix9 tb = 0 := hjx9 0 _ _ rfl
     clear hjx9
     have c9_0_i_2 : wr.cell? ⟨tb, i * 2, none⟩ = some (.iface 281 (.pointer (some ⟨D.ad i, 0, none⟩))) := hO.cell 0 rfl (i * 2) ((full_at hc0))
     have c9_0_i_2_1 : wr.cell? ⟨tb, i * 2 + 1, none⟩ = some (vI (D.lc i)) := hO.cell 0 rfl (i * 2 + 1) ((full_at hc1))
     have lt9_0 : tb < wr.heap.size := hO.lt 0 rfl
     have y9_0 : ∀ o, wr.frozen? ⟨tb, o, none⟩ = false := hO.free 0 rfl
     have HO := Lib.hid hO
     clear hO
     go_wp2_with (first | (with_reducible refine Own.stay (fn := Tryd.f39) ?_) | (at_builtin; refine Own.appStop ?_) | fail)
     try with_reducible refine Own.Stay.mk ?_
     have hO := HO.out
     clear HO hix9 hax9 ix9_0 ix9 c9_0_i_2 c9_0_i_2_1 lt9_0 y9_0
     generalize hW : World.alloc _ _ = W9
     have hN : Own w0 W9 [row (wr.heap.size + 1) 61 #[.iface 281 (.pointer (some ⟨D.ad i, 0, none⟩)), vI (D.lc i)], row (wr.heap.size) 61 #[.iface 281 (.pointer (some ⟨D.ad i, 0, none⟩)), vI (D.lc i)], row (tb) 61 (full stmZ (stL D (arrI D true nn i)) 0)] X9 := by
      rw [← hW]
      exact ((hO).alloc' _ (wr.heap.size) (by simp)).alloc' _ (wr.heap.size + 1) (by simp)
     clear hW hO
     generalize wr.heap.size + 1 = B8_1 at hN ⊢
     generalize wr.heap.size = B8 at hN ⊢
     have hO := hN
     clear hN
     refine Own.AppStop.mk ?_
     obtain ⟨i9, hi9, z1, z2, z3⟩ := info_parts infoStm
     have hL := hO.apart
     have hX := hO.apartX
     have HL := Lib.hid hL
     have HX := Lib.hid hX
     clear hL hX
     have hP9 := hO.pick [0] (by decide)
     refine Own.wpList_append_full_nil rfl (.tmp 71) (.tmp 73) 40 rfl 61 i9 (.agg stmZ) 2 24 Tryd.underlying40 hi9 z1 z2 z3 hP9 rfl rfl rfl (by decide) (by first | decide | omega | (unfold maxLen; omega)) (by first | decide | omega | (unfold maxLen; omega)) ?_
     intro nd10 nc11 u12 hQ
     clear hP9
     have hN : Own w0 u12 [row (nd10) 61 (full stmZ [.iface 281 (.pointer (some ⟨D.ad i, 0, none⟩)), vI (D.lc i)] nc11), row (B8_1) 61 #[.iface 281 (.pointer (some ⟨D.ad i, 0, none⟩)), vI (D.lc i)], row (B8) 61 #[.iface 281 (.pointer (some ⟨D.ad i, 0, none⟩)), vI (D.lc i)], row (tb) 61 (full stmZ (stL D (arrI D true nn i)) 0)] X9 := hQ.back HL.out HX.out [1, 2] (by decide) (by decide)
     clear hQ HL HX hO
     have hO := hN
     clear hN
     obtain ⟨c9_1_0, c9_1_1, lt9_1, y9_1, -⟩ := hO.k2 1 rfl
     obtain ⟨c9_2_0, c9_2_1, lt9_2, y9_2, -⟩ := hO.k2 2 rfl
     have HO := Lib.hid hO
     clear hO
     go_wp2_with (first | (with_reducible refine Own.stay (fn := Tryd.f39) ?_) | (at_builtin; refine Own.appStop ?_) | fail)
     try with_reducible refine Own.Stay.mk ?_
     have hO := HO.out
     clear HO c9_1_0 c9_1_1 lt9_1 y9_1 c9_2_0 c9_2_1 lt9_2 y9_2
     have hN : Own w0 u12 [row (nd10) 61 (full stmZ (stL D (outs D true (i + 1))) nc11), row (tb) 61 (full stmZ (stL D (arrI D true nn (i + 1))) 0)] X9 := (hO.sub [0, 3] (by decide)).conv (by
      rw [arrI_yes HOU.out, outs_yes HOU.out, stL_append, stL_one, stC, HK.out, HR.out]
      rfl)
     go_roundg gq
     case measure => omega
     case rel => exact ⟨i + 1, ew, by omega, by rw [ins_yes HOU.out]; exact HEW.out, by first | rfl | simp, rfl, Or.inr ⟨nd10, nc11, 1, by rw [outs_yes HOU.out, List.length_append, HR.out]; rfl, by omega, by first | rfl | simp, hN⟩⟩
    ·skip
     obtain rfl : hst = false := hhs
     have ho : outB false (D.kd i) = false := by rw [hk]; rfl
     have hc0 := HC4.out
     rw [hk] at hc0
     have hc0 : (stL D (arrI D false nn i))[i * 2]? = some (.iface 281 (.pointer (some ⟨D.ad i, 0, none⟩))) := hc0
     have hc1 := HC1.out
     have hc2 := HC2.out
     have hc3 := HC3.out
     have HK := Lib.hid hk
     clear hk
     have HOU := Lib.hid ho
     clear ho
     have HR := Lib.hid hnil
     clear hnil
     obtain ⟨ix9, hix9, hax9, hjx9⟩ := hO.ix
     have ix9_0 : ix9 tb = 0 := hjx9 0 _ _ rfl
     clear hjx9
     have c9_0_ew_2 : wr.cell? ⟨tb, ew * 2, none⟩ = some (.iface (stT (D.kd ew)) (.pointer (some ⟨D.ad ew, 0, none⟩))) := hO.cell 0 rfl (ew * 2) ((full_at hc2))
     have c9_0_ew_2_1 : wr.cell? ⟨tb, ew * 2 + 1, none⟩ = some (vI (D.lc ew)) := hO.cell 0 rfl (ew * 2 + 1) ((full_at hc3))
     have c9_0_i_2 : wr.cell? ⟨tb, i * 2, none⟩ = some (.iface 281 (.pointer (some ⟨D.ad i, 0, none⟩))) := hO.cell 0 rfl (i * 2) ((full_at hc0))
     have c9_0_i_2_1 : wr.cell? ⟨tb, i * 2 + 1, none⟩ = some (vI (D.lc i)) := hO.cell 0 rfl (i * 2 + 1) ((full_at hc1))
     have lt9_0 : tb < wr.heap.size := hO.lt 0 rfl
     have y9_0 : ∀ o, wr.frozen? ⟨tb, o, none⟩ = false := hO.free 0 rfl
     have HO := Lib.hid hO
     clear hO
     go_wp2_with (first | (with_reducible refine Own.stay (fn := Tryd.f39) ?_) | (at_builtin; refine Own.appStop ?_) | fail)
     try with_reducible refine Own.Stay.mk ?_
     have hO := HO.out
     clear HO hix9 hax9 ix9_0 ix9 c9_0_ew_2 c9_0_ew_2_1 c9_0_i_2 c9_0_i_2_1 lt9_0 y9_0
     generalize hW : World.alloc _ _ = W14
     have hN : Own w0 W14 [row (wr.heap.size) 61 #[.iface 281 (.pointer (some ⟨D.ad i, 0, none⟩)), vI (D.lc i)], row (tb) 61 (full stmZ (((stL D (arrI D false nn i)).set (ew * 2) (.iface 281 (.pointer (some ⟨D.ad i, 0, none⟩)))).set (ew * 2 + 1) (vI (D.lc i))) 0)] X9 := by
      rw [← hW]
      exact (((hO).setFull 0 rfl (ew * 2) hc2 _).setFull 0 rfl (ew * 2 + 1) (set_ne hc3 (by omega)) _).alloc' _ (wr.heap.size) (by simp)
     clear hW hO
     generalize wr.heap.size = B13 at hN ⊢
     have hO := hN
     clear hN
     have h9 := stL_set (D := D) (l := arrI D false nn i) (p := ew) i (by rw [arrI_len (by omega)]; omega)
     rw [show stT (D.kd i) = 281 from by rw [HK.out]; rfl] at h9
     have h8 := arrI_no (n := nn) HOU.out hlt
     rw [← HEW.out] at h8
     rw [h8] at h9
     have hN : Own w0 W14 [row (tb) 61 (full stmZ (stL D (arrI D false nn (i + 1))) 0)] X9 := (hO.sub [1] (by decide)).conv (by
      rw [← h9]
      rfl)
     clear h9 h8
     go_roundg gq
     case measure => omega
     case rel => exact ⟨i + 1, ew + 1, by omega, by rw [ins_no HOU.out, List.length_append, ← HEW.out]; rfl, by first | rfl | simp, by first | rfl | simp, Or.inl ⟨by rw [outs_no HOU.out]; exact HR.out, rfl, hN⟩⟩
   have HK2 := Lib.hid hk
   clear hk
   by_cases hk : D.kd i = 0
   ·skip
    have ho : outB hst (D.kd i) = false := by rw [hk]; rfl
    have hc0 := HC4.out
    rw [hk] at hc0
    have hc0 : (stL D (arrI D hst nn i))[i * 2]? = some (.iface 275 (.pointer (some ⟨D.ad i, 0, none⟩))) := hc0
    have hc1 := HC1.out
    have hc2 := HC2.out
    have hc3 := HC3.out
    have HK := Lib.hid hk
    clear hk
    have HOU := Lib.hid ho
    clear ho
    have HR := Lib.hid hnil
    clear hnil
    obtain ⟨ix9, hix9, hax9, hjx9⟩ := hO.ix
    have ix9_0 : ix9 tb = 0 := hjx9 0 _ _ rfl
    clear hjx9
    have c9_0_ew_2 : wr.cell? ⟨tb, ew * 2, none⟩ = some (.iface (stT (D.kd ew)) (.pointer (some ⟨D.ad ew, 0, none⟩))) := hO.cell 0 rfl (ew * 2) ((full_at hc2))
    have c9_0_ew_2_1 : wr.cell? ⟨tb, ew * 2 + 1, none⟩ = some (vI (D.lc ew)) := hO.cell 0 rfl (ew * 2 + 1) ((full_at hc3))
    have c9_0_i_2 : wr.cell? ⟨tb, i * 2, none⟩ = some (.iface 275 (.pointer (some ⟨D.ad i, 0, none⟩))) := hO.cell 0 rfl (i * 2) ((full_at hc0))
    have c9_0_i_2_1 : wr.cell? ⟨tb, i * 2 + 1, none⟩ = some (vI (D.lc i)) := hO.cell 0 rfl (i * 2 + 1) ((full_at hc1))
    have lt9_0 : tb < wr.heap.size := hO.lt 0 rfl
    have y9_0 : ∀ o, wr.frozen? ⟨tb, o, none⟩ = false := hO.free 0 rfl
    have HO := Lib.hid hO
    clear hO
    go_wp2_with (first | (with_reducible refine Own.stay (fn := Tryd.f39) ?_) | (at_builtin; refine Own.appStop ?_) | fail)
    try with_reducible refine Own.Stay.mk ?_
    have hO := HO.out
    clear HO hix9 hax9 ix9_0 ix9 c9_0_ew_2 c9_0_ew_2_1 c9_0_i_2 c9_0_i_2_1 lt9_0 y9_0
    generalize hW : World.alloc _ _ = W16
    have hN : Own w0 W16 [row (wr.heap.size) 61 #[.iface 275 (.pointer (some ⟨D.ad i, 0, none⟩)), vI (D.lc i)], row (tb) 61 (full stmZ (((stL D (arrI D hst nn i)).set (ew * 2) (.iface 275 (.pointer (some ⟨D.ad i, 0, none⟩)))).set (ew * 2 + 1) (vI (D.lc i))) 0)] X9 := by
     rw [← hW]
     exact (((hO).setFull 0 rfl (ew * 2) hc2 _).setFull 0 rfl (ew * 2 + 1) (set_ne hc3 (by omega)) _).alloc' _ (wr.heap.size) (by simp)
    clear hW hO
    generalize wr.heap.size = B15 at hN ⊢
    have hO := hN
    clear hN
    have h9 := stL_set (D := D) (l := arrI D hst nn i) (p := ew) i (by rw [arrI_len (by omega)]; omega)
    rw [show stT (D.kd i) = 275 from by rw [HK.out]; rfl] at h9
    have h8 := arrI_no (n := nn) HOU.out hlt
    rw [← HEW.out] at h8
    rw [h8] at h9
    have hN : Own w0 W16 [row (tb) 61 (full stmZ (stL D (arrI D hst nn (i + 1))) 0)] X9 := (hO.sub [1] (by decide)).conv (by
     rw [← h9]
     rfl)
    clear h9 h8
    go_roundg gq
    case measure => omega
    case rel => exact ⟨i + 1, ew + 1, by omega, by rw [ins_no HOU.out, List.length_append, ← HEW.out]; rfl, by first | rfl | simp, by first | rfl | simp, Or.inl ⟨by rw [outs_no HOU.out]; exact HR.out, rfl, hN⟩⟩
   replace hk : D.kd i = 3 := by have := HK1.out; have := HK2.out; omega
   ·skip
    have ho : outB hst (D.kd i) = false := by rw [hk]; rfl
    have hc0 := HC4.out
    rw [hk] at hc0
    have hc0 : (stL D (arrI D hst nn i))[i * 2]? = some (.iface 42 (.pointer (some ⟨D.ad i, 0, none⟩))) := hc0
    have hc1 := HC1.out
    have hc2 := HC2.out
    have hc3 := HC3.out
    obtain ⟨lcs, hlx, hle⟩ := HLC.out i hlt hk
    have hlx := HXY.out _ _ hlx
    have HK := Lib.hid hk
    clear hk
    have HOU := Lib.hid ho
    clear ho
    have HR := Lib.hid hnil
    clear hnil
    obtain ⟨ix9, hix9, hax9, hjx9⟩ := hO.ix
    have ix9_0 : ix9 tb = 0 := hjx9 0 _ _ rfl
    clear hjx9
    have c9_0_ew_2 : wr.cell? ⟨tb, ew * 2, none⟩ = some (.iface (stT (D.kd ew)) (.pointer (some ⟨D.ad ew, 0, none⟩))) := hO.cell 0 rfl (ew * 2) ((full_at hc2))
    have c9_0_ew_2_1 : wr.cell? ⟨tb, ew * 2 + 1, none⟩ = some (vI (D.lc ew)) := hO.cell 0 rfl (ew * 2 + 1) ((full_at hc3))
    have c9_0_i_2 : wr.cell? ⟨tb, i * 2, none⟩ = some (.iface 42 (.pointer (some ⟨D.ad i, 0, none⟩))) := hO.cell 0 rfl (i * 2) ((full_at hc0))
    have c9_0_i_2_1 : wr.cell? ⟨tb, i * 2 + 1, none⟩ = some (vI (D.lc i)) := hO.cell 0 rfl (i * 2 + 1) ((full_at hc1))
    have lt9_0 : tb < wr.heap.size := hO.lt 0 rfl
    have y9_0 : ∀ o, wr.frozen? ⟨tb, o, none⟩ = false := hO.free 0 rfl
    have HO := Lib.hid hO
    clear hO
    have fx0 : wr.cell? ⟨D.ad i, 2, none⟩ = some (bF) := Base.RowAt.cell (show Base.RowAt wr (D.ad i) 57 lcs.toArray from (HO.out.frame _ _ hlx).2.1) (by simpa using hle)
    have fx1 : D.ad i < wr.heap.size := Base.block_of_cell fx0
    go_wp2_with (first | (with_reducible refine Own.stay (fn := Tryd.f39) ?_) | (at_builtin; refine Own.appStop ?_) | fail)
    try with_reducible refine Own.Stay.mk ?_
    have hO := HO.out
    clear HO hix9 hax9 ix9_0 ix9 fx0 fx1 c9_0_ew_2 c9_0_ew_2_1 c9_0_i_2 c9_0_i_2_1 lt9_0 y9_0
    generalize hW : World.alloc _ _ = W18
    have hN : Own w0 W18 [row (wr.heap.size + 1) 42 #[.pointer (some ⟨D.ad i, 0, none⟩)], row (wr.heap.size) 61 #[.iface 42 (.pointer (some ⟨D.ad i, 0, none⟩)), vI (D.lc i)], row (tb) 61 (full stmZ (((stL D (arrI D hst nn i)).set (ew * 2) (.iface 42 (.pointer (some ⟨D.ad i, 0, none⟩)))).set (ew * 2 + 1) (vI (D.lc i))) 0)] X9 := by
     rw [← hW]
     exact ((((hO).setFull 0 rfl (ew * 2) hc2 _).setFull 0 rfl (ew * 2 + 1) (set_ne hc3 (by omega)) _).alloc' _ (wr.heap.size) (by simp)).alloc' _ (wr.heap.size + 1) (by simp)
    clear hW hO
    generalize wr.heap.size + 1 = B17_1 at hN ⊢
    generalize wr.heap.size = B17 at hN ⊢
    have hO := hN
    clear hN
    have h9 := stL_set (D := D) (l := arrI D hst nn i) (p := ew) i (by rw [arrI_len (by omega)]; omega)
    rw [show stT (D.kd i) = 42 from by rw [HK.out]; rfl] at h9
    have h8 := arrI_no (n := nn) HOU.out hlt
    rw [← HEW.out] at h8
    rw [h8] at h9
    have hN : Own w0 W18 [row (tb) 61 (full stmZ (stL D (arrI D hst nn (i + 1))) 0)] X9 := (hO.sub [2] (by decide)).conv (by
     rw [← h9]
     rfl)
    clear h9 h8
    go_roundg gq
    case measure => omega
    case rel => exact ⟨i + 1, ew + 1, by omega, by rw [ins_no HOU.out, List.length_append, ← HEW.out]; rfl, by first | rfl | simp, by first | rfl | simp, Or.inl ⟨by rw [outs_no HOU.out]; exact HR.out, rfl, hN⟩⟩
  ·skip
   by_cases hk : D.kd i = 1
   ·skip
    have ho : outB hst (D.kd i) = true := by rw [hk]; rfl
    have hc0 := HC4.out
    rw [hk] at hc0
    have hc0 : (stL D (arrI D hst nn i))[i * 2]? = some (.iface 278 (.pointer (some ⟨D.ad i, 0, none⟩))) := hc0
    have hc1 := HC1.out
    have hc2 := HC2.out
    have hc3 := HC3.out
    have HK := Lib.hid hk
    clear hk
    have HOU := Lib.hid ho
    clear ho
    have hrl : (stL D (outs D hst i)).length = r * 2 := by rw [stL_length, hr]
    have hr9 : r ≤ 5000 := by rw [hr]; exact Nat.le_trans outs_len (by omega)
    have hr8 : (r : Int) ≤ 5000 := by omega
    have HR := Lib.hid hr
    clear hr
    obtain ⟨ix9, hix9, hax9, hjx9⟩ := hO.ix
    have ix9_0 : ix9 rb = 0 := hjx9 0 _ _ rfl
    have ix9_1 : ix9 tb = 1 := hjx9 1 _ _ rfl
    clear hjx9
    have pl9_0 : Base.plainAt wr (rb) = true := hO.plain 0 rfl
    have pl9_1 : Base.plainAt wr (tb) = true := hO.plain 1 rfl
    have c9_1_i_2 : wr.cell? ⟨tb, i * 2, none⟩ = some (.iface 278 (.pointer (some ⟨D.ad i, 0, none⟩))) := hO.cell 1 rfl (i * 2) ((full_at hc0))
    have c9_1_i_2_1 : wr.cell? ⟨tb, i * 2 + 1, none⟩ = some (vI (D.lc i)) := hO.cell 1 rfl (i * 2 + 1) ((full_at hc1))
    have lt9_1 : tb < wr.heap.size := hO.lt 1 rfl
    have y9_1 : ∀ o, wr.frozen? ⟨tb, o, none⟩ = false := hO.free 1 rfl
    have HO := Lib.hid hO
    clear hO
    go_wp2_with (first | (with_reducible refine Own.stay (fn := Tryd.f39) ?_) | (at_builtin; refine Own.appStop ?_) | fail)
    try with_reducible refine Own.Stay.mk ?_
    have hO := HO.out
    clear HO hix9 hax9 ix9_0 ix9_1 ix9 pl9_0 pl9_1 c9_1_i_2 c9_1_i_2_1 lt9_1 y9_1
    generalize hW : World.alloc _ _ = W20
    have hN : Own w0 W20 [row (wr.heap.size + 1) 61 #[.iface 278 (.pointer (some ⟨D.ad i, 0, none⟩)), vI (D.lc i)], row (wr.heap.size) 61 #[.iface 278 (.pointer (some ⟨D.ad i, 0, none⟩)), vI (D.lc i)], row (rb) 61 (full stmZ (stL D (outs D hst i)) rc), row (tb) 61 (full stmZ (stL D (arrI D hst nn i)) 0)] X9 := by
     rw [← hW]
     exact ((hO).alloc' _ (wr.heap.size) (by simp)).alloc' _ (wr.heap.size + 1) (by simp)
    clear hW hO
    generalize wr.heap.size + 1 = B19_1 at hN ⊢
    generalize wr.heap.size = B19 at hN ⊢
    have hO := hN
    clear hN
    refine Own.AppStop.mk ?_
    obtain ⟨i9, hi9, z1, z2, z3⟩ := info_parts infoStm
    have hL := hO.apart
    have hX := hO.apartX
    have HL := Lib.hid hL
    have HX := Lib.hid hX
    clear hL hX
    have hP9 := hO.pick [2, 0] (by decide)
    refine Own.wpList_append_full rfl (.tmp 54) (.tmp 56) 40 rfl 61 i9 (.agg stmZ) 2 24 Tryd.underlying40 hi9 z1 z2 z3 rfl (by decide) hP9 rfl rfl (by first | rfl | assumption | (simp; done) | (simp; omega)) (by first | rfl | assumption | omega) rfl (oneAll rfl) (by first | decide | omega | (unfold maxLen; omega)) (by first | decide | omega | (unfold maxLen; omega)) ?_
    intro nd21 nc22 u23 hQ
    clear hP9
    have hN : Own w0 u23 [row (nd21) 61 (full stmZ ((stL D (outs D hst i)) ++ [.iface 278 (.pointer (some ⟨D.ad i, 0, none⟩)), vI (D.lc i)]) nc22), row (B19_1) 61 #[.iface 278 (.pointer (some ⟨D.ad i, 0, none⟩)), vI (D.lc i)], row (B19) 61 #[.iface 278 (.pointer (some ⟨D.ad i, 0, none⟩)), vI (D.lc i)], row (tb) 61 (full stmZ (stL D (arrI D hst nn i)) 0)] X9 := hQ.back HL.out HX.out [1, 3] (by decide) (by decide)
    clear hQ HL HX hO
    have hO := hN
    clear hN
    obtain ⟨c9_1_0, c9_1_1, lt9_1, y9_1, -⟩ := hO.k2 1 rfl
    obtain ⟨c9_2_0, c9_2_1, lt9_2, y9_2, -⟩ := hO.k2 2 rfl
    have HO := Lib.hid hO
    clear hO
    go_wp2_with (first | (with_reducible refine Own.stay (fn := Tryd.f39) ?_) | (at_builtin; refine Own.appStop ?_) | fail)
    try with_reducible refine Own.Stay.mk ?_
    have hO := HO.out
    clear HO c9_1_0 c9_1_1 lt9_1 y9_1 c9_2_0 c9_2_1 lt9_2 y9_2
    have hN : Own w0 u23 [row (nd21) 61 (full stmZ (stL D (outs D hst (i + 1))) nc22), row (tb) 61 (full stmZ (stL D (arrI D hst nn (i + 1))) 0)] X9 := (hO.sub [0, 3] (by decide)).conv (by
     rw [arrI_yes HOU.out, outs_yes HOU.out, stL_append, stL_one, stC, HK.out]
     rfl)
    go_roundg gq
    case measure => omega
    case rel => exact ⟨i + 1, ew, by omega, by rw [ins_yes HOU.out]; exact HEW.out, by first | rfl | simp, rfl, Or.inr ⟨nd21, nc22, (r + 1), by rw [outs_yes HOU.out, List.length_append, ← HR.out]; rfl, by omega, by first | rfl | simp, hN⟩⟩
   have HK1 := Lib.hid hk
   clear hk
   by_cases hk : D.kd i = 2
   ·skip
    have hhs : hst = true ∨ hst = false := by cases hst <;> simp
    obtain hhs | hhs := hhs
    ·skip
     obtain rfl : hst = true := hhs
     have ho : outB true (D.kd i) = true := by rw [hk]; rfl
     have hc0 := HC4.out
     rw [hk] at hc0
     have hc0 : (stL D (arrI D true nn i))[i * 2]? = some (.iface 281 (.pointer (some ⟨D.ad i, 0, none⟩))) := hc0
     have hc1 := HC1.out
     have hc2 := HC2.out
     have hc3 := HC3.out
     have HK := Lib.hid hk
     clear hk
     have HOU := Lib.hid ho
     clear ho
     have hrl : (stL D (outs D true i)).length = r * 2 := by rw [stL_length, hr]
     have hr9 : r ≤ 5000 := by rw [hr]; exact Nat.le_trans outs_len (by omega)
     have hr8 : (r : Int) ≤ 5000 := by omega
     have HR := Lib.hid hr
     clear hr
     obtain ⟨ix9, hix9, hax9, hjx9⟩ := hO.ix
     have ix9_0 : ix9 rb = 0 := hjx9 0 _ _ rfl
     have ix9_1 : ix9 tb = 1 := hjx9 1 _ _ rfl
     clear hjx9
     have pl9_0 : Base.plainAt wr (rb) = true := hO.plain 0 rfl
     have pl9_1 : Base.plainAt wr (tb) = true := hO.plain 1 rfl
     have c9_1_i_2 : wr.cell? ⟨tb, i * 2, none⟩ = some (.iface 281 (.pointer (some ⟨D.ad i, 0, none⟩))) := hO.cell 1 rfl (i * 2) ((full_at hc0))
     have c9_1_i_2_1 : wr.cell? ⟨tb, i * 2 + 1, none⟩ = some (vI (D.lc i)) := hO.cell 1 rfl (i * 2 + 1) ((full_at hc1))
     have lt9_1 : tb < wr.heap.size := hO.lt 1 rfl
     have y9_1 : ∀ o, wr.frozen? ⟨tb, o, none⟩ = false := hO.free 1 rfl
     have HO := Lib.hid hO
     clear hO
     go_wp2_with (first | (with_reducible refine Own.stay (fn := Tryd.f39) ?_) | (at_builtin; refine Own.appStop ?_) | fail)
     try with_reducible refine Own.Stay.mk ?_
     have hO := HO.out
     clear HO hix9 hax9 ix9_0 ix9_1 ix9 pl9_0 pl9_1 c9_1_i_2 c9_1_i_2_1 lt9_1 y9_1
     generalize hW : World.alloc _ _ = W25
     have hN : Own w0 W25 [row (wr.heap.size + 1) 61 #[.iface 281 (.pointer (some ⟨D.ad i, 0, none⟩)), vI (D.lc i)], row (wr.heap.size) 61 #[.iface 281 (.pointer (some ⟨D.ad i, 0, none⟩)), vI (D.lc i)], row (rb) 61 (full stmZ (stL D (outs D true i)) rc), row (tb) 61 (full stmZ (stL D (arrI D true nn i)) 0)] X9 := by
      rw [← hW]
      exact ((hO).alloc' _ (wr.heap.size) (by simp)).alloc' _ (wr.heap.size + 1) (by simp)
     clear hW hO
     generalize wr.heap.size + 1 = B24_1 at hN ⊢
     generalize wr.heap.size = B24 at hN ⊢
     have hO := hN
     clear hN
     refine Own.AppStop.mk ?_
     obtain ⟨i9, hi9, z1, z2, z3⟩ := info_parts infoStm
     have hL := hO.apart
     have hX := hO.apartX
     have HL := Lib.hid hL
     have HX := Lib.hid hX
     clear hL hX
     have hP9 := hO.pick [2, 0] (by decide)
     refine Own.wpList_append_full rfl (.tmp 71) (.tmp 73) 40 rfl 61 i9 (.agg stmZ) 2 24 Tryd.underlying40 hi9 z1 z2 z3 rfl (by decide) hP9 rfl rfl (by first | rfl | assumption | (simp; done) | (simp; omega)) (by first | rfl | assumption | omega) rfl (oneAll rfl) (by first | decide | omega | (unfold maxLen; omega)) (by first | decide | omega | (unfold maxLen; omega)) ?_
     intro nd26 nc27 u28 hQ
     clear hP9
     have hN : Own w0 u28 [row (nd26) 61 (full stmZ ((stL D (outs D true i)) ++ [.iface 281 (.pointer (some ⟨D.ad i, 0, none⟩)), vI (D.lc i)]) nc27), row (B24_1) 61 #[.iface 281 (.pointer (some ⟨D.ad i, 0, none⟩)), vI (D.lc i)], row (B24) 61 #[.iface 281 (.pointer (some ⟨D.ad i, 0, none⟩)), vI (D.lc i)], row (tb) 61 (full stmZ (stL D (arrI D true nn i)) 0)] X9 := hQ.back HL.out HX.out [1, 3] (by decide) (by decide)
     clear hQ HL HX hO
     have hO := hN
     clear hN
     obtain ⟨c9_1_0, c9_1_1, lt9_1, y9_1, -⟩ := hO.k2 1 rfl
     obtain ⟨c9_2_0, c9_2_1, lt9_2, y9_2, -⟩ := hO.k2 2 rfl
     have HO := Lib.hid hO
     clear hO
     go_wp2_with (first | (with_reducible refine Own.stay (fn := Tryd.f39) ?_) | (at_builtin; refine Own.appStop ?_) | fail)
     try with_reducible refine Own.Stay.mk ?_
     have hO := HO.out
     clear HO c9_1_0 c9_1_1 lt9_1 y9_1 c9_2_0 c9_2_1 lt9_2 y9_2
     have hN : Own w0 u28 [row (nd26) 61 (full stmZ (stL D (outs D true (i + 1))) nc27), row (tb) 61 (full stmZ (stL D (arrI D true nn (i + 1))) 0)] X9 := (hO.sub [0, 3] (by decide)).conv (by
      rw [arrI_yes HOU.out, outs_yes HOU.out, stL_append, stL_one, stC, HK.out]
      rfl)
     go_roundg gq
     case measure => omega
     case rel => exact ⟨i + 1, ew, by omega, by rw [ins_yes HOU.out]; exact HEW.out, by first | rfl | simp, rfl, Or.inr ⟨nd26, nc27, (r + 1), by rw [outs_yes HOU.out, List.length_append, ← HR.out]; rfl, by omega, by first | rfl | simp, hN⟩⟩
    ·skip
     obtain rfl : hst = false := hhs
     have ho : outB false (D.kd i) = false := by rw [hk]; rfl
     have hc0 := HC4.out
     rw [hk] at hc0
     have hc0 : (stL D (arrI D false nn i))[i * 2]? = some (.iface 281 (.pointer (some ⟨D.ad i, 0, none⟩))) := hc0
     have hc1 := HC1.out
     have hc2 := HC2.out
     have hc3 := HC3.out
     have HK := Lib.hid hk
     clear hk
     have HOU := Lib.hid ho
     clear ho
     have hrl : (stL D (outs D false i)).length = r * 2 := by rw [stL_length, hr]
     have hr9 : r ≤ 5000 := by rw [hr]; exact Nat.le_trans outs_len (by omega)
     have hr8 : (r : Int) ≤ 5000 := by omega
     have HR := Lib.hid hr
     clear hr
     obtain ⟨ix9, hix9, hax9, hjx9⟩ := hO.ix
     have ix9_0 : ix9 rb = 0 := hjx9 0 _ _ rfl
     have ix9_1 : ix9 tb = 1 := hjx9 1 _ _ rfl
     clear hjx9
     have pl9_0 : Base.plainAt wr (rb) = true := hO.plain 0 rfl
     have pl9_1 : Base.plainAt wr (tb) = true := hO.plain 1 rfl
     have c9_1_ew_2 : wr.cell? ⟨tb, ew * 2, none⟩ = some (.iface (stT (D.kd ew)) (.pointer (some ⟨D.ad ew, 0, none⟩))) := hO.cell 1 rfl (ew * 2) ((full_at hc2))
     have c9_1_ew_2_1 : wr.cell? ⟨tb, ew * 2 + 1, none⟩ = some (vI (D.lc ew)) := hO.cell 1 rfl (ew * 2 + 1) ((full_at hc3))
     have c9_1_i_2 : wr.cell? ⟨tb, i * 2, none⟩ = some (.iface 281 (.pointer (some ⟨D.ad i, 0, none⟩))) := hO.cell 1 rfl (i * 2) ((full_at hc0))
     have c9_1_i_2_1 : wr.cell? ⟨tb, i * 2 + 1, none⟩ = some (vI (D.lc i)) := hO.cell 1 rfl (i * 2 + 1) ((full_at hc1))
     have lt9_1 : tb < wr.heap.size := hO.lt 1 rfl
     have y9_1 : ∀ o, wr.frozen? ⟨tb, o, none⟩ = false := hO.free 1 rfl
     have HO := Lib.hid hO
     clear hO
     go_wp2_with (first | (with_reducible refine Own.stay (fn := Tryd.f39) ?_) | (at_builtin; refine Own.appStop ?_) | fail)
     try with_reducible refine Own.Stay.mk ?_
     have hO := HO.out
     clear HO hix9 hax9 ix9_0 ix9_1 ix9 pl9_0 pl9_1 c9_1_ew_2 c9_1_ew_2_1 c9_1_i_2 c9_1_i_2_1 lt9_1 y9_1
     generalize hW : World.alloc _ _ = W30
     have hN : Own w0 W30 [row (wr.heap.size) 61 #[.iface 281 (.pointer (some ⟨D.ad i, 0, none⟩)), vI (D.lc i)], row (rb) 61 (full stmZ (stL D (outs D false i)) rc), row (tb) 61 (full stmZ (((stL D (arrI D false nn i)).set (ew * 2) (.iface 281 (.pointer (some ⟨D.ad i, 0, none⟩)))).set (ew * 2 + 1) (vI (D.lc i))) 0)] X9 := by
      rw [← hW]
      exact (((hO).setFull 1 rfl (ew * 2) hc2 _).setFull 1 rfl (ew * 2 + 1) (set_ne hc3 (by omega)) _).alloc' _ (wr.heap.size) (by simp)
     clear hW hO
     generalize wr.heap.size = B29 at hN ⊢
     have hO := hN
     clear hN
     have h9 := stL_set (D := D) (l := arrI D false nn i) (p := ew) i (by rw [arrI_len (by omega)]; omega)
     rw [show stT (D.kd i) = 281 from by rw [HK.out]; rfl] at h9
     have h8 := arrI_no (n := nn) HOU.out hlt
     rw [← HEW.out] at h8
     rw [h8] at h9
     have hN : Own w0 W30 [row (rb) 61 (full stmZ (stL D (outs D false (i + 1))) rc), row (tb) 61 (full stmZ (stL D (arrI D false nn (i + 1))) 0)] X9 := (hO.sub [1, 2] (by decide)).conv (by
      rw [← h9, outs_no HOU.out]
      rfl)
     clear h9 h8
     go_roundg gq
     case measure => omega
     case rel => exact ⟨i + 1, ew + 1, by omega, by rw [ins_no HOU.out, List.length_append, ← HEW.out]; rfl, by first | rfl | simp, by first | rfl | simp, Or.inr ⟨rb, rc, r, by rw [outs_no HOU.out]; exact HR.out, hr0, rfl, hN⟩⟩
   have HK2 := Lib.hid hk
   clear hk
   by_cases hk : D.kd i = 0
   ·skip
    have ho : outB hst (D.kd i) = false := by rw [hk]; rfl
    have hc0 := HC4.out
    rw [hk] at hc0
    have hc0 : (stL D (arrI D hst nn i))[i * 2]? = some (.iface 275 (.pointer (some ⟨D.ad i, 0, none⟩))) := hc0
    have hc1 := HC1.out
    have hc2 := HC2.out
    have hc3 := HC3.out
    have HK := Lib.hid hk
    clear hk
    have HOU := Lib.hid ho
    clear ho
    have hrl : (stL D (outs D hst i)).length = r * 2 := by rw [stL_length, hr]
    have hr9 : r ≤ 5000 := by rw [hr]; exact Nat.le_trans outs_len (by omega)
    have hr8 : (r : Int) ≤ 5000 := by omega
    have HR := Lib.hid hr
    clear hr
    obtain ⟨ix9, hix9, hax9, hjx9⟩ := hO.ix
    have ix9_0 : ix9 rb = 0 := hjx9 0 _ _ rfl
    have ix9_1 : ix9 tb = 1 := hjx9 1 _ _ rfl
    clear hjx9
    have pl9_0 : Base.plainAt wr (rb) = true := hO.plain 0 rfl
    have pl9_1 : Base.plainAt wr (tb) = true := hO.plain 1 rfl
    have c9_1_ew_2 : wr.cell? ⟨tb, ew * 2, none⟩ = some (.iface (stT (D.kd ew)) (.pointer (some ⟨D.ad ew, 0, none⟩))) := hO.cell 1 rfl (ew * 2) ((full_at hc2))
    have c9_1_ew_2_1 : wr.cell? ⟨tb, ew * 2 + 1, none⟩ = some (vI (D.lc ew)) := hO.cell 1 rfl (ew * 2 + 1) ((full_at hc3))
    have c9_1_i_2 : wr.cell? ⟨tb, i * 2, none⟩ = some (.iface 275 (.pointer (some ⟨D.ad i, 0, none⟩))) := hO.cell 1 rfl (i * 2) ((full_at hc0))
    have c9_1_i_2_1 : wr.cell? ⟨tb, i * 2 + 1, none⟩ = some (vI (D.lc i)) := hO.cell 1 rfl (i * 2 + 1) ((full_at hc1))
    have lt9_1 : tb < wr.heap.size := hO.lt 1 rfl
    have y9_1 : ∀ o, wr.frozen? ⟨tb, o, none⟩ = false := hO.free 1 rfl
    have HO := Lib.hid hO
    clear hO
    go_wp2_with (first | (with_reducible refine Own.stay (fn := Tryd.f39) ?_) | (at_builtin; refine Own.appStop ?_) | fail)
    try with_reducible refine Own.Stay.mk ?_
    have hO := HO.out
    clear HO hix9 hax9 ix9_0 ix9_1 ix9 pl9_0 pl9_1 c9_1_ew_2 c9_1_ew_2_1 c9_1_i_2 c9_1_i_2_1 lt9_1 y9_1
    generalize hW : World.alloc _ _ = W32
    have hN : Own w0 W32 [row (wr.heap.size) 61 #[.iface 275 (.pointer (some ⟨D.ad i, 0, none⟩)), vI (D.lc i)], row (rb) 61 (full stmZ (stL D (outs D hst i)) rc), row (tb) 61 (full stmZ (((stL D (arrI D hst nn i)).set (ew * 2) (.iface 275 (.pointer (some ⟨D.ad i, 0, none⟩)))).set (ew * 2 + 1) (vI (D.lc i))) 0)] X9 := by
     rw [← hW]
     exact (((hO).setFull 1 rfl (ew * 2) hc2 _).setFull 1 rfl (ew * 2 + 1) (set_ne hc3 (by omega)) _).alloc' _ (wr.heap.size) (by simp)
    clear hW hO
    generalize wr.heap.size = B31 at hN ⊢
    have hO := hN
    clear hN
    have h9 := stL_set (D := D) (l := arrI D hst nn i) (p := ew) i (by rw [arrI_len (by omega)]; omega)
    rw [show stT (D.kd i) = 275 from by rw [HK.out]; rfl] at h9
    have h8 := arrI_no (n := nn) HOU.out hlt
    rw [← HEW.out] at h8
    rw [h8] at h9
    have hN : Own w0 W32 [row (rb) 61 (full stmZ (stL D (outs D hst (i + 1))) rc), row (tb) 61 (full stmZ (stL D (arrI D hst nn (i + 1))) 0)] X9 := (hO.sub [1, 2] (by decide)).conv (by
     rw [← h9, outs_no HOU.out]
     rfl)
    clear h9 h8
    go_roundg gq
    case measure => omega
    case rel => exact ⟨i + 1, ew + 1, by omega, by rw [ins_no HOU.out, List.length_append, ← HEW.out]; rfl, by first | rfl | simp, by first | rfl | simp, Or.inr ⟨rb, rc, r, by rw [outs_no HOU.out]; exact HR.out, hr0, rfl, hN⟩⟩
   replace hk : D.kd i = 3 := by have := HK1.out; have := HK2.out; omega
   ·skip
    have ho : outB hst (D.kd i) = false := by rw [hk]; rfl
    have hc0 := HC4.out
    rw [hk] at hc0
    have hc0 : (stL D (arrI D hst nn i))[i * 2]? = some (.iface 42 (.pointer (some ⟨D.ad i, 0, none⟩))) := hc0
    have hc1 := HC1.out
    have hc2 := HC2.out
    have hc3 := HC3.out
    obtain ⟨lcs, hlx, hle⟩ := HLC.out i hlt hk
    have hlx := HXY.out _ _ hlx
    have HK := Lib.hid hk
    clear hk
    have HOU := Lib.hid ho
    clear ho
    have hrl : (stL D (outs D hst i)).length = r * 2 := by rw [stL_length, hr]
    have hr9 : r ≤ 5000 := by rw [hr]; exact Nat.le_trans outs_len (by omega)
    have hr8 : (r : Int) ≤ 5000 := by omega
    have HR := Lib.hid hr
    clear hr
    obtain ⟨ix9, hix9, hax9, hjx9⟩ := hO.ix
    have ix9_0 : ix9 rb = 0 := hjx9 0 _ _ rfl
    have ix9_1 : ix9 tb = 1 := hjx9 1 _ _ rfl
    clear hjx9
    have pl9_0 : Base.plainAt wr (rb) = true := hO.plain 0 rfl
    have pl9_1 : Base.plainAt wr (tb) = true := hO.plain 1 rfl
    have c9_1_ew_2 : wr.cell? ⟨tb, ew * 2, none⟩ = some (.iface (stT (D.kd ew)) (.pointer (some ⟨D.ad ew, 0, none⟩))) := hO.cell 1 rfl (ew * 2) ((full_at hc2))
    have c9_1_ew_2_1 : wr.cell? ⟨tb, ew * 2 + 1, none⟩ = some (vI (D.lc ew)) := hO.cell 1 rfl (ew * 2 + 1) ((full_at hc3))
    have c9_1_i_2 : wr.cell? ⟨tb, i * 2, none⟩ = some (.iface 42 (.pointer (some ⟨D.ad i, 0, none⟩))) := hO.cell 1 rfl (i * 2) ((full_at hc0))
    have c9_1_i_2_1 : wr.cell? ⟨tb, i * 2 + 1, none⟩ = some (vI (D.lc i)) := hO.cell 1 rfl (i * 2 + 1) ((full_at hc1))
    have lt9_1 : tb < wr.heap.size := hO.lt 1 rfl
    have y9_1 : ∀ o, wr.frozen? ⟨tb, o, none⟩ = false := hO.free 1 rfl
    have HO := Lib.hid hO
    clear hO
    have fx0 : wr.cell? ⟨D.ad i, 2, none⟩ = some (bF) := Base.RowAt.cell (show Base.RowAt wr (D.ad i) 57 lcs.toArray from (HO.out.frame _ _ hlx).2.1) (by simpa using hle)
    have fx1 : D.ad i < wr.heap.size := Base.block_of_cell fx0
    go_wp2_with (first | (with_reducible refine Own.stay (fn := Tryd.f39) ?_) | (at_builtin; refine Own.appStop ?_) | fail)
    try with_reducible refine Own.Stay.mk ?_
    have hO := HO.out
    clear HO hix9 hax9 ix9_0 ix9_1 ix9 fx0 fx1 pl9_0 pl9_1 c9_1_ew_2 c9_1_ew_2_1 c9_1_i_2 c9_1_i_2_1 lt9_1 y9_1
    generalize hW : World.alloc _ _ = W34
    have hN : Own w0 W34 [row (wr.heap.size + 1) 42 #[.pointer (some ⟨D.ad i, 0, none⟩)], row (wr.heap.size) 61 #[.iface 42 (.pointer (some ⟨D.ad i, 0, none⟩)), vI (D.lc i)], row (rb) 61 (full stmZ (stL D (outs D hst i)) rc), row (tb) 61 (full stmZ (((stL D (arrI D hst nn i)).set (ew * 2) (.iface 42 (.pointer (some ⟨D.ad i, 0, none⟩)))).set (ew * 2 + 1) (vI (D.lc i))) 0)] X9 := by
     rw [← hW]
     exact ((((hO).setFull 1 rfl (ew * 2) hc2 _).setFull 1 rfl (ew * 2 + 1) (set_ne hc3 (by omega)) _).alloc' _ (wr.heap.size) (by simp)).alloc' _ (wr.heap.size + 1) (by simp)
    clear hW hO
    generalize wr.heap.size + 1 = B33_1 at hN ⊢
    generalize wr.heap.size = B33 at hN ⊢
    have hO := hN
    clear hN
    have h9 := stL_set (D := D) (l := arrI D hst nn i) (p := ew) i (by rw [arrI_len (by omega)]; omega)
    rw [show stT (D.kd i) = 42 from by rw [HK.out]; rfl] at h9
    have h8 := arrI_no (n := nn) HOU.out hlt
    rw [← HEW.out] at h8
    rw [h8] at h9
    have hN : Own w0 W34 [row (rb) 61 (full stmZ (stL D (outs D hst (i + 1))) rc), row (tb) 61 (full stmZ (stL D (arrI D hst nn (i + 1))) 0)] X9 := (hO.sub [2, 3] (by decide)).conv (by
     rw [← h9, outs_no HOU.out]
     rfl)
    clear h9 h8
    go_roundg gq
    case measure => omega
    case rel => exact ⟨i + 1, ew + 1, by omega, by rw [ins_no HOU.out, List.length_append, ← HEW.out]; rfl, by first | rfl | simp, by first | rfl | simp, Or.inr ⟨rb, rc, r, by rw [outs_no HOU.out]; exact HR.out, hr0, rfl, hN⟩⟩
 obtain rfl : nn = i := by omega
 have hlt9 : ¬ (nn : Int) < (nn : Int) := by omega
 clear hlt hin
 obtain ⟨hnil, rfl, hO⟩ | ⟨rb, rc, r, hr, hr0, rfl, hO⟩ := hcase
 ·skip
  have HR := Lib.hid hnil
  clear hnil
  have hM := hO
  rw [← HXE.out] at hM
  have hN : Own w0 wr [row (tb) 61 (full stmZ (stL D (arrI D hst nn nn)) 0), row (B1_1) 77 #[vN], row (B1) 25 #[vP pb], row (cx) 33 #[vI loc, vU src, vU (si : Int), .bool true], row (pb) 252 PC, row (sb) 260 (full symZ (symL st) c), ((mp, .map es k) : Rw), row (ms) 99 MC, row (pt) 107 QC, ((mu, .map (uA ul) (uN ul)) : Rw), row (cs) 99 KC] X := hM.back HL0.out HX0.out [0, 1, 2, 3, 4, 5, 6, 7, 8, 9] (by decide) (by decide)
  clear hM hO HL0 HX0 HXE HXY
  have hO := hN
  clear hN
  obtain ⟨c9_1_0, lt9_1, y9_1, -⟩ := hO.k1 1 rfl
  obtain ⟨c9_2_0, lt9_2, y9_2, -⟩ := hO.k1 2 rfl
  obtain ⟨c9_3_0, c9_3_1, c9_3_2, c9_3_3, lt9_3, y9_3, -⟩ := hO.k4 3 rfl
  have HO := Lib.hid hO
  clear hO
  go_wp2_with (first | (with_reducible refine Own.stay (fn := Tryd.f39) ?_) | (at_builtin; refine Own.appStop ?_) | fail)
  try with_reducible refine Own.Stay.mk ?_
  have hO := HO.out
  clear HO c9_1_0 lt9_1 y9_1 c9_2_0 lt9_2 y9_2 c9_3_0 c9_3_1 c9_3_2 c9_3_3 lt9_3 y9_3
  rw [HC9.out]
  have hL := hO.apart
  have hX := hO.apartX
  have HL := Lib.hid hL
  have HX := Lib.hid hX
  clear hL hX
  have hP9 := hO.pick [2, 3, 4, 5, 6, 7, 8, 9, 10] (by decide)
  refine finA10 pb PC sb c st n src mp es k ms MC pt QC mu ul cs KC cx B1 B1_1 loc si (.slice (some ⟨tb, 0, none⟩) ew nn) (vN) _ _ _ _ _ _ _ _ _ _ _ _ _ _ _ _ _ _ _ _ _ _ _ _ _ _ _ _ _ _ _ _ _ _ _ _ _ _ _ _ _ _ _ _ _ _ _ _ _ _ _ _ _ _ _ _ _ _ _ _ _ _ _ _ _ _ _ _ _ _ _ _ _ _ _ _ _ _ _ _ _ _ _ _ _ _ _ _ _ _ _ _ _ _ _ _ _ _ _ _ _ _ _ _ _ _ _ _ _ _ _ _ _ _ _ _ _ _ _ _ _ _ _ _ _ _ _ _ _ _ _ _ _ _ _ _ _ _ _ _ _ _ _ _ _ _ _ _ _ _ _ _ _ _ _ _ _ _ _ _ _ _ _ _ _ _ _ _ _ _ _ _ _ _ _ _ _ _ _ _ _ _ _ _ _ _ _ _ _ _ _ _ _ _ _ _ _ _ _ _ _ _ _ _ _ _ _ _ _ _ _ _ _ _ _ _ _ _ _ _ _ _ _ _ _ _ _ _ _ _ _ _ _ _ _ _ _ _ _ _ _ _ _ _ _ _ _ _ _ _ _ _ _ _ _ _ _ _ _ _ _ _ _ _ _ _ _ _ _ _ _ _ _ _ _ _ _ _ _ _ _ _ _ _ _ _ _ _ _ _ _ _ _ _ _ _ _ _ _ _ _ _ _ _ _ _ _ _ _ _ _ _ _ _ _ _ _ _ _ _ _ _ _ _ _ _ _ _ _ _ _ _ _ _ _ _ _ _ _ _ _ _ _ _ _ _ _ _ _ _ _ _ _ _ _ _ _ _ _ _ _ _ _ _ _ _ _ _ _ _ _ _ _ _ _ _ _ _ _ _ _ _ _ _ _ _ _ _ _ _ _ _ _ _ _ _ _ _ _ _ _ _ _ _ _ _ _ _ _ _ _ _ _ _ _ w0 wr _ _ ?_ hP9 hk350 hk32 hk105 hk66 hk117 hk187 hk104 hk333 hk23 hk106 hn hnb hsu hds hkind hgen hcg hsi hno hg0 hg1
  clear hP9
  unfold Fb10
  intro v21 v22 v23 v26 fb sb2 c2 gb2 cg2 db cd PC2 QC2 KC2 ul2 _ _ _ _ _ _ _ _ _ _ _ _ _ _ _ _ _ _ _ _ _ _ _ _ _ _ _ _ _ _ _ _ _ _ _ _ _ _ _ _ _ _ _ _ _ _ _ _ _ _ _ _ _ _ _ _ _ _ _ _ _ _ _ _ _ _ _ _ _ _ _ _ _ _ _ _ _ _ _ _ _ _ _ _ _ _ _ _ _ _ _ _ _ _ _ _ _ _ _ _ _ _ _ _ _ _ _ _ _ _ _ _ _ _ _ _ _ _ _ _ _ _ _ _ _ _ _ _ _ _ _ _ _ _ _ _ _ _ _ _ _ _ _ _ _ _ _ _ _ _ _ _ _ _ _ _ _ _ _ _ _ _ _ _ _ _ _ _ _ _ _ _ _ _ _ _ _ _ _ _ _ _ _ _ _ _ _ _ _ _ _ _ _ _ _ _ _ _ _ _ _ _ _ _ _ _ _ _ _ _ _ _ _ _ _ _ _ _ _ _ _ _ _ _ _ _ _ _ _ _ _ _ _ _ _ _ _ _ _ _ _ _ _ _ _ _ _ _ _ _ _ _ _ _ _ _ _ _ _ _ _ _ _ _ _ _ _ _ _ _ _ _ _ _ _ _ _ _ _ _ _ _ _ _ _ _ _ _ _ _ _ _ _ _ _ _ _ _ _ _ _ _ _ _ _ _ _ _ _ _ _ _ _ _ _ _ _ _ _ _ _ _ _ _ _ _ _ _ _ _ _ _ _ _ _ _ _ _ _ _ _ _ _ _ _ _ _ _ _ _ _ _ _ _ _ _ _ _ _ _ _ _ _ _ _ _ _ _ _ _ _ _ _ _ _ _ _ _ _ _ _ _ _ _ _ _ _ _ _ _ _ _ _ _ _ _ _ _ _ _ _ _ _ _ _ _ _ _ _ _ w2 hp350 hp32 hp105 hp106 hq4 hq3 hm5 hQ
  have hN : Own w0 w2 [row (B1) 25 #[vP pb], row (cx) 33 #[vI loc, vU src, vU (si : Int), .bool true], row (v21) 31 #[vU src, vU (n : Int)], row (v22) 31 #[vU src, vU (n + 1 : Int)], row (v23) 31 #[vU src, vU (n + 1 + 1 : Int)], row (v26) 28 #[vI loc], row (pb) 252 PC2, row (sb2) 260 (full symZ (symL (stF1 st si n)) c2), row (pt) 107 QC2, ((mu, .map (uA ul2) (uN ul2)) : Rw), row (cs) 99 KC2, row (gb2) 31 (full refZ ([vU src, vU (si : Int), vU src, vU (n : Int), vU src, vU (n + 1 : Int), vU src, vU (n + 1 + 1 : Int), vU src, vU (n + 1 + 1 + 1 + 1 : Int), vU src, vU (n + 1 + 1 + 1 + 1 : Int)]) cg2), row (db) 113 (full dsyZ [vU src, vU (si : Int), bF, vU src, vU (n : Int), bF, vU src, vU (n + 1 : Int), bF, vU src, vU (n + 1 + 1 : Int), bF, vU src, vU (n + 1 + 1 + 1 + 1 : Int), bF] cd), row (tb) 61 (full stmZ (stL D (arrI D hst nn nn)) 0), row (B1_1) 77 #[vN]] X := hQ.back HL.out HX.out [0, 1] (by decide) (by decide)
  clear hQ HL HX hO
  have hO := hN
  clear hN
  have hL := hO.apart
  have hX := hO.apartX
  have HL := Lib.hid hL
  have HX := Lib.hid hX
  clear hL hX
  have hP9 := hO.pick [0, 1, 2, 3, 4, 5, 14, 6, 7, 8, 9] (by decide)
  refine finB00 pb PC2 sb2 c2 (stF1 st si n) (n + 5) pt QC2 mu ul2 src cx B1 B1_1 v21 v22 v23 v26 loc si n (n + 1 : Int) (n + 1 + 1 : Int) true (some ⟨tb, 0, none⟩) ew nn fb 2 _ _ _ _ _ _ _ _ _ _ _ _ _ _ _ _ _ _ _ _ _ _ _ _ _ _ _ _ _ _ _ _ _ _ _ _ _ _ _ _ _ _ _ _ _ _ _ _ _ _ _ _ _ _ _ _ _ _ _ _ _ _ _ _ _ _ _ _ _ _ _ _ _ _ _ _ _ _ _ _ _ _ _ _ _ _ _ _ _ _ _ _ _ _ _ _ _ _ _ _ _ _ _ _ _ _ _ _ _ _ _ _ _ _ _ _ _ _ _ _ _ _ _ _ _ _ _ _ _ _ _ _ _ _ _ _ _ _ _ _ _ _ _ _ _ _ _ _ _ _ _ _ _ _ _ _ _ _ _ _ _ _ _ _ _ _ _ _ _ _ _ _ _ _ _ _ _ _ _ _ _ _ _ _ _ _ _ _ _ _ _ _ _ _ _ _ _ _ _ _ _ _ _ _ _ _ _ _ _ _ _ _ _ _ _ _ _ _ _ _ _ _ _ _ _ _ _ _ _ _ _ _ _ _ _ _ _ _ _ _ _ _ _ _ _ _ _ _ _ _ _ _ _ _ _ _ _ _ _ _ _ _ _ _ _ _ _ _ _ _ _ _ _ _ _ _ _ _ _ _ _ _ _ _ _ _ _ _ _ _ _ _ _ _ _ _ _ _ _ _ _ _ _ _ _ _ _ _ _ _ _ _ _ _ _ _ _ _ _ _ _ _ _ _ _ _ _ _ _ _ _ _ _ _ _ _ _ _ _ _ _ _ _ _ _ _ _ _ _ _ _ _ _ _ _ _ _ _ _ _ _ _ _ _ _ _ _ _ _ _ _ _ _ _ _ _ _ _ _ _ _ _ _ _ _ _ _ _ _ _ _ _ _ _ _ _ _ _ _ _ _ _ _ _ _ _ _ _ _ _ w0 w2 _ _ ?_ hP9 hp350 hp32 hp105 hp106 (by rw [stF1_length, hn]) (by omega) (by omega) hq4
  clear hP9
  intro qb qc lb ld li la yb yc yf w3 hQ
  have hN : Own w0 w3 [row (qb) 61 (full stmZ [.iface 42 (vP lb), vI loc, .iface 67 (vP yb), vI loc] qc), row (lb) 57 #[.slice (some ⟨ld, 0, none⟩) 1 1, .int .u8 0, bF, bF], row (ld) 54 #[.iface 134 (vP li), vI loc, .iface 315 (vP la), vI loc], row (li) 136 #[vU src, vU (si : Int)], row (yb) 76 #[vP yc, vP yf, .slice (some ⟨tb, 0, none⟩) ew nn, vI 0, vI loc], row (yf) 116 #[.slice (some ⟨fb, 0, none⟩) 2 2, vI 0, vI loc], row (pb) 252 PC2, row (sb2) 260 (full symZ (symL (bump (stF1 st si n) n)) c2), row (pt) 107 QC2, ((mu, .map (uA (ubump ul2 src (n : Int))) (uN (ubump ul2 src (n : Int)))) : Rw), row (cs) 99 KC2, row (gb2) 31 (full refZ ([vU src, vU (si : Int), vU src, vU (n : Int), vU src, vU (n + 1 : Int), vU src, vU (n + 1 + 1 : Int), vU src, vU (n + 1 + 1 + 1 + 1 : Int), vU src, vU (n + 1 + 1 + 1 + 1 : Int)]) cg2), row (db) 113 (full dsyZ [vU src, vU (si : Int), bF, vU src, vU (n : Int), bF, vU src, vU (n + 1 : Int), bF, vU src, vU (n + 1 + 1 : Int), bF, vU src, vU (n + 1 + 1 + 1 + 1 : Int), bF] cd), row (tb) 61 (full stmZ (stL D (arrI D hst nn nn)) 0)] X := hQ.back HL.out HX.out [10, 11, 12, 13] (by decide) (by decide)
  clear hQ HL HX hO
  have hO := hN
  clear hN
  have h9 := HEW.out
  subst h9
  have hN : Own w0 w3 [row (qb) 61 (full stmZ (stL D (outs D hst nn) ++ [.iface 42 (vP lb), vI loc, .iface 67 (vP yb), vI loc]) qc), row (lb) 57 #[.slice (some ⟨ld, 0, none⟩) 1 1, .int .u8 0, bF, bF], row (ld) 54 #[.iface 134 (vP li), vI loc, .iface 315 (vP la), vI loc], row (li) 136 #[vU src, vU (si : Int)], row (yb) 76 #[vP yc, vP yf, .slice (some ⟨tb, 0, none⟩) (ins D hst nn).length nn, vI 0, vI loc], row (yf) 116 #[.slice (some ⟨fb, 0, none⟩) 2 2, vI 0, vI loc], row (pb) 252 PC2, row (sb2) 260 (full symZ (symL (bump (stF1 st si n) n)) c2), row (pt) 107 QC2, ((mu, .map (uA (ubump ul2 src (n : Int))) (uN (ubump ul2 src (n : Int)))) : Rw), row (cs) 99 KC2, row (gb2) 31 (full refZ ([vU src, vU (si : Int), vU src, vU (n : Int), vU src, vU (n + 1 : Int), vU src, vU (n + 1 + 1 : Int), vU src, vU (n + 1 + 1 + 1 + 1 : Int), vU src, vU (n + 1 + 1 + 1 + 1 : Int)]) cg2), row (db) 113 (full dsyZ [vU src, vU (si : Int), bF, vU src, vU (n : Int), bF, vU src, vU (n + 1 : Int), bF, vU src, vU (n + 1 + 1 : Int), bF, vU src, vU (n + 1 + 1 + 1 + 1 : Int), bF] cd), row (tb) 61 (full stmZ (stL D (arrI D hst nn nn)) 0)] X := hO.conv (by rw [HR.out]; rfl)
  clear hO
  have hO := hN
  clear hN
  exact ⟨qb, qc, lb, ld, li, la, yb, yc, yf, fb, sb2, c2, gb2, cg2, db, cd, PC2, QC2, KC2, (ubump ul2 src (n : Int)), (some ⟨tb, 0, none⟩), by rw [HR.out]; rfl, hp350, hp32, hp105, hp106, hq4, hq3, hm5, (fun _ => rfl), hO.sub [0, 1, 2, 3, 4, 5, 6, 7, 8, 9, 10, 11, 12, 13] (by decide)⟩
 ·skip
  have hrl : (stL D (outs D hst nn)).length = r * 2 := by rw [stL_length, hr]
  have hr9 : r ≤ 5000 := by rw [hr]; exact Nat.le_trans outs_len (by omega)
  have HR := Lib.hid hr
  clear hr
  have hM := hO
  rw [← HXE.out] at hM
  have hN : Own w0 wr [row (rb) 61 (full stmZ (stL D (outs D hst nn)) rc), row (tb) 61 (full stmZ (stL D (arrI D hst nn nn)) 0), row (B1_1) 77 #[vN], row (B1) 25 #[vP pb], row (cx) 33 #[vI loc, vU src, vU (si : Int), .bool true], row (pb) 252 PC, row (sb) 260 (full symZ (symL st) c), ((mp, .map es k) : Rw), row (ms) 99 MC, row (pt) 107 QC, ((mu, .map (uA ul) (uN ul)) : Rw), row (cs) 99 KC] X := hM.back HL0.out HX0.out [0, 1, 2, 3, 4, 5, 6, 7, 8, 9] (by decide) (by decide)
  clear hM hO HL0 HX0 HXE HXY
  have hO := hN
  clear hN
  obtain ⟨c9_2_0, lt9_2, y9_2, -⟩ := hO.k1 2 rfl
  obtain ⟨c9_3_0, lt9_3, y9_3, -⟩ := hO.k1 3 rfl
  obtain ⟨c9_4_0, c9_4_1, c9_4_2, c9_4_3, lt9_4, y9_4, -⟩ := hO.k4 4 rfl
  have HO := Lib.hid hO
  clear hO
  go_wp2_with (first | (with_reducible refine Own.stay (fn := Tryd.f39) ?_) | (at_builtin; refine Own.appStop ?_) | fail)
  try with_reducible refine Own.Stay.mk ?_
  have hO := HO.out
  clear HO c9_2_0 lt9_2 y9_2 c9_3_0 lt9_3 y9_3 c9_4_0 c9_4_1 c9_4_2 c9_4_3 lt9_4 y9_4
  rw [HC9.out]
  have hL := hO.apart
  have hX := hO.apartX
  have HL := Lib.hid hL
  have HX := Lib.hid hX
  clear hL hX
  have hP9 := hO.pick [3, 4, 5, 6, 7, 8, 9, 10, 11] (by decide)
  refine finA10 pb PC sb c st n src mp es k ms MC pt QC mu ul cs KC cx B1 B1_1 loc si (.slice (some ⟨tb, 0, none⟩) ew nn) (.slice (some ⟨rb, 0, none⟩) r (r + rc)) _ _ _ _ _ _ _ _ _ _ _ _ _ _ _ _ _ _ _ _ _ _ _ _ _ _ _ _ _ _ _ _ _ _ _ _ _ _ _ _ _ _ _ _ _ _ _ _ _ _ _ _ _ _ _ _ _ _ _ _ _ _ _ _ _ _ _ _ _ _ _ _ _ _ _ _ _ _ _ _ _ _ _ _ _ _ _ _ _ _ _ _ _ _ _ _ _ _ _ _ _ _ _ _ _ _ _ _ _ _ _ _ _ _ _ _ _ _ _ _ _ _ _ _ _ _ _ _ _ _ _ _ _ _ _ _ _ _ _ _ _ _ _ _ _ _ _ _ _ _ _ _ _ _ _ _ _ _ _ _ _ _ _ _ _ _ _ _ _ _ _ _ _ _ _ _ _ _ _ _ _ _ _ _ _ _ _ _ _ _ _ _ _ _ _ _ _ _ _ _ _ _ _ _ _ _ _ _ _ _ _ _ _ _ _ _ _ _ _ _ _ _ _ _ _ _ _ _ _ _ _ _ _ _ _ _ _ _ _ _ _ _ _ _ _ _ _ _ _ _ _ _ _ _ _ _ _ _ _ _ _ _ _ _ _ _ _ _ _ _ _ _ _ _ _ _ _ _ _ _ _ _ _ _ _ _ _ _ _ _ _ _ _ _ _ _ _ _ _ _ _ _ _ _ _ _ _ _ _ _ _ _ _ _ _ _ _ _ _ _ _ _ _ _ _ _ _ _ _ _ _ _ _ _ _ _ _ _ _ _ _ _ _ _ _ _ _ _ _ _ _ _ _ _ _ _ _ _ _ _ _ _ _ _ _ _ _ _ _ _ _ _ _ _ _ _ _ _ _ _ _ _ _ _ _ _ _ _ _ _ _ _ _ _ _ _ _ _ _ _ _ _ _ _ _ _ _ _ _ _ _ _ _ _ _ w0 wr _ _ ?_ hP9 hk350 hk32 hk105 hk66 hk117 hk187 hk104 hk333 hk23 hk106 hn hnb hsu hds hkind hgen hcg hsi hno hg0 hg1
  clear hP9
  unfold Fb10
  intro v21 v22 v23 v26 fb sb2 c2 gb2 cg2 db cd PC2 QC2 KC2 ul2 _ _ _ _ _ _ _ _ _ _ _ _ _ _ _ _ _ _ _ _ _ _ _ _ _ _ _ _ _ _ _ _ _ _ _ _ _ _ _ _ _ _ _ _ _ _ _ _ _ _ _ _ _ _ _ _ _ _ _ _ _ _ _ _ _ _ _ _ _ _ _ _ _ _ _ _ _ _ _ _ _ _ _ _ _ _ _ _ _ _ _ _ _ _ _ _ _ _ _ _ _ _ _ _ _ _ _ _ _ _ _ _ _ _ _ _ _ _ _ _ _ _ _ _ _ _ _ _ _ _ _ _ _ _ _ _ _ _ _ _ _ _ _ _ _ _ _ _ _ _ _ _ _ _ _ _ _ _ _ _ _ _ _ _ _ _ _ _ _ _ _ _ _ _ _ _ _ _ _ _ _ _ _ _ _ _ _ _ _ _ _ _ _ _ _ _ _ _ _ _ _ _ _ _ _ _ _ _ _ _ _ _ _ _ _ _ _ _ _ _ _ _ _ _ _ _ _ _ _ _ _ _ _ _ _ _ _ _ _ _ _ _ _ _ _ _ _ _ _ _ _ _ _ _ _ _ _ _ _ _ _ _ _ _ _ _ _ _ _ _ _ _ _ _ _ _ _ _ _ _ _ _ _ _ _ _ _ _ _ _ _ _ _ _ _ _ _ _ _ _ _ _ _ _ _ _ _ _ _ _ _ _ _ _ _ _ _ _ _ _ _ _ _ _ _ _ _ _ _ _ _ _ _ _ _ _ _ _ _ _ _ _ _ _ _ _ _ _ _ _ _ _ _ _ _ _ _ _ _ _ _ _ _ _ _ _ _ _ _ _ _ _ _ _ _ _ _ _ _ _ _ _ _ _ _ _ _ _ _ _ _ _ _ _ _ _ _ _ _ _ _ _ _ _ _ _ _ _ _ _ w2 hp350 hp32 hp105 hp106 hq4 hq3 hm5 hQ
  have hN : Own w0 w2 [row (B1) 25 #[vP pb], row (cx) 33 #[vI loc, vU src, vU (si : Int), .bool true], row (v21) 31 #[vU src, vU (n : Int)], row (v22) 31 #[vU src, vU (n + 1 : Int)], row (v23) 31 #[vU src, vU (n + 1 + 1 : Int)], row (v26) 28 #[vI loc], row (pb) 252 PC2, row (sb2) 260 (full symZ (symL (stF1 st si n)) c2), row (pt) 107 QC2, ((mu, .map (uA ul2) (uN ul2)) : Rw), row (cs) 99 KC2, row (gb2) 31 (full refZ ([vU src, vU (si : Int), vU src, vU (n : Int), vU src, vU (n + 1 : Int), vU src, vU (n + 1 + 1 : Int), vU src, vU (n + 1 + 1 + 1 + 1 : Int), vU src, vU (n + 1 + 1 + 1 + 1 : Int)]) cg2), row (db) 113 (full dsyZ [vU src, vU (si : Int), bF, vU src, vU (n : Int), bF, vU src, vU (n + 1 : Int), bF, vU src, vU (n + 1 + 1 : Int), bF, vU src, vU (n + 1 + 1 + 1 + 1 : Int), bF] cd), row (rb) 61 (full stmZ (stL D (outs D hst nn)) rc), row (tb) 61 (full stmZ (stL D (arrI D hst nn nn)) 0), row (B1_1) 77 #[vN]] X := hQ.back HL.out HX.out [0, 1, 2] (by decide) (by decide)
  clear hQ HL HX hO
  have hO := hN
  clear hN
  have hL := hO.apart
  have hX := hO.apartX
  have HL := Lib.hid hL
  have HX := Lib.hid hX
  clear hL hX
  have hP9 := hO.pick [0, 1, 2, 3, 4, 5, 15, 6, 7, 8, 9, 13] (by decide)
  refine finB10 pb PC2 sb2 c2 (stF1 st si n) (n + 5) pt QC2 mu ul2 src cx B1 B1_1 v21 v22 v23 v26 loc si n (n + 1 : Int) (n + 1 + 1 : Int) true (some ⟨tb, 0, none⟩) ew nn fb 2 rb (stL D (outs D hst nn)) r rc _ _ _ _ _ _ _ _ _ _ _ _ _ _ _ _ _ _ _ _ _ _ _ _ _ _ _ _ _ _ _ _ _ _ _ _ _ _ _ _ _ _ _ _ _ _ _ _ _ _ _ _ _ _ _ _ _ _ _ _ _ _ _ _ _ _ _ _ _ _ _ _ _ _ _ _ _ _ _ _ _ _ _ _ _ _ _ _ _ _ _ _ _ _ _ _ _ _ _ _ _ _ _ _ _ _ _ _ _ _ _ _ _ _ _ _ _ _ _ _ _ _ _ _ _ _ _ _ _ _ _ _ _ _ _ _ _ _ _ _ _ _ _ _ _ _ _ _ _ _ _ _ _ _ _ _ _ _ _ _ _ _ _ _ _ _ _ _ _ _ _ _ _ _ _ _ _ _ _ _ _ _ _ _ _ _ _ _ _ _ _ _ _ _ _ _ _ _ _ _ _ _ _ _ _ _ _ _ _ _ _ _ _ _ _ _ _ _ _ _ _ _ _ _ _ _ _ _ _ _ _ _ _ _ _ _ _ _ _ _ _ _ _ _ _ _ _ _ _ _ _ _ _ _ _ _ _ _ _ _ _ _ _ _ _ _ _ _ _ _ _ _ _ _ _ _ _ _ _ _ _ _ _ _ _ _ _ _ _ _ _ _ _ _ _ _ _ _ _ _ _ _ _ _ _ _ _ _ _ _ _ _ _ _ _ _ _ _ _ _ _ _ _ _ _ _ _ _ _ _ _ _ _ _ _ _ _ _ _ _ _ _ _ _ _ _ _ _ _ _ _ _ _ _ _ _ _ _ _ _ _ _ _ _ _ _ _ _ _ _ _ _ _ _ _ _ _ _ _ _ _ _ _ _ _ _ _ _ _ _ _ _ _ _ _ _ _ _ _ _ _ _ _ _ _ _ _ _ _ _ w0 w2 _ _ ?_ hP9 hp350 hp32 hp105 hp106 (by rw [stF1_length, hn]) (by omega) (by omega) hq4 hrl (by omega)
  clear hP9
  intro qb qc lb ld li la yb yc yf w3 hQ
  have hN : Own w0 w3 [row (qb) 61 (full stmZ ((stL D (outs D hst nn)) ++ [.iface 42 (vP lb), vI loc, .iface 67 (vP yb), vI loc]) qc), row (lb) 57 #[.slice (some ⟨ld, 0, none⟩) 1 1, .int .u8 0, bF, bF], row (ld) 54 #[.iface 134 (vP li), vI loc, .iface 315 (vP la), vI loc], row (li) 136 #[vU src, vU (si : Int)], row (yb) 76 #[vP yc, vP yf, .slice (some ⟨tb, 0, none⟩) ew nn, vI 0, vI loc], row (yf) 116 #[.slice (some ⟨fb, 0, none⟩) 2 2, vI 0, vI loc], row (pb) 252 PC2, row (sb2) 260 (full symZ (symL (bump (stF1 st si n) n)) c2), row (pt) 107 QC2, ((mu, .map (uA (ubump ul2 src (n : Int))) (uN (ubump ul2 src (n : Int)))) : Rw), row (cs) 99 KC2, row (gb2) 31 (full refZ ([vU src, vU (si : Int), vU src, vU (n : Int), vU src, vU (n + 1 : Int), vU src, vU (n + 1 + 1 : Int), vU src, vU (n + 1 + 1 + 1 + 1 : Int), vU src, vU (n + 1 + 1 + 1 + 1 : Int)]) cg2), row (db) 113 (full dsyZ [vU src, vU (si : Int), bF, vU src, vU (n : Int), bF, vU src, vU (n + 1 : Int), bF, vU src, vU (n + 1 + 1 : Int), bF, vU src, vU (n + 1 + 1 + 1 + 1 : Int), bF] cd), row (tb) 61 (full stmZ (stL D (arrI D hst nn nn)) 0)] X := hQ.back HL.out HX.out [10, 11, 12, 14] (by decide) (by decide)
  clear hQ HL HX hO
  have hO := hN
  clear hN
  have h9 := HEW.out
  subst h9
  exact ⟨qb, qc, lb, ld, li, la, yb, yc, yf, fb, sb2, c2, gb2, cg2, db, cd, PC2, QC2, KC2, (ubump ul2 src (n : Int)), (some ⟨tb, 0, none⟩), by rw [← HR.out], hp350, hp32, hp105, hp106, hq4, hq3, hm5, (fun _ => rfl), hO.sub [0, 1, 2, 3, 4, 5, 6, 7, 8, 9, 10, 11, 12, 13] (by decide)⟩
end Go.Proofs.YtikopplofkemlaaDoor.Use
