/- finalize's door. No condition. -/
import Derived.Test.YtikopplofkemlaaDoorAbb
import Derived.Test.YtikopplofkemlaaDoorFinz0
import Derived.Test.YtikopplofkemlaaDoorMsc
import Derived.Test.YtikopplofkemlaaDoorEls
import Derived.Test.YtikopplofkemlaaDoorUmp
import Derived.Test.YtikopplofkemlaaDoorLive
import Derived.Test.YtikopplofkemlaaDoorLoop
import Derived.Test.YtikopplofkemlaaDoorUms
import Derived.Test.YtikopplofkemlaaDoorAppL
import Derived.Test.YtikopplofkemlaaDoorApp
import Derived.Test.YtikopplofkemlaaDoorOwnK
import Derived.Test.YtikopplofkemlaaDoorOwn
import Derived.Test.YtikopplofkemlaaDoorDeepCells
import Derived.Test.YtikopplofkemlaaDoorRows
import Derived.Test.YtikopplofkemlaaDoorUse
namespace Go.Proofs.YtikopplofkemlaaDoor.Use
open Go.ChangeShapes Go.WideShapes Go.ChangeAt Go.RowKit Go.Sort Own
set_option linter.unusedVariables false
def finD0Post (pb : Nat) (PC : Array Value) (sb c : Nat) (st : List Sy) (n : Nat) (src : Int) (mp : Nat) (es : Array MapEntry) (k ms : Nat) (MC : Array Value) (pt : Nat) (QC : Array Value) (mu : Nat) (ul : List (Int × Int × Int)) (cs : Nat) (KC : Array Value) (cx : Nat) (loc : Int) (si tb : Nat) (D : Dt) (nn : Nat) (hst : Bool) (w0 : World) (X : Nat → Obj → Prop) (e : Ending) (w' : World) : Prop :=
 ∃ qb : Nat, ∃ qc : Nat, ∃ lb : Nat, ∃ ld : Nat, ∃ li : Nat, ∃ la : Nat, ∃ yb : Nat, ∃ yc : Nat, ∃ yf : Nat, ∃ fb : Nat, ∃ sb2 : Nat, ∃ c2 : Nat, ∃ gb2 : Nat, ∃ cg2 : Nat, ∃ db : Nat, ∃ cd : Nat, ∃ PC2 : Array Value, ∃ QC2 : Array Value, ∃ KC2 : Array Value, ∃ ul2 : List (Int × Int × Int), ∃ sa : Option Addr, e = .returned (.slice (some ⟨qb, 0, none⟩) ((outs D hst nn).length + 2) ((outs D hst nn).length + 2 + qc)) ∧ PC2[350]? = some (bF) ∧ PC2[32]? = some (bF) ∧ PC2[105]? = some (vP pt) ∧ PC2[106]? = some (.slice (some ⟨sb2, 0, none⟩) (n + 4) (n + 4 + c2)) ∧ QC2[4]? = some (.map (some mu)) ∧ QC2[3]? = some (.slice (some ⟨db, 0, none⟩) 4 (4 + cd)) ∧ KC2[5]? = some (.slice (some ⟨gb2, 0, none⟩) 4 (4 + cg2)) ∧ (0 < (ins D hst nn).length → sa = some ⟨tb, 0, none⟩) ∧ Own w0 w' [row (qb) 61 (full stmZ (stL D (outs D hst nn) ++ [.iface 42 (vP lb), vI loc, .iface 67 (vP yb), vI loc]) qc), row (lb) 57 #[.slice (some ⟨ld, 0, none⟩) 1 1, .int .u8 0, bF, bF], row (ld) 54 #[.iface 134 (vP li), vI loc, .iface 315 (vP la), vI loc], row (li) 136 #[vU src, vU (si : Int)], row (yb) 76 #[vP yc, vP yf, .slice sa (ins D hst nn).length nn, vI 0, vI loc], row (yf) 116 #[.slice (some ⟨fb, 0, none⟩) 1 1, vI 0, vI loc], row (pb) 252 PC2, row (sb2) 260 (full symZ (symL (bump (stF0 st si n) n)) c2), row (pt) 107 QC2, ((mu, .map (uA ul2) (uN ul2)) : Rw), row (cs) 99 KC2, row (gb2) 31 (full refZ ([vU src, vU (si : Int), vU src, vU (n : Int), vU src, vU (n + 1 : Int), vU src, vU (n + 1 + 1 : Int)]) cg2), row (db) 113 (full dsyZ [vU src, vU (si : Int), bF, vU src, vU (n : Int), bF, vU src, vU (n + 1 : Int), bF, vU src, vU (n + 1 + 1 : Int), bF] cd), row (tb) 61 (full stmZ (stL D (arrI D hst nn nn)) 0)] X
set_option maxRecDepth 100000 in
set_option maxHeartbeats 1000000 in
theorem finD0 (pb : Nat) (PC : Array Value) (sb c : Nat) (st : List Sy) (n : Nat) (src : Int) (mp : Nat) (es : Array MapEntry) (k ms : Nat) (MC : Array Value) (pt : Nat) (QC : Array Value) (mu : Nat) (ul : List (Int × Int × Int)) (cs : Nat) (KC : Array Value) (cx : Nat) (loc : Int) (si tb : Nat) (D : Dt) (nn : Nat) (hst : Bool) (w0 w : World) (X : Nat → Obj → Prop) (hO : Own w0 w [row (cx) 33 #[vI loc, vU src, vU (si : Int), bF], row (pb) 252 PC, row (sb) 260 (full symZ (symL st) c), ((mp, .map es k) : Rw), row (ms) 99 MC, row (pt) 107 QC, ((mu, .map (uA ul) (uN ul)) : Rw), row (cs) 99 KC, row (tb) 61 (full stmZ (stL D (List.range nn)) 0)] X) (hk350 : PC[350]? = some (bF)) (hk32 : PC[32]? = some (bF)) (hk105 : PC[105]? = some (vP pt)) (hk66 : PC[66]? = some (vU src)) (hk117 : PC[117]? = some (.map (some mp))) (hk187 : PC[187]? = some (vP ms)) (hk104 : PC[104]? = some (vP cs)) (hk333 : PC[333]? = some (bF)) (hk23 : PC[23]? = some (.int .u64 0)) (hk106 : PC[106]? = some (.slice (some ⟨sb, 0, none⟩) n (n + c))) (hn : st.length = n) (hnb : n ≤ 100000) (hsu : QC[4]? = some (.map (some mu))) (hds : QC[3]? = some (vN)) (hkind : KC[15]? = some (.int .u8 8)) (hgen : MC[5]? = some (vN)) (hcg : KC[5]? = some (vN)) (hsi : si < n) (hno : Instr.findNow .string (.string ⟨#[95, 95, 99, 97, 108, 108, 68, 105, 115, 112, 111, 115, 101]⟩) es.toList 0 = some none) (hnn : nn ≤ 5000) (hkd : ∀ i : Nat, i < nn → D.kd i < 4) (hloc : ∀ i : Nat, i < nn → D.kd i = 3 → ∃ lcs : List Value, X (D.ad i) (.cells lcs.toArray 57 (0, 0)) ∧ lcs[2]? = some (bF)) (hg0 : w0.cell? ⟨0, 0, none⟩ = some (vU 4294967295)) (hg1 : w0.cell? ⟨0, 1, none⟩ = some (vU 4294967295)) :
  Calls Tryd.prog 14 #[vP cx, vP pb, .slice (some ⟨tb, 0, none⟩) nn nn, .bool hst] w (finD0Post pb PC sb c st n src mp es k ms MC pt QC mu ul cs KC cx loc si tb D nn hst w0 X) := by
 go_enter Tryd.func14, Tryd.ntmps14
 have HLC := Lib.hid hloc
 clear hloc
 have HKD := Lib.hid hkd
 clear hkd
 obtain ⟨c9_0_0, c9_0_1, c9_0_2, c9_0_3, lt9_0, y9_0, -⟩ := hO.k4 0 rfl
 have HO := Lib.hid hO
 clear hO
 go_wp2_with (first | (with_reducible refine Own.stay (fn := Tryd.f14) ?_) | fail)
 try with_reducible refine Own.Stay.mk ?_
 have hO := HO.out
 clear HO c9_0_0 c9_0_1 c9_0_2 c9_0_3 lt9_0 y9_0
 have hL := hO.apart
 have hX := hO.apartX
 have HL := Lib.hid hL
 have HX := Lib.hid hX
 clear hL hX
 have hP9 := hO.pick [0, 1, 2, 3, 4, 5, 6, 7, 8] (by decide)
 have h9_hkd : ∀ i : Nat, i < nn → D.kd i < 4 := HKD.out
 have T9 := finz0 pb PC sb c st n src mp es k ms MC pt QC mu ul cs KC cx loc si tb D nn hst _ _ _ hP9 hk350 hk32 hk105 hk66 hk117 hk187 hk104 hk333 hk23 hk106 hn hnb hsu hds hkind hgen hcg hsi hno hnn h9_hkd (fun i hi h3 => let ⟨l, a, b⟩ := HLC.out i hi h3; ⟨l, Or.inl a, b⟩) hg0 hg1
 refine Calls.mono T9 ?_
 clear hP9 T9 h9_hkd
 rintro e uw1 ⟨nd2, nd3, nd4, nd5, nd6, nd7, nd8, nd9, nd10, nd11, nd12, nd13, nd14, nd15, nd16, nd17, nd18, nd19, nd20, nd21, nd22, rfl, pr23, pr24, pr25, pr26, pr27, pr28, pr29, pr30, hQ⟩
 have hN : Own w0 uw1 [row (nd2) 61 (full stmZ (stL D (outs D hst nn) ++ [.iface 42 (vP nd4), vI loc, .iface 67 (vP nd8), vI loc]) nd3), row (nd4) 57 #[.slice (some ⟨nd5, 0, none⟩) 1 1, .int .u8 0, bF, bF], row (nd5) 54 #[.iface 134 (vP nd6), vI loc, .iface 315 (vP nd7), vI loc], row (nd6) 136 #[vU src, vU (si : Int)], row (nd8) 76 #[vP nd9, vP nd10, .slice nd22 (ins D hst nn).length nn, vI 0, vI loc], row (nd10) 116 #[.slice (some ⟨nd11, 0, none⟩) 1 1, vI 0, vI loc], row (pb) 252 nd18, row (nd12) 260 (full symZ (symL (bump (stF0 st si n) n)) nd13), row (pt) 107 nd19, ((mu, .map (uA nd21) (uN nd21)) : Rw), row (cs) 99 nd20, row (nd14) 31 (full refZ [vU src, vU (si : Int), vU src, vU (n : Int), vU src, vU (n + 1 : Int), vU src, vU (n + 1 + 1 : Int)] nd15), row (nd16) 113 (full dsyZ [vU src, vU (si : Int), bF, vU src, vU (n : Int), bF, vU src, vU (n + 1 : Int), bF, vU src, vU (n + 1 + 1 : Int), bF] nd17), row (tb) 61 (full stmZ (stL D (arrI D hst nn nn)) 0)] X := hQ.back HL.out HX.out [] (by decide) (by decide)
 clear hQ HL HX hO
 have hO := hN
 clear hN
 obtain ⟨c9_1_0, c9_1_1, c9_1_2, c9_1_3, lt9_1, y9_1, -⟩ := hO.k4 1 rfl
 obtain ⟨c9_2_0, c9_2_1, c9_2_2, c9_2_3, lt9_2, y9_2, -⟩ := hO.k4 2 rfl
 obtain ⟨c9_3_0, c9_3_1, lt9_3, y9_3, -⟩ := hO.k2 3 rfl
 obtain ⟨c9_4_0, c9_4_1, c9_4_2, c9_4_3, c9_4_4, lt9_4, y9_4, -⟩ := hO.k5 4 rfl
 obtain ⟨c9_5_0, c9_5_1, c9_5_2, lt9_5, y9_5, -⟩ := hO.k3 5 rfl
 have HO := Lib.hid hO
 clear hO
 go_wp2_with (first | (with_reducible refine Own.stay (fn := Tryd.f14) ?_) | fail)
 try with_reducible refine Own.Stay.mk ?_
 have hO := HO.out
 clear HO c9_1_0 c9_1_1 c9_1_2 c9_1_3 lt9_1 y9_1 c9_2_0 c9_2_1 c9_2_2 c9_2_3 lt9_2 y9_2 c9_3_0 c9_3_1 lt9_3 y9_3 c9_4_0 c9_4_1 c9_4_2 c9_4_3 c9_4_4 lt9_4 y9_4 c9_5_0 c9_5_1 c9_5_2 lt9_5 y9_5
 refine bodyPost_ret (v := .slice (some ⟨nd2, 0, none⟩) ((outs D hst nn).length + 2) ((outs D hst nn).length + 2 + nd3)) ?_ rfl ⟨nd2, nd3, nd4, nd5, nd6, nd7, nd8, nd9, nd10, nd11, nd12, nd13, nd14, nd15, nd16, nd17, nd18, nd19, nd20, nd21, nd22, rfl, pr23, pr24, pr25, pr26, pr27, pr28, pr29, pr30, hO.sub [0, 1, 2, 3, 4, 5, 6, 7, 8, 9, 10, 11, 12, 13] (by decide)⟩
 simp [results, Tryd.results14, go_sem]
end Go.Proofs.YtikopplofkemlaaDoor.Use
