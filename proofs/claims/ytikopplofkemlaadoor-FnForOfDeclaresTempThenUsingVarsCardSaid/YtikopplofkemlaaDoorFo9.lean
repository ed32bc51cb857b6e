/- Several texts in one. No condition. -/
import Derived.Test.YtikopplofkemlaaDoorFob9
import Derived.Test.YtikopplofkemlaaDoorRu0
import Derived.Test.YtikopplofkemlaaDoorFop
import Derived.Test.YtikopplofkemlaaDoorRu1
namespace Go.Proofs.YtikopplofkemlaaDoor.Use
open Go.ChangeShapes Go.WideShapes Go.ChangeAt Go.RowKit Go.Sort Own
set_option linter.unusedVariables false
set_option maxRecDepth 100000 in
set_option maxHeartbeats 4000000 in
theorem fo00 (pb : Nat) (PC : Array Value) (sb c : Nat) (nm : ByteArray) (mp k ms : Nat) (MC : Array Value) (pt : Nat) (QC : Array Value) (mu cs : Nat) (KC : Array Value) (ini dbx ib bx : Nat) (l0 l3 : Int) (qp : Nat) (lv : Int) (kb tb0 m : Nat) (ad : Nat → Nat) (lc : Nat → Int) (w0 w : World) (X : Nat → Obj → Prop) (hO : Own w0 w [row (pb) 252 PC, row (sb) 260 (full symZ (symL [sy nm 0]) c), ((mp, .map #[] k) : Rw), row (ms) 99 MC, row (pt) 107 QC, ((mu, .map (uA ([])) (uN ([]))) : Rw), row (cs) 99 KC, row (ini) 57 #[vS dbx 1 1, v8 3, bF, bF], row (dbx) 54 #[vF 134 ib, vI l3, .nilIface, vI 0], row (ib) 136 #[vU 0, vU 0], row (bx) 61 #[vF 110 kb, vI lv], row (kb) 72 #[vS tb0 m m, vI 0], row (tb0) 61 (full stmZ (stL (dtL ad lc) (List.range m)) 0)] X) (hk350 : PC[350]? = some (bF)) (hk32 : PC[32]? = some (bF)) (hk105 : PC[105]? = some (vP pt)) (hk66 : PC[66]? = some (vU 0)) (hk117 : PC[117]? = some (.map (some mp))) (hk187 : PC[187]? = some (vP ms)) (hk104 : PC[104]? = some (vP cs)) (hk23 : PC[23]? = some (.int .u64 0)) (hk34 : PC[34]? = some (v8 0)) (hk352 : PC[352]? = some (bF)) (hk333 : PC[333]? = some (bF)) (hk106 : PC[106]? = some (vS sb 1 (1 + c))) (hsu : QC[4]? = some (.map (some mu))) (hds : QC[3]? = some (vN)) (hkind : KC[15]? = some (v8 8)) (hpar : KC[1]? = some (vP qp)) (hcg : KC[5]? = some (vN)) (hgen : MC[5]? = some (vN)) (hnm : nm.size ≤ 65536) (hm : m ≤ 4096) (hloc : ∀ i : Nat, i < m → X (ad i) (.cells #[vN, v8 0, bF, bF] 57 (0, 0))) (hg0 : w0.cell? ⟨0, 0, none⟩ = some (vU 4294967295)) (hg1 : w0.cell? ⟨0, 1, none⟩ = some (vU 4294967295)) :
  Calls Tryd.prog 41 #[vP pb, .agg #[vI l0], vP ini, vP bx] w (FoP0 pb nm pt mu cs ini dbx ib bx l0 l3 lv m ad lc w0 X) := by
 refine foh0 pb PC sb c nm mp k ms MC pt QC mu cs KC ini _ dbx ib bx l0 l3 lv kb tb0 m ad lc w0 w X _ ?_ hO hk66 hk32 hk104 hk106 hkind hcg hnm hm hg0 hg1
 unfold Hu
 intro sb2 c2 gb2 cg2 tr kb tb tc nl nd ni ne bv clv
 intros
 rename_i w2 hQ
 have hL := hQ.apart
 have hX := hQ.apartX
 have hP9 := hQ.pick [0, 1, 2, 3, 4, 5, 6, 7, 8, 10, 11, 12, 13, 14, 15] dc
 refine ru0 pb (PC.setIfInBounds 106 (vS sb2 2 (2 + c2))) sb2 c2 nm mp k ms MC pt QC mu cs (KC.setIfInBounds 5 (vS gb2 1 (1 + cg2))) qp gb2 cg2 ini dbx ib tr kb bv clv tb tc m (adS nl ad) (lcS l0 lc) nl l0 nd l3 ni ne w0 w2 _ _ ?_ hP9 (get_other hk350 (by omega) _) (get_other hk32 (by omega) _) (get_other hk105 (by omega) _) (get_other hk66 (by omega) _) (get_other hk117 (by omega) _) (get_other hk187 (by omega) _) (get_other hk104 (by omega) _) (get_other hk23 (by omega) _) (get_other hk34 (by omega) _) (get_other hk352 (by omega) _) (get_other hk333 (by omega) _) (get_set hk106 _) hsu hds (get_other hkind (by omega) _) (get_other hpar (by omega) _) hgen (get_set hcg _) hm rfl rfl (fun i h0 hi => by
  obtain ⟨j, rfl⟩ : ∃ j, i = j + 1 := ⟨i - 1, by omega⟩
  exact Or.inl (hloc j (by omega))) hg0 hg1
 intro cx qb qc lb ld li la yb yc yf fb sb2_ c2_ gb2_ cg2_ db cd ca b a0 ab PC2 QC2 KC2 ul2 w3 pr0 pr1 pr2 pr3 pr4 pr5 pr6 hR
 have hN := hR.back hL hX [9, 16, 17, 18] dc dc
 exact ⟨cx, qb, qc, lb, ld, li, la, yb, yc, yf, fb, sb2_, c2_, gb2_, cg2_, db, cd, ca, b, a0, ab, tr, kb, tb, tc, nl, nd, ni, ne, clv, PC2, QC2, KC2, ul2, rfl, pr0, pr1, pr2, pr3, pr4, pr5, pr6, hN.sub [0, 1, 2, 3, 4, 5, 6, 7, 8, 9, 10, 11, 12, 13, 14, 15, 16, 17, 18, 19, 20, 21, 22, 23, 24, 25, 26] dc⟩
end Go.Proofs.YtikopplofkemlaaDoor.Use
namespace Go.Proofs.YtikopplofkemlaaDoor.Use
open Go.ChangeShapes Go.WideShapes Go.ChangeAt Go.RowKit Go.Sort Own
set_option linter.unusedVariables false
set_option maxRecDepth 100000 in
set_option maxHeartbeats 4000000 in
theorem fo10 (pb : Nat) (PC : Array Value) (sb c : Nat) (nm : ByteArray) (mp k ms : Nat) (MC : Array Value) (pt : Nat) (QC : Array Value) (mu cs : Nat) (KC : Array Value) (ini dbx ib bx : Nat) (l0 l3 : Int) (qp : Nat) (lv : Int) (bn : Nat) (w0 w : World) (X : Nat → Obj → Prop) (hO : Own w0 w [row (pb) 252 PC, row (sb) 260 (full symZ (symL [sy nm 0]) c), ((mp, .map #[] k) : Rw), row (ms) 99 MC, row (pt) 107 QC, ((mu, .map (uA ([])) (uN ([]))) : Rw), row (cs) 99 KC, row (ini) 57 #[vS dbx 1 1, v8 3, bF, bF], row (dbx) 54 #[vF 134 ib, vI l3, .nilIface, vI 0], row (ib) 136 #[vU 0, vU 0], row (bx) 61 #[vF 42 bn, vI lv]] X) (hk350 : PC[350]? = some (bF)) (hk32 : PC[32]? = some (bF)) (hk105 : PC[105]? = some (vP pt)) (hk66 : PC[66]? = some (vU 0)) (hk117 : PC[117]? = some (.map (some mp))) (hk187 : PC[187]? = some (vP ms)) (hk104 : PC[104]? = some (vP cs)) (hk23 : PC[23]? = some (.int .u64 0)) (hk34 : PC[34]? = some (v8 0)) (hk352 : PC[352]? = some (bF)) (hk333 : PC[333]? = some (bF)) (hk106 : PC[106]? = some (vS sb 1 (1 + c))) (hsu : QC[4]? = some (.map (some mu))) (hds : QC[3]? = some (vN)) (hkind : KC[15]? = some (v8 8)) (hpar : KC[1]? = some (vP qp)) (hcg : KC[5]? = some (vN)) (hgen : MC[5]? = some (vN)) (hnm : nm.size ≤ 65536) (hloc : X bn (.cells #[vN, v8 0, bF, bF] 57 (0, 0))) (hg0 : w0.cell? ⟨0, 0, none⟩ = some (vU 4294967295)) (hg1 : w0.cell? ⟨0, 1, none⟩ = some (vU 4294967295)) :
  Calls Tryd.prog 41 #[vP pb, .agg #[vI l0], vP ini, vP bx] w (FoP0 pb nm pt mu cs ini dbx ib bx l0 l3 lv 1 (fun _ => bn) (fun _ => lv) w0 X) := by
 refine foh1 pb PC sb c nm mp k ms MC pt QC mu cs KC ini _ dbx ib bx l0 l3 lv bn w0 w X _ ?_ hO hk66 hk32 hk104 hk106 hkind hcg hnm hg0 hg1
 unfold Hu
 intro sb2 c2 gb2 cg2 tr kb tb tc nl nd ni ne bv clv
 intros
 rename_i w2 hQ
 have hL := hQ.apart
 have hX := hQ.apartX
 have hP9 := hQ.pick [0, 1, 2, 3, 4, 5, 6, 7, 8, 10, 11, 12, 13, 14, 15] dc
 refine ru0 pb (PC.setIfInBounds 106 (vS sb2 2 (2 + c2))) sb2 c2 nm mp k ms MC pt QC mu cs (KC.setIfInBounds 5 (vS gb2 1 (1 + cg2))) qp gb2 cg2 ini dbx ib tr kb bv clv tb tc 1 (adS nl (fun _ => bn)) (lcS l0 (fun _ => lv)) nl l0 nd l3 ni ne w0 w2 _ _ ?_ hP9 (get_other hk350 (by omega) _) (get_other hk32 (by omega) _) (get_other hk105 (by omega) _) (get_other hk66 (by omega) _) (get_other hk117 (by omega) _) (get_other hk187 (by omega) _) (get_other hk104 (by omega) _) (get_other hk23 (by omega) _) (get_other hk34 (by omega) _) (get_other hk352 (by omega) _) (get_other hk333 (by omega) _) (get_set hk106 _) hsu hds (get_other hkind (by omega) _) (get_other hpar (by omega) _) hgen (get_set hcg _) (by omega) rfl rfl (fun i h0 hi => by
  obtain rfl : i = 1 := by omega
  exact Or.inl hloc) hg0 hg1
 intro cx qb qc lb ld li la yb yc yf fb sb2_ c2_ gb2_ cg2_ db cd ca b a0 ab PC2 QC2 KC2 ul2 w3 pr0 pr1 pr2 pr3 pr4 pr5 pr6 hR
 have hN := hR.back hL hX [9, 16, 17, 18] dc dc
 exact ⟨cx, qb, qc, lb, ld, li, la, yb, yc, yf, fb, sb2_, c2_, gb2_, cg2_, db, cd, ca, b, a0, ab, tr, kb, tb, tc, nl, nd, ni, ne, clv, PC2, QC2, KC2, ul2, rfl, pr0, pr1, pr2, pr3, pr4, pr5, pr6, hN.sub [0, 1, 2, 3, 4, 5, 6, 7, 8, 9, 10, 11, 12, 13, 14, 15, 16, 17, 18, 19, 20, 21, 22, 23, 24, 25, 26] dc⟩
end Go.Proofs.YtikopplofkemlaaDoor.Use
namespace Go.Proofs.YtikopplofkemlaaDoor.Use
open Go.ChangeShapes Go.WideShapes Go.ChangeAt Go.RowKit Go.Sort Own
set_option linter.unusedVariables false
set_option maxRecDepth 100000 in
set_option maxHeartbeats 4000000 in
theorem fo20 (pb : Nat) (PC : Array Value) (sb c : Nat) (nm : ByteArray) (mp k ms : Nat) (MC : Array Value) (pt : Nat) (QC : Array Value) (mu cs : Nat) (KC : Array Value) (ini dbx ib bx : Nat) (l0 l3 : Int) (qp : Nat) (lv : Int) (bn : Nat) (w0 w : World) (X : Nat → Obj → Prop) (hO : Own w0 w [row (pb) 252 PC, row (sb) 260 (full symZ (symL [sy nm 0]) c), ((mp, .map #[] k) : Rw), row (ms) 99 MC, row (pt) 107 QC, ((mu, .map (uA ([])) (uN ([]))) : Rw), row (cs) 99 KC, row (ini) 57 #[vS dbx 1 1, v8 3, bF, bF], row (dbx) 54 #[vF 134 ib, vI l3, .nilIface, vI 0], row (ib) 136 #[vU 0, vU 0], row (bx) 61 #[vF 275 bn, vI lv]] X) (hk350 : PC[350]? = some (bF)) (hk32 : PC[32]? = some (bF)) (hk105 : PC[105]? = some (vP pt)) (hk66 : PC[66]? = some (vU 0)) (hk117 : PC[117]? = some (.map (some mp))) (hk187 : PC[187]? = some (vP ms)) (hk104 : PC[104]? = some (vP cs)) (hk23 : PC[23]? = some (.int .u64 0)) (hk34 : PC[34]? = some (v8 0)) (hk352 : PC[352]? = some (bF)) (hk333 : PC[333]? = some (bF)) (hk106 : PC[106]? = some (vS sb 1 (1 + c))) (hsu : QC[4]? = some (.map (some mu))) (hds : QC[3]? = some (vN)) (hkind : KC[15]? = some (v8 8)) (hpar : KC[1]? = some (vP qp)) (hcg : KC[5]? = some (vN)) (hgen : MC[5]? = some (vN)) (hnm : nm.size ≤ 65536) (hg0 : w0.cell? ⟨0, 0, none⟩ = some (vU 4294967295)) (hg1 : w0.cell? ⟨0, 1, none⟩ = some (vU 4294967295)) :
  Calls Tryd.prog 41 #[vP pb, .agg #[vI l0], vP ini, vP bx] w (FoP0 pb nm pt mu cs ini dbx ib bx l0 l3 lv 0 (fun _ => 0) (fun _ => 0) w0 X) := by
 refine foh2 pb PC sb c nm mp k ms MC pt QC mu cs KC ini _ dbx ib bx l0 l3 lv bn w0 w X _ ?_ hO hk66 hk32 hk104 hk106 hkind hcg hnm hg0 hg1
 unfold Hu
 intro sb2 c2 gb2 cg2 tr kb tb tc nl nd ni ne bv clv
 intros
 rename_i w2 hQ
 have hL := hQ.apart
 have hX := hQ.apartX
 have hP9 := hQ.pick [0, 1, 2, 3, 4, 5, 6, 7, 8, 10, 11, 12, 13, 14, 15] dc
 refine ru0 pb (PC.setIfInBounds 106 (vS sb2 2 (2 + c2))) sb2 c2 nm mp k ms MC pt QC mu cs (KC.setIfInBounds 5 (vS gb2 1 (1 + cg2))) qp gb2 cg2 ini dbx ib tr kb bv clv tb tc 0 (adS nl (fun _ => 0)) (lcS l0 (fun _ => 0)) nl l0 nd l3 ni ne w0 w2 _ _ ?_ hP9 (get_other hk350 (by omega) _) (get_other hk32 (by omega) _) (get_other hk105 (by omega) _) (get_other hk66 (by omega) _) (get_other hk117 (by omega) _) (get_other hk187 (by omega) _) (get_other hk104 (by omega) _) (get_other hk23 (by omega) _) (get_other hk34 (by omega) _) (get_other hk352 (by omega) _) (get_other hk333 (by omega) _) (get_set hk106 _) hsu hds (get_other hkind (by omega) _) (get_other hpar (by omega) _) hgen (get_set hcg _) (by omega) rfl rfl (fun i h0 hi => absurd h0 (by omega)) hg0 hg1
 intro cx qb qc lb ld li la yb yc yf fb sb2_ c2_ gb2_ cg2_ db cd ca b a0 ab PC2 QC2 KC2 ul2 w3 pr0 pr1 pr2 pr3 pr4 pr5 pr6 hR
 have hN := hR.back hL hX [9, 16, 17, 18] dc dc
 exact ⟨cx, qb, qc, lb, ld, li, la, yb, yc, yf, fb, sb2_, c2_, gb2_, cg2_, db, cd, ca, b, a0, ab, tr, kb, tb, tc, nl, nd, ni, ne, clv, PC2, QC2, KC2, ul2, rfl, pr0, pr1, pr2, pr3, pr4, pr5, pr6, hN.sub [0, 1, 2, 3, 4, 5, 6, 7, 8, 9, 10, 11, 12, 13, 14, 15, 16, 17, 18, 19, 20, 21, 22, 23, 24, 25, 26] dc⟩
end Go.Proofs.YtikopplofkemlaaDoor.Use
namespace Go.Proofs.YtikopplofkemlaaDoor.Use
open Go.ChangeShapes Go.WideShapes Go.ChangeAt Go.RowKit Go.Sort Own
set_option linter.unusedVariables false
set_option maxRecDepth 100000 in
set_option maxHeartbeats 4000000 in
theorem fo01 (pb : Nat) (PC : Array Value) (sb c : Nat) (nm : ByteArray) (mp k ms : Nat) (MC : Array Value) (pt : Nat) (QC : Array Value) (mu cs : Nat) (KC : Array Value) (ini dbx ib bx : Nat) (l0 l3 : Int) (qp : Nat) (lv : Int) (kb tb0 m : Nat) (ad : Nat → Nat) (lc : Nat → Int) (w0 w : World) (X : Nat → Obj → Prop) (hO : Own w0 w [row (pb) 252 PC, row (sb) 260 (full symZ (symL [sy nm 0]) c), ((mp, .map #[] k) : Rw), row (ms) 99 MC, row (pt) 107 QC, ((mu, .map (uA ([])) (uN ([]))) : Rw), row (cs) 99 KC, row (ini) 57 #[vS dbx 1 1, v8 4, bF, bF], row (dbx) 54 #[vF 134 ib, vI l3, .nilIface, vI 0], row (ib) 136 #[vU 0, vU 0], row (bx) 61 #[vF 110 kb, vI lv], row (kb) 72 #[vS tb0 m m, vI 0], row (tb0) 61 (full stmZ (stL (dtL ad lc) (List.range m)) 0)] X) (hk350 : PC[350]? = some (bF)) (hk32 : PC[32]? = some (bF)) (hk105 : PC[105]? = some (vP pt)) (hk66 : PC[66]? = some (vU 0)) (hk117 : PC[117]? = some (.map (some mp))) (hk187 : PC[187]? = some (vP ms)) (hk104 : PC[104]? = some (vP cs)) (hk23 : PC[23]? = some (.int .u64 0)) (hk34 : PC[34]? = some (v8 0)) (hk352 : PC[352]? = some (bF)) (hk333 : PC[333]? = some (bF)) (hk106 : PC[106]? = some (vS sb 1 (1 + c))) (hsu : QC[4]? = some (.map (some mu))) (hds : QC[3]? = some (vN)) (hkind : KC[15]? = some (v8 8)) (hpar : KC[1]? = some (vP qp)) (hcg : KC[5]? = some (vN)) (hgen : MC[5]? = some (vN)) (hnm : nm.size ≤ 65536) (hm : m ≤ 4096) (hloc : ∀ i : Nat, i < m → X (ad i) (.cells #[vN, v8 0, bF, bF] 57 (0, 0))) (hg0 : w0.cell? ⟨0, 0, none⟩ = some (vU 4294967295)) (hg1 : w0.cell? ⟨0, 1, none⟩ = some (vU 4294967295)) :
  Calls Tryd.prog 41 #[vP pb, .agg #[vI l0], vP ini, vP bx] w (FoP1 pb nm pt mu cs ini dbx ib bx l0 l3 lv m ad lc w0 X) := by
 refine foh0 pb PC sb c nm mp k ms MC pt QC mu cs KC ini _ dbx ib bx l0 l3 lv kb tb0 m ad lc w0 w X _ ?_ hO hk66 hk32 hk104 hk106 hkind hcg hnm hm hg0 hg1
 unfold Hu
 intro sb2 c2 gb2 cg2 tr kb tb tc nl nd ni ne bv clv
 intros
 rename_i w2 hQ
 have hL := hQ.apart
 have hX := hQ.apartX
 have hP9 := hQ.pick [0, 1, 2, 3, 4, 5, 6, 7, 8, 10, 11, 12, 13, 14, 15] dc
 refine ru1 pb (PC.setIfInBounds 106 (vS sb2 2 (2 + c2))) sb2 c2 nm mp k ms MC pt QC mu cs (KC.setIfInBounds 5 (vS gb2 1 (1 + cg2))) qp gb2 cg2 ini dbx ib tr kb bv clv tb tc m (adS nl ad) (lcS l0 lc) nl l0 nd l3 ni ne w0 w2 _ _ ?_ hP9 (get_other hk350 (by omega) _) (get_other hk32 (by omega) _) (get_other hk105 (by omega) _) (get_other hk66 (by omega) _) (get_other hk117 (by omega) _) (get_other hk187 (by omega) _) (get_other hk104 (by omega) _) (get_other hk23 (by omega) _) (get_other hk34 (by omega) _) (get_other hk352 (by omega) _) (get_other hk333 (by omega) _) (get_set hk106 _) hsu hds (get_other hkind (by omega) _) (get_other hpar (by omega) _) hgen (get_set hcg _) hm rfl rfl (fun i h0 hi => by
  obtain ⟨j, rfl⟩ : ∃ j, i = j + 1 := ⟨i - 1, by omega⟩
  exact Or.inl (hloc j (by omega))) hg0 hg1
 intro cx qb qc lb ld li la yb yc yf fb sb2_ c2_ gb2_ cg2_ db cd ca b a0 ab a2 ac PC2 QC2 KC2 ul2 w3 pr0 pr1 pr2 pr3 pr4 pr5 pr6 hR
 have hN := hR.back hL hX [9, 16, 17, 18] dc dc
 exact ⟨cx, qb, qc, lb, ld, li, la, yb, yc, yf, fb, sb2_, c2_, gb2_, cg2_, db, cd, ca, b, a0, ab, a2, ac, tr, kb, tb, tc, nl, nd, ni, ne, clv, PC2, QC2, KC2, ul2, rfl, pr0, pr1, pr2, pr3, pr4, pr5, pr6, hN.sub [0, 1, 2, 3, 4, 5, 6, 7, 8, 9, 10, 11, 12, 13, 14, 15, 16, 17, 18, 19, 20, 21, 22, 23, 24, 25, 26, 27] dc⟩
end Go.Proofs.YtikopplofkemlaaDoor.Use
namespace Go.Proofs.YtikopplofkemlaaDoor.Use
open Go.ChangeShapes Go.WideShapes Go.ChangeAt Go.RowKit Go.Sort Own
set_option linter.unusedVariables false
set_option maxRecDepth 100000 in
set_option maxHeartbeats 4000000 in
theorem fo11 (pb : Nat) (PC : Array Value) (sb c : Nat) (nm : ByteArray) (mp k ms : Nat) (MC : Array Value) (pt : Nat) (QC : Array Value) (mu cs : Nat) (KC : Array Value) (ini dbx ib bx : Nat) (l0 l3 : Int) (qp : Nat) (lv : Int) (bn : Nat) (w0 w : World) (X : Nat → Obj → Prop) (hO : Own w0 w [row (pb) 252 PC, row (sb) 260 (full symZ (symL [sy nm 0]) c), ((mp, .map #[] k) : Rw), row (ms) 99 MC, row (pt) 107 QC, ((mu, .map (uA ([])) (uN ([]))) : Rw), row (cs) 99 KC, row (ini) 57 #[vS dbx 1 1, v8 4, bF, bF], row (dbx) 54 #[vF 134 ib, vI l3, .nilIface, vI 0], row (ib) 136 #[vU 0, vU 0], row (bx) 61 #[vF 42 bn, vI lv]] X) (hk350 : PC[350]? = some (bF)) (hk32 : PC[32]? = some (bF)) (hk105 : PC[105]? = some (vP pt)) (hk66 : PC[66]? = some (vU 0)) (hk117 : PC[117]? = some (.map (some mp))) (hk187 : PC[187]? = some (vP ms)) (hk104 : PC[104]? = some (vP cs)) (hk23 : PC[23]? = some (.int .u64 0)) (hk34 : PC[34]? = some (v8 0)) (hk352 : PC[352]? = some (bF)) (hk333 : PC[333]? = some (bF)) (hk106 : PC[106]? = some (vS sb 1 (1 + c))) (hsu : QC[4]? = some (.map (some mu))) (hds : QC[3]? = some (vN)) (hkind : KC[15]? = some (v8 8)) (hpar : KC[1]? = some (vP qp)) (hcg : KC[5]? = some (vN)) (hgen : MC[5]? = some (vN)) (hnm : nm.size ≤ 65536) (hloc : X bn (.cells #[vN, v8 0, bF, bF] 57 (0, 0))) (hg0 : w0.cell? ⟨0, 0, none⟩ = some (vU 4294967295)) (hg1 : w0.cell? ⟨0, 1, none⟩ = some (vU 4294967295)) :
  Calls Tryd.prog 41 #[vP pb, .agg #[vI l0], vP ini, vP bx] w (FoP1 pb nm pt mu cs ini dbx ib bx l0 l3 lv 1 (fun _ => bn) (fun _ => lv) w0 X) := by
 refine foh1 pb PC sb c nm mp k ms MC pt QC mu cs KC ini _ dbx ib bx l0 l3 lv bn w0 w X _ ?_ hO hk66 hk32 hk104 hk106 hkind hcg hnm hg0 hg1
 unfold Hu
 intro sb2 c2 gb2 cg2 tr kb tb tc nl nd ni ne bv clv
 intros
 rename_i w2 hQ
 have hL := hQ.apart
 have hX := hQ.apartX
 have hP9 := hQ.pick [0, 1, 2, 3, 4, 5, 6, 7, 8, 10, 11, 12, 13, 14, 15] dc
 refine ru1 pb (PC.setIfInBounds 106 (vS sb2 2 (2 + c2))) sb2 c2 nm mp k ms MC pt QC mu cs (KC.setIfInBounds 5 (vS gb2 1 (1 + cg2))) qp gb2 cg2 ini dbx ib tr kb bv clv tb tc 1 (adS nl (fun _ => bn)) (lcS l0 (fun _ => lv)) nl l0 nd l3 ni ne w0 w2 _ _ ?_ hP9 (get_other hk350 (by omega) _) (get_other hk32 (by omega) _) (get_other hk105 (by omega) _) (get_other hk66 (by omega) _) (get_other hk117 (by omega) _) (get_other hk187 (by omega) _) (get_other hk104 (by omega) _) (get_other hk23 (by omega) _) (get_other hk34 (by omega) _) (get_other hk352 (by omega) _) (get_other hk333 (by omega) _) (get_set hk106 _) hsu hds (get_other hkind (by omega) _) (get_other hpar (by omega) _) hgen (get_set hcg _) (by omega) rfl rfl (fun i h0 hi => by
  obtain rfl : i = 1 := by omega
  exact Or.inl hloc) hg0 hg1
 intro cx qb qc lb ld li la yb yc yf fb sb2_ c2_ gb2_ cg2_ db cd ca b a0 ab a2 ac PC2 QC2 KC2 ul2 w3 pr0 pr1 pr2 pr3 pr4 pr5 pr6 hR
 have hN := hR.back hL hX [9, 16, 17, 18] dc dc
 exact ⟨cx, qb, qc, lb, ld, li, la, yb, yc, yf, fb, sb2_, c2_, gb2_, cg2_, db, cd, ca, b, a0, ab, a2, ac, tr, kb, tb, tc, nl, nd, ni, ne, clv, PC2, QC2, KC2, ul2, rfl, pr0, pr1, pr2, pr3, pr4, pr5, pr6, hN.sub [0, 1, 2, 3, 4, 5, 6, 7, 8, 9, 10, 11, 12, 13, 14, 15, 16, 17, 18, 19, 20, 21, 22, 23, 24, 25, 26, 27] dc⟩
end Go.Proofs.YtikopplofkemlaaDoor.Use
namespace Go.Proofs.YtikopplofkemlaaDoor.Use
open Go.ChangeShapes Go.WideShapes Go.ChangeAt Go.RowKit Go.Sort Own
set_option linter.unusedVariables false
set_option maxRecDepth 100000 in
set_option maxHeartbeats 4000000 in
theorem fo21 (pb : Nat) (PC : Array Value) (sb c : Nat) (nm : ByteArray) (mp k ms : Nat) (MC : Array Value) (pt : Nat) (QC : Array Value) (mu cs : Nat) (KC : Array Value) (ini dbx ib bx : Nat) (l0 l3 : Int) (qp : Nat) (lv : Int) (bn : Nat) (w0 w : World) (X : Nat → Obj → Prop) (hO : Own w0 w [row (pb) 252 PC, row (sb) 260 (full symZ (symL [sy nm 0]) c), ((mp, .map #[] k) : Rw), row (ms) 99 MC, row (pt) 107 QC, ((mu, .map (uA ([])) (uN ([]))) : Rw), row (cs) 99 KC, row (ini) 57 #[vS dbx 1 1, v8 4, bF, bF], row (dbx) 54 #[vF 134 ib, vI l3, .nilIface, vI 0], row (ib) 136 #[vU 0, vU 0], row (bx) 61 #[vF 275 bn, vI lv]] X) (hk350 : PC[350]? = some (bF)) (hk32 : PC[32]? = some (bF)) (hk105 : PC[105]? = some (vP pt)) (hk66 : PC[66]? = some (vU 0)) (hk117 : PC[117]? = some (.map (some mp))) (hk187 : PC[187]? = some (vP ms)) (hk104 : PC[104]? = some (vP cs)) (hk23 : PC[23]? = some (.int .u64 0)) (hk34 : PC[34]? = some (v8 0)) (hk352 : PC[352]? = some (bF)) (hk333 : PC[333]? = some (bF)) (hk106 : PC[106]? = some (vS sb 1 (1 + c))) (hsu : QC[4]? = some (.map (some mu))) (hds : QC[3]? = some (vN)) (hkind : KC[15]? = some (v8 8)) (hpar : KC[1]? = some (vP qp)) (hcg : KC[5]? = some (vN)) (hgen : MC[5]? = some (vN)) (hnm : nm.size ≤ 65536) (hg0 : w0.cell? ⟨0, 0, none⟩ = some (vU 4294967295)) (hg1 : w0.cell? ⟨0, 1, none⟩ = some (vU 4294967295)) :
  Calls Tryd.prog 41 #[vP pb, .agg #[vI l0], vP ini, vP bx] w (FoP1 pb nm pt mu cs ini dbx ib bx l0 l3 lv 0 (fun _ => 0) (fun _ => 0) w0 X) := by
 refine foh2 pb PC sb c nm mp k ms MC pt QC mu cs KC ini _ dbx ib bx l0 l3 lv bn w0 w X _ ?_ hO hk66 hk32 hk104 hk106 hkind hcg hnm hg0 hg1
 unfold Hu
 intro sb2 c2 gb2 cg2 tr kb tb tc nl nd ni ne bv clv
 intros
 rename_i w2 hQ
 have hL := hQ.apart
 have hX := hQ.apartX
 have hP9 := hQ.pick [0, 1, 2, 3, 4, 5, 6, 7, 8, 10, 11, 12, 13, 14, 15] dc
 refine ru1 pb (PC.setIfInBounds 106 (vS sb2 2 (2 + c2))) sb2 c2 nm mp k ms MC pt QC mu cs (KC.setIfInBounds 5 (vS gb2 1 (1 + cg2))) qp gb2 cg2 ini dbx ib tr kb bv clv tb tc 0 (adS nl (fun _ => 0)) (lcS l0 (fun _ => 0)) nl l0 nd l3 ni ne w0 w2 _ _ ?_ hP9 (get_other hk350 (by omega) _) (get_other hk32 (by omega) _) (get_other hk105 (by omega) _) (get_other hk66 (by omega) _) (get_other hk117 (by omega) _) (get_other hk187 (by omega) _) (get_other hk104 (by omega) _) (get_other hk23 (by omega) _) (get_other hk34 (by omega) _) (get_other hk352 (by omega) _) (get_other hk333 (by omega) _) (get_set hk106 _) hsu hds (get_other hkind (by omega) _) (get_other hpar (by omega) _) hgen (get_set hcg _) (by omega) rfl rfl (fun i h0 hi => absurd h0 (by omega)) hg0 hg1
 intro cx qb qc lb ld li la yb yc yf fb sb2_ c2_ gb2_ cg2_ db cd ca b a0 ab a2 ac PC2 QC2 KC2 ul2 w3 pr0 pr1 pr2 pr3 pr4 pr5 pr6 hR
 have hN := hR.back hL hX [9, 16, 17, 18] dc dc
 exact ⟨cx, qb, qc, lb, ld, li, la, yb, yc, yf, fb, sb2_, c2_, gb2_, cg2_, db, cd, ca, b, a0, ab, a2, ac, tr, kb, tb, tc, nl, nd, ni, ne, clv, PC2, QC2, KC2, ul2, rfl, pr0, pr1, pr2, pr3, pr4, pr5, pr6, hN.sub [0, 1, 2, 3, 4, 5, 6, 7, 8, 9, 10, 11, 12, 13, 14, 15, 16, 17, 18, 19, 20, 21, 22, 23, 24, 25, 26, 27] dc⟩
end Go.Proofs.YtikopplofkemlaaDoor.Use
