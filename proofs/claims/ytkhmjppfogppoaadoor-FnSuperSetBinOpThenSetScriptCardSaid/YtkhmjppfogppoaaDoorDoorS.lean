/- The doors of the script. No condition. -/
import Derived.Test.YtkhmjppfogppoaaDoorBinU
import Derived.Test.YtkhmjppfogppoaaDoorUniI
import Derived.Test.YtkhmjppfogppoaaDoorLive
import Derived.Test.YtkhmjppfogppoaaDoorApp
import Derived.Test.YtkhmjppfogppoaaDoorOwnK
import Derived.Test.YtkhmjppfogppoaaDoorOwn
import Derived.Test.YtkhmjppfogppoaaDoorDeepCells
import Derived.Test.YtkhmjppfogppoaaDoorRows
import Derived.Test.YtkhmjppfogppoaaDoorUse
namespace Go.Proofs.YtkhmjppfogppoaaDoor.Use
open Go.ChangeShapes Go.WideShapes Go.ChangeAt Go.RowKit Go.Sort Own
set_option linter.unusedVariables false
def dbinopUPost (pb : Nat) (PC : Array Value) (sb c mp ms : Nat) (MC : Array Value) (cr : Nat) (loc : Int) (r s : Bool) (eb ub ln cp : Nat) (kl op : Int) (vT vx : Nat) (vl : Int) (w0 : World) (X : Nat → Obj → Prop) (e : Ending) (w' : World) : Prop :=
  ∃ bs : Nat, ∃ cas : Nat, ∃ sxs : Nat, ∃ sb2 : Nat, ∃ c2 : Nat, ∃ gb2 : Nat, ∃ cg2 : Nat, e = .returned (.agg #[.iface 65 (.pointer (some ⟨cas, 0, none⟩)), .int .i32 loc]) ∧ Own w0 w' [row (pb) 193 (PC.setIfInBounds 106 (.slice (some ⟨sb2, 0, none⟩) 3 (3 + c2))), row (sb2) 56 (full symZ (symL ([sy ⟨#[70, 111, 111]⟩ (uz r (uz r 0)), sy ⟨#[95, 95, 115, 117, 112, 101, 114, 71, 101, 116]⟩ 1, sy ⟨#[95, 95, 115, 117, 112, 101, 114, 83, 101, 116]⟩ 1])) c2), ((mp, .map #[⟨.string ⟨#[95, 95, 115, 117, 112, 101, 114, 71, 101, 116]⟩, .agg #[.int .i32 loc, .int .u32 0, .int .u32 1], 0⟩, ⟨.string ⟨#[95, 95, 115, 117, 112, 101, 114, 83, 101, 116]⟩, .agg #[.int .i32 loc, .int .u32 0, .int .u32 2], 1⟩] 2) : Rw), row (ms) 203 (MC.setIfInBounds 5 (.slice (some ⟨gb2, 0, none⟩) 2 (2 + cg2))), row (gb2) 25 (full refZ ([.int .u32 0, .int .u32 1, .int .u32 0, .int .u32 2]) cg2), row (cr) 25 #[.int .u32 0, .int .u32 0], row (eb) 208 #[.slice (some ⟨ub, 0, none⟩) ln cp, .int .i32 0, .bool false, .bool false, .bool false], row (bs) 211 #[.int .u32 0, .int .u32 2, .bool false, .bool false, .bool false], row (cas) 71 #[.iface 209 (.pointer (some ⟨bs, 0, none⟩)), .int .i32 loc, .slice (some ⟨sxs, 0, none⟩) 4 4, .int .i32 0, .int .u8 0, .int .u8 0, .bool false, .bool false]] X
set_option maxRecDepth 100000 in
set_option maxHeartbeats 1000000 in
theorem dbinopU (pb : Nat) (PC : Array Value) (sb c mp ms : Nat) (MC : Array Value) (cr : Nat) (loc : Int) (r s : Bool) (eb ub ln cp : Nat) (kl op : Int) (vT vx : Nat) (vl : Int) (w0 w : World) (X : Nat → Obj → Prop) (hO : Own w0 w [row (pb) 193 PC, row (sb) 56 (full symZ (symL ([sy ⟨#[70, 111, 111]⟩ 0])) c), ((mp, .map #[] 0) : Rw), row (ms) 203 MC, row (cr) 25 #[.int .u32 0, .int .u32 0], row (eb) 208 #[.slice (some ⟨ub, 0, none⟩) ln cp, .int .i32 0, .bool false, .bool false, .bool false]] X) (hk350 : PC[350]? = some (.bool false)) (hk32 : PC[32]? = some (.bool false)) (hk105 : PC[105]? = some (.pointer none)) (hk66 : PC[66]? = some (.int .u32 0)) (hk117 : PC[117]? = some (.map (some mp))) (hk187 : PC[187]? = some (.pointer (some ⟨ms, 0, none⟩))) (hk97 : PC[97]? = some (.pointer (some ⟨cr, 0, none⟩))) (hk95 : PC[95]? = some (.bool r)) (hk96 : PC[96]? = some (.bool s)) (hk106 : PC[106]? = some (.slice (some ⟨sb, 0, none⟩) 1 (1 + c))) (hgen : MC[5]? = some (.slice none 0 0)) (hg0 : w0.cell? ⟨0, 0, none⟩ = some (.int .u32 4294967295)) (hg1 : w0.cell? ⟨0, 1, none⟩ = some (.int .u32 4294967295)) :
    Calls Tryd.prog 21 #[.pointer (some ⟨pb, 0, none⟩), .agg #[.int .i32 loc], .agg #[.iface 206 (.pointer (some ⟨eb, 0, none⟩)), .int .i32 kl], .int .u8 op, .agg #[.iface vT (.pointer (some ⟨vx, 0, none⟩)), .int .i32 vl]] w (dbinopUPost pb PC sb c mp ms MC cr loc r s eb ub ln cp kl op vT vx vl w0 X) := by
  go_enter Tryd.func21, Tryd.ntmps21
  obtain ⟨c9_4_0, c9_4_1, lt9_4, y9_4, -⟩ := hO.k2 4 rfl
  obtain ⟨c9_5_0, c9_5_1, c9_5_2, c9_5_3, c9_5_4, lt9_5, y9_5, -⟩ := hO.k5 5 rfl
  have HO := Lib.hid hO
  clear hO
  go_wp2_with (first | (with_reducible refine Own.stay (fn := Tryd.f21) ?_) | fail)
  try with_reducible refine Own.Stay.mk ?_
  have hO := HO.out
  clear HO c9_4_0 c9_4_1 lt9_4 y9_4 c9_5_0 c9_5_1 c9_5_2 c9_5_3 c9_5_4 lt9_5 y9_5
  generalize hW : World.alloc _ _ = W2
  have hN : Own w0 W2 [row (w.heap.size + 1 + 1 + 1) 35 #[.nilIface, .int .i32 0], row (w.heap.size + 1 + 1) 35 #[.iface vT (.pointer (some ⟨vx, 0, none⟩)), .int .i32 vl], row (w.heap.size + 1) 35 #[.iface 206 (.pointer (some ⟨eb, 0, none⟩)), .int .i32 kl], row (w.heap.size) 31 #[.int .i32 loc], row (pb) 193 PC, row (sb) 56 (full symZ (symL ([sy ⟨#[70, 111, 111]⟩ 0])) c), ((mp, .map #[] 0) : Rw), row (ms) 203 MC, row (cr) 25 #[.int .u32 0, .int .u32 0], row (eb) 208 #[.slice (some ⟨ub, 0, none⟩) ln cp, .int .i32 0, .bool false, .bool false, .bool false]] X := by
    rw [← hW]
    exact ((((hO).alloc' _ (w.heap.size) (by simp)).alloc' _ (w.heap.size + 1) (by simp)).alloc' _ (w.heap.size + 1 + 1) (by simp)).alloc' _ (w.heap.size + 1 + 1 + 1) (by simp)
  clear hW hO
  generalize w.heap.size + 1 + 1 + 1 = B1_3 at hN ⊢
  generalize w.heap.size + 1 + 1 = B1_2 at hN ⊢
  generalize w.heap.size + 1 = B1_1 at hN ⊢
  generalize w.heap.size = B1 at hN ⊢
  have hO := hN
  clear hN
  have hL := hO.apart
  have hX := hO.apartX
  have HL := Lib.hid hL
  have HX := Lib.hid hX
  clear hL hX
  have hP9 := hO.pick [4, 5, 6, 7, 8, 9] (by decide)
  have T9 := binopU pb PC sb c mp ms MC cr loc r s eb ub ln cp kl op vT vx vl _ _ _ hP9 hk350 hk32 hk105 hk66 hk117 hk187 hk97 hk95 hk96 hk106 hgen hg0 hg1
  refine Calls.mono T9 ?_
  clear hP9 T9
  rintro e u3 ⟨nd4, nd5, nd6, nd7, nd8, nd9, nd10, nd11, nd12, nd13, nd14, nd15, nd16, nd17, nd18, nd19, nd20, nd21, nd22, rfl, hQ⟩
  have hN : Own w0 u3 [row (pb) 193 (PC.setIfInBounds 106 (.slice (some ⟨nd19, 0, none⟩) 3 (3 + nd20))), row (nd19) 56 (full symZ (symL ([sy ⟨#[70, 111, 111]⟩ (uz r (uz r 0)), sy ⟨#[95, 95, 115, 117, 112, 101, 114, 71, 101, 116]⟩ 1, sy ⟨#[95, 95, 115, 117, 112, 101, 114, 83, 101, 116]⟩ 1])) nd20), ((mp, .map #[⟨.string ⟨#[95, 95, 115, 117, 112, 101, 114, 71, 101, 116]⟩, .agg #[.int .i32 loc, .int .u32 0, .int .u32 1], 0⟩, ⟨.string ⟨#[95, 95, 115, 117, 112, 101, 114, 83, 101, 116]⟩, .agg #[.int .i32 loc, .int .u32 0, .int .u32 2], 1⟩] 2) : Rw), row (ms) 203 (MC.setIfInBounds 5 (.slice (some ⟨nd21, 0, none⟩) 2 (2 + nd22))), row (nd21) 25 (full refZ [.int .u32 0, .int .u32 1, .int .u32 0, .int .u32 2] nd22), row (cr) 25 #[.int .u32 0, .int .u32 0], row (eb) 208 #[.slice (some ⟨ub, 0, none⟩) ln cp, .int .i32 0, .bool false, .bool false, .bool false], row (nd4) 211 #[.int .u32 0, .int .u32 1, .bool false, .bool false, .bool false], row (nd5) 71 #[.iface 209 (.pointer (some ⟨nd4, 0, none⟩)), .int .i32 loc, .slice (some ⟨nd6, 0, none⟩) 3 3, .int .i32 0, .int .u8 0, .int .u8 0, .bool false, .bool false], row (nd6) 35 #[.iface (clsTy s) (.pointer (some ⟨nd8, 0, none⟩)), .int .i32 loc, .iface (thsTy r) (.pointer (some ⟨nd10, 0, none⟩)), .int .i32 loc, .iface 206 (.pointer (some ⟨nd7, 0, none⟩)), .int .i32 kl], row (nd7) 208 #[.slice (some ⟨ub, 0, none⟩) ln cp, .int .i32 0, .bool false, .bool false, .bool false], row (nd8) (clsT s) (clsC s loc nd9), row (nd9) (xtrT s) (xtrC s loc nd8), row (nd10) (thsT r) (thsC r), row (nd11) 211 #[.int .u32 0, .int .u32 2, .bool false, .bool false, .bool false], row (nd12) 71 #[.iface 209 (.pointer (some ⟨nd11, 0, none⟩)), .int .i32 loc, .slice (some ⟨nd13, 0, none⟩) 4 4, .int .i32 0, .int .u8 0, .int .u8 0, .bool false, .bool false], row (nd13) 35 #[.iface (clsTy s) (.pointer (some ⟨nd15, 0, none⟩)), .int .i32 loc, .iface (thsTy r) (.pointer (some ⟨nd17, 0, none⟩)), .int .i32 loc, .iface 206 (.pointer (some ⟨nd14, 0, none⟩)), .int .i32 kl, .iface 249 (.pointer (some ⟨nd18, 0, none⟩)), .int .i32 vl], row (nd14) 208 #[.slice (some ⟨ub, 0, none⟩) ln cp, .int .i32 0, .bool false, .bool false, .bool false], row (nd15) (clsT s) (clsC s loc nd16), row (nd16) (xtrT s) (xtrC s loc nd15), row (nd17) (thsT r) (thsC r), row (nd18) 252 #[.iface 65 (.pointer (some ⟨nd5, 0, none⟩)), .int .i32 loc, .iface vT (.pointer (some ⟨vx, 0, none⟩)), .int .i32 vl, .int .u8 op, .bool false], row (B1_3) 35 #[.nilIface, .int .i32 0], row (B1_2) 35 #[.iface vT (.pointer (some ⟨vx, 0, none⟩)), .int .i32 vl], row (B1_1) 35 #[.iface 206 (.pointer (some ⟨eb, 0, none⟩)), .int .i32 kl], row (B1) 31 #[.int .i32 loc]] X := hQ.back HL.out HX.out [0, 1, 2, 3] (by decide) (by decide)
  clear hQ HL HX hO
  have hO := hN
  clear hN
  obtain ⟨c9_5_0, c9_5_1, lt9_5, y9_5, -⟩ := hO.k2 5 rfl
  obtain ⟨c9_6_0, c9_6_1, c9_6_2, c9_6_3, c9_6_4, lt9_6, y9_6, -⟩ := hO.k5 6 rfl
  obtain ⟨c9_7_0, c9_7_1, c9_7_2, c9_7_3, c9_7_4, lt9_7, y9_7, -⟩ := hO.k5 7 rfl
  obtain ⟨c9_8_0, c9_8_1, c9_8_2, c9_8_3, c9_8_4, c9_8_5, c9_8_6, c9_8_7, lt9_8, y9_8, -⟩ := hO.k8 8 rfl
  obtain ⟨c9_9_0, c9_9_1, c9_9_2, c9_9_3, c9_9_4, c9_9_5, lt9_9, y9_9, -⟩ := hO.k6 9 rfl
  obtain ⟨c9_10_0, c9_10_1, c9_10_2, c9_10_3, c9_10_4, lt9_10, y9_10, -⟩ := hO.k5 10 rfl
  obtain ⟨c9_14_0, c9_14_1, c9_14_2, c9_14_3, c9_14_4, lt9_14, y9_14, -⟩ := hO.k5 14 rfl
  obtain ⟨c9_15_0, c9_15_1, c9_15_2, c9_15_3, c9_15_4, c9_15_5, c9_15_6, c9_15_7, lt9_15, y9_15, -⟩ := hO.k8 15 rfl
  obtain ⟨c9_16_0, c9_16_1, c9_16_2, c9_16_3, c9_16_4, c9_16_5, c9_16_6, c9_16_7, lt9_16, y9_16, -⟩ := hO.k8 16 rfl
  obtain ⟨c9_17_0, c9_17_1, c9_17_2, c9_17_3, c9_17_4, lt9_17, y9_17, -⟩ := hO.k5 17 rfl
  obtain ⟨c9_21_0, c9_21_1, c9_21_2, c9_21_3, c9_21_4, c9_21_5, lt9_21, y9_21, -⟩ := hO.k6 21 rfl
  obtain ⟨c9_22_0, c9_22_1, lt9_22, y9_22, -⟩ := hO.k2 22 rfl
  obtain ⟨c9_23_0, c9_23_1, lt9_23, y9_23, -⟩ := hO.k2 23 rfl
  obtain ⟨c9_24_0, c9_24_1, lt9_24, y9_24, -⟩ := hO.k2 24 rfl
  obtain ⟨c9_25_0, lt9_25, y9_25, -⟩ := hO.k1 25 rfl
  have HO := Lib.hid hO
  clear hO
  go_wp2_with (first | (with_reducible refine Own.stay (fn := Tryd.f21) ?_) | fail)
  try with_reducible refine Own.Stay.mk ?_
  have hO := HO.out
  clear HO c9_5_0 c9_5_1 lt9_5 y9_5 c9_6_0 c9_6_1 c9_6_2 c9_6_3 c9_6_4 lt9_6 y9_6 c9_7_0 c9_7_1 c9_7_2 c9_7_3 c9_7_4 lt9_7 y9_7 c9_8_0 c9_8_1 c9_8_2 c9_8_3 c9_8_4 c9_8_5 c9_8_6 c9_8_7 lt9_8 y9_8 c9_9_0 c9_9_1 c9_9_2 c9_9_3 c9_9_4 c9_9_5 lt9_9 y9_9 c9_10_0 c9_10_1 c9_10_2 c9_10_3 c9_10_4 lt9_10 y9_10 c9_14_0 c9_14_1 c9_14_2 c9_14_3 c9_14_4 lt9_14 y9_14 c9_15_0 c9_15_1 c9_15_2 c9_15_3 c9_15_4 c9_15_5 c9_15_6 c9_15_7 lt9_15 y9_15 c9_16_0 c9_16_1 c9_16_2 c9_16_3 c9_16_4 c9_16_5 c9_16_6 c9_16_7 lt9_16 y9_16 c9_17_0 c9_17_1 c9_17_2 c9_17_3 c9_17_4 lt9_17 y9_17 c9_21_0 c9_21_1 c9_21_2 c9_21_3 c9_21_4 c9_21_5 lt9_21 y9_21 c9_22_0 c9_22_1 lt9_22 y9_22 c9_23_0 c9_23_1 lt9_23 y9_23 c9_24_0 c9_24_1 lt9_24 y9_24 c9_25_0 lt9_25 y9_25
  generalize hW : World.setCell _ _ _ = W24
  have hN : Own w0 W24 [row (pb) 193 (PC.setIfInBounds 106 (.slice (some ⟨nd19, 0, none⟩) 3 (3 + nd20))), row (nd19) 56 (full symZ (symL ([sy ⟨#[70, 111, 111]⟩ (uz r (uz r 0)), sy ⟨#[95, 95, 115, 117, 112, 101, 114, 71, 101, 116]⟩ 1, sy ⟨#[95, 95, 115, 117, 112, 101, 114, 83, 101, 116]⟩ 1])) nd20), ((mp, .map #[⟨.string ⟨#[95, 95, 115, 117, 112, 101, 114, 71, 101, 116]⟩, .agg #[.int .i32 loc, .int .u32 0, .int .u32 1], 0⟩, ⟨.string ⟨#[95, 95, 115, 117, 112, 101, 114, 83, 101, 116]⟩, .agg #[.int .i32 loc, .int .u32 0, .int .u32 2], 1⟩] 2) : Rw), row (ms) 203 (MC.setIfInBounds 5 (.slice (some ⟨nd21, 0, none⟩) 2 (2 + nd22))), row (nd21) 25 (full refZ [.int .u32 0, .int .u32 1, .int .u32 0, .int .u32 2] nd22), row (cr) 25 #[.int .u32 0, .int .u32 0], row (eb) 208 #[.slice (some ⟨ub, 0, none⟩) ln cp, .int .i32 0, .bool false, .bool false, .bool false], row (nd4) 211 #[.int .u32 0, .int .u32 1, .bool false, .bool false, .bool false], row (nd5) 71 #[.iface 209 (.pointer (some ⟨nd4, 0, none⟩)), .int .i32 loc, .slice (some ⟨nd6, 0, none⟩) 3 3, .int .i32 0, .int .u8 0, .int .u8 0, .bool false, .bool false], row (nd6) 35 #[.iface (clsTy s) (.pointer (some ⟨nd8, 0, none⟩)), .int .i32 loc, .iface (thsTy r) (.pointer (some ⟨nd10, 0, none⟩)), .int .i32 loc, .iface 206 (.pointer (some ⟨nd7, 0, none⟩)), .int .i32 kl], row (nd7) 208 #[.slice (some ⟨ub, 0, none⟩) ln cp, .int .i32 0, .bool false, .bool false, .bool false], row (nd8) (clsT s) (clsC s loc nd9), row (nd9) (xtrT s) (xtrC s loc nd8), row (nd10) (thsT r) (thsC r), row (nd11) 211 #[.int .u32 0, .int .u32 2, .bool false, .bool false, .bool false], row (nd12) 71 #[.iface 209 (.pointer (some ⟨nd11, 0, none⟩)), .int .i32 loc, .slice (some ⟨nd13, 0, none⟩) 4 4, .int .i32 0, .int .u8 0, .int .u8 0, .bool false, .bool false], row (nd13) 35 #[.iface (clsTy s) (.pointer (some ⟨nd15, 0, none⟩)), .int .i32 loc, .iface (thsTy r) (.pointer (some ⟨nd17, 0, none⟩)), .int .i32 loc, .iface 206 (.pointer (some ⟨nd14, 0, none⟩)), .int .i32 kl, .iface 249 (.pointer (some ⟨nd18, 0, none⟩)), .int .i32 vl], row (nd14) 208 #[.slice (some ⟨ub, 0, none⟩) ln cp, .int .i32 0, .bool false, .bool false, .bool false], row (nd15) (clsT s) (clsC s loc nd16), row (nd16) (xtrT s) (xtrC s loc nd15), row (nd17) (thsT r) (thsC r), row (nd18) 252 #[.iface 65 (.pointer (some ⟨nd5, 0, none⟩)), .int .i32 loc, .iface vT (.pointer (some ⟨vx, 0, none⟩)), .int .i32 vl, .int .u8 op, .bool false], row (B1_3) 35 #[.iface 65 (.pointer (some ⟨nd12, 0, none⟩)), .int .i32 loc], row (B1_2) 35 #[.iface vT (.pointer (some ⟨vx, 0, none⟩)), .int .i32 vl], row (B1_1) 35 #[.iface 206 (.pointer (some ⟨eb, 0, none⟩)), .int .i32 kl], row (B1) 31 #[.int .i32 loc]] X := by
    rw [← hW]
    exact ((hO).set 22 rfl 0 _).set 22 rfl 1 _
  clear hW hO
  have hO := hN
  clear hN
  have z9_22_0 : W24.cell? ⟨B1_3, 0, none⟩ = some (.iface 65 (.pointer (some ⟨nd12, 0, none⟩))) := hO.cell 22 rfl 0 rfl
  have z9_22_1 : W24.cell? ⟨B1_3, 1, none⟩ = some (.int .i32 loc) := hO.cell 22 rfl 1 rfl
  refine bodyPost_ret (v := .agg #[.iface 65 (.pointer (some ⟨nd12, 0, none⟩)), .int .i32 loc]) ?_ rfl ⟨nd11, nd12, nd13, nd19, nd20, nd21, nd22, rfl, hO.sub [0, 1, 2, 3, 4, 5, 6, 14, 15] (by decide)⟩
  simp [results, Tryd.results21, go_sem, z9_22_0, z9_22_1]
def duSetIPost (pb : Nat) (PC : Array Value) (sb c mp ms : Nat) (MC : Array Value) (cr : Nat) (loc : Int) (gb cg : Nat) (r s : Bool) (kT kx : Nat) (kl : Int) (vT vx : Nat) (vl : Int) (w0 : World) (X : Nat → Obj → Prop) (e : Ending) (w' : World) : Prop :=
  ∃ ca : Nat, ∃ b : Nat, ∃ sx : Nat, e = .returned (.agg #[.iface 65 (.pointer (some ⟨ca, 0, none⟩)), .int .i32 loc]) ∧ Own w0 w' [row (pb) 193 PC, row (sb) 56 (full symZ (symL ([sy ⟨#[70, 111, 111]⟩ (uz r (uz r (uz r 0))), sy ⟨#[95, 95, 115, 117, 112, 101, 114, 71, 101, 116]⟩ 1, sy ⟨#[95, 95, 115, 117, 112, 101, 114, 83, 101, 116]⟩ 2])) c), ((mp, .map #[⟨.string ⟨#[95, 95, 115, 117, 112, 101, 114, 71, 101, 116]⟩, .agg #[.int .i32 loc, .int .u32 0, .int .u32 1], 0⟩, ⟨.string ⟨#[95, 95, 115, 117, 112, 101, 114, 83, 101, 116]⟩, .agg #[.int .i32 loc, .int .u32 0, .int .u32 2], 1⟩] 2) : Rw), row (ms) 203 MC, row (gb) 25 (full refZ ([.int .u32 0, .int .u32 1, .int .u32 0, .int .u32 2]) cg), row (cr) 25 #[.int .u32 0, .int .u32 0], row (b) 211 #[.int .u32 0, .int .u32 2, .bool false, .bool false, .bool false], row (ca) 71 #[.iface 209 (.pointer (some ⟨b, 0, none⟩)), .int .i32 loc, .slice (some ⟨sx, 0, none⟩) 4 4, .int .i32 0, .int .u8 0, .int .u8 0, .bool false, .bool false]] X
set_option maxRecDepth 100000 in
set_option maxHeartbeats 1000000 in
theorem duSetI (pb : Nat) (PC : Array Value) (sb c mp ms : Nat) (MC : Array Value) (cr : Nat) (loc : Int) (gb cg : Nat) (r s : Bool) (kT kx : Nat) (kl : Int) (vT vx : Nat) (vl : Int) (w0 w : World) (X : Nat → Obj → Prop) (hO : Own w0 w [row (pb) 193 PC, row (sb) 56 (full symZ (symL ([sy ⟨#[70, 111, 111]⟩ (uz r (uz r 0)), sy ⟨#[95, 95, 115, 117, 112, 101, 114, 71, 101, 116]⟩ 1, sy ⟨#[95, 95, 115, 117, 112, 101, 114, 83, 101, 116]⟩ 1])) c), ((mp, .map #[⟨.string ⟨#[95, 95, 115, 117, 112, 101, 114, 71, 101, 116]⟩, .agg #[.int .i32 loc, .int .u32 0, .int .u32 1], 0⟩, ⟨.string ⟨#[95, 95, 115, 117, 112, 101, 114, 83, 101, 116]⟩, .agg #[.int .i32 loc, .int .u32 0, .int .u32 2], 1⟩] 2) : Rw), row (ms) 203 MC, row (gb) 25 (full refZ ([.int .u32 0, .int .u32 1, .int .u32 0, .int .u32 2]) cg), row (cr) 25 #[.int .u32 0, .int .u32 0]] X) (hk350 : PC[350]? = some (.bool false)) (hk32 : PC[32]? = some (.bool false)) (hk105 : PC[105]? = some (.pointer none)) (hk66 : PC[66]? = some (.int .u32 0)) (hk117 : PC[117]? = some (.map (some mp))) (hk187 : PC[187]? = some (.pointer (some ⟨ms, 0, none⟩))) (hk97 : PC[97]? = some (.pointer (some ⟨cr, 0, none⟩))) (hk95 : PC[95]? = some (.bool r)) (hk96 : PC[96]? = some (.bool s)) (hk106 : PC[106]? = some (.slice (some ⟨sb, 0, none⟩) 3 (3 + c))) (hgen : MC[5]? = some (.slice (some ⟨gb, 0, none⟩) 2 (2 + cg))) (hg0 : w0.cell? ⟨0, 0, none⟩ = some (.int .u32 4294967295)) (hg1 : w0.cell? ⟨0, 1, none⟩ = some (.int .u32 4294967295)) :
    Calls Tryd.prog 11 #[.pointer (some ⟨pb, 0, none⟩), .agg #[.int .i32 loc], .agg #[.iface kT (.pointer (some ⟨kx, 0, none⟩)), .int .i32 kl], .agg #[.iface vT (.pointer (some ⟨vx, 0, none⟩)), .int .i32 vl]] w (duSetIPost pb PC sb c mp ms MC cr loc gb cg r s kT kx kl vT vx vl w0 X) := by
  go_enter Tryd.func11, Tryd.ntmps11
  obtain ⟨c9_5_0, c9_5_1, lt9_5, y9_5, -⟩ := hO.k2 5 rfl
  have HO := Lib.hid hO
  clear hO
  go_wp2_with (first | (with_reducible refine Own.stay (fn := Tryd.f11) ?_) | fail)
  try with_reducible refine Own.Stay.mk ?_
  have hO := HO.out
  clear HO c9_5_0 c9_5_1 lt9_5 y9_5
  generalize hW : World.alloc _ _ = W2
  have hN : Own w0 W2 [row (w.heap.size + 1 + 1 + 1) 35 #[.nilIface, .int .i32 0], row (w.heap.size + 1 + 1) 35 #[.iface vT (.pointer (some ⟨vx, 0, none⟩)), .int .i32 vl], row (w.heap.size + 1) 35 #[.iface kT (.pointer (some ⟨kx, 0, none⟩)), .int .i32 kl], row (w.heap.size) 31 #[.int .i32 loc], row (pb) 193 PC, row (sb) 56 (full symZ (symL ([sy ⟨#[70, 111, 111]⟩ (uz r (uz r 0)), sy ⟨#[95, 95, 115, 117, 112, 101, 114, 71, 101, 116]⟩ 1, sy ⟨#[95, 95, 115, 117, 112, 101, 114, 83, 101, 116]⟩ 1])) c), ((mp, .map #[⟨.string ⟨#[95, 95, 115, 117, 112, 101, 114, 71, 101, 116]⟩, .agg #[.int .i32 loc, .int .u32 0, .int .u32 1], 0⟩, ⟨.string ⟨#[95, 95, 115, 117, 112, 101, 114, 83, 101, 116]⟩, .agg #[.int .i32 loc, .int .u32 0, .int .u32 2], 1⟩] 2) : Rw), row (ms) 203 MC, row (gb) 25 (full refZ ([.int .u32 0, .int .u32 1, .int .u32 0, .int .u32 2]) cg), row (cr) 25 #[.int .u32 0, .int .u32 0]] X := by
    rw [← hW]
    exact ((((hO).alloc' _ (w.heap.size) (by simp)).alloc' _ (w.heap.size + 1) (by simp)).alloc' _ (w.heap.size + 1 + 1) (by simp)).alloc' _ (w.heap.size + 1 + 1 + 1) (by simp)
  clear hW hO
  generalize w.heap.size + 1 + 1 + 1 = B1_3 at hN ⊢
  generalize w.heap.size + 1 + 1 = B1_2 at hN ⊢
  generalize w.heap.size + 1 = B1_1 at hN ⊢
  generalize w.heap.size = B1 at hN ⊢
  have hO := hN
  clear hN
  have hL := hO.apart
  have hX := hO.apartX
  have HL := Lib.hid hL
  have HX := Lib.hid hX
  clear hL hX
  have hP9 := hO.pick [4, 5, 6, 7, 8, 9] (by decide)
  have T9 := uSetI pb PC sb c mp ms MC cr loc gb cg r s kT kx kl vT vx vl _ _ _ hP9 hk350 hk32 hk105 hk66 hk117 hk187 hk97 hk95 hk96 hk106 hgen hg0 hg1
  refine Calls.mono T9 ?_
  clear hP9 T9
  rintro e u3 ⟨nd4, nd5, nd6, nd7, nd8, nd9, rfl, hQ⟩
  have hN : Own w0 u3 [row (pb) 193 PC, row (sb) 56 (full symZ (symL ([sy ⟨#[70, 111, 111]⟩ (uz r (uz r (uz r 0))), sy ⟨#[95, 95, 115, 117, 112, 101, 114, 71, 101, 116]⟩ 1, sy ⟨#[95, 95, 115, 117, 112, 101, 114, 83, 101, 116]⟩ 2])) c), ((mp, .map #[⟨.string ⟨#[95, 95, 115, 117, 112, 101, 114, 71, 101, 116]⟩, .agg #[.int .i32 loc, .int .u32 0, .int .u32 1], 0⟩, ⟨.string ⟨#[95, 95, 115, 117, 112, 101, 114, 83, 101, 116]⟩, .agg #[.int .i32 loc, .int .u32 0, .int .u32 2], 1⟩] 2) : Rw), row (ms) 203 MC, row (gb) 25 (full refZ [.int .u32 0, .int .u32 1, .int .u32 0, .int .u32 2] cg), row (cr) 25 #[.int .u32 0, .int .u32 0], row (nd5) 211 #[.int .u32 0, .int .u32 2, .bool false, .bool false, .bool false], row (nd4) 71 #[.iface 209 (.pointer (some ⟨nd5, 0, none⟩)), .int .i32 loc, .slice (some ⟨nd6, 0, none⟩) 4 4, .int .i32 0, .int .u8 0, .int .u8 0, .bool false, .bool false], row (nd6) 35 #[.iface (clsTy s) (.pointer (some ⟨nd7, 0, none⟩)), .int .i32 loc, .iface (thsTy r) (.pointer (some ⟨nd9, 0, none⟩)), .int .i32 loc, .iface kT (.pointer (some ⟨kx, 0, none⟩)), .int .i32 kl, .iface vT (.pointer (some ⟨vx, 0, none⟩)), .int .i32 vl], row (nd7) (clsT s) (clsC s loc nd8), row (nd8) (xtrT s) (xtrC s loc nd7), row (nd9) (thsT r) (thsC r), row (B1_3) 35 #[.nilIface, .int .i32 0], row (B1_2) 35 #[.iface vT (.pointer (some ⟨vx, 0, none⟩)), .int .i32 vl], row (B1_1) 35 #[.iface kT (.pointer (some ⟨kx, 0, none⟩)), .int .i32 kl], row (B1) 31 #[.int .i32 loc]] X := hQ.back HL.out HX.out [0, 1, 2, 3] (by decide) (by decide)
  clear hQ HL HX hO
  have hO := hN
  clear hN
  obtain ⟨c9_5_0, c9_5_1, lt9_5, y9_5, -⟩ := hO.k2 5 rfl
  obtain ⟨c9_6_0, c9_6_1, c9_6_2, c9_6_3, c9_6_4, lt9_6, y9_6, -⟩ := hO.k5 6 rfl
  obtain ⟨c9_7_0, c9_7_1, c9_7_2, c9_7_3, c9_7_4, c9_7_5, c9_7_6, c9_7_7, lt9_7, y9_7, -⟩ := hO.k8 7 rfl
  obtain ⟨c9_8_0, c9_8_1, c9_8_2, c9_8_3, c9_8_4, c9_8_5, c9_8_6, c9_8_7, lt9_8, y9_8, -⟩ := hO.k8 8 rfl
  obtain ⟨c9_12_0, c9_12_1, lt9_12, y9_12, -⟩ := hO.k2 12 rfl
  obtain ⟨c9_13_0, c9_13_1, lt9_13, y9_13, -⟩ := hO.k2 13 rfl
  obtain ⟨c9_14_0, c9_14_1, lt9_14, y9_14, -⟩ := hO.k2 14 rfl
  obtain ⟨c9_15_0, lt9_15, y9_15, -⟩ := hO.k1 15 rfl
  have HO := Lib.hid hO
  clear hO
  go_wp2_with (first | (with_reducible refine Own.stay (fn := Tryd.f11) ?_) | fail)
  try with_reducible refine Own.Stay.mk ?_
  have hO := HO.out
  clear HO c9_5_0 c9_5_1 lt9_5 y9_5 c9_6_0 c9_6_1 c9_6_2 c9_6_3 c9_6_4 lt9_6 y9_6 c9_7_0 c9_7_1 c9_7_2 c9_7_3 c9_7_4 c9_7_5 c9_7_6 c9_7_7 lt9_7 y9_7 c9_8_0 c9_8_1 c9_8_2 c9_8_3 c9_8_4 c9_8_5 c9_8_6 c9_8_7 lt9_8 y9_8 c9_12_0 c9_12_1 lt9_12 y9_12 c9_13_0 c9_13_1 lt9_13 y9_13 c9_14_0 c9_14_1 lt9_14 y9_14 c9_15_0 lt9_15 y9_15
  generalize hW : World.setCell _ _ _ = W11
  have hN : Own w0 W11 [row (pb) 193 PC, row (sb) 56 (full symZ (symL ([sy ⟨#[70, 111, 111]⟩ (uz r (uz r (uz r 0))), sy ⟨#[95, 95, 115, 117, 112, 101, 114, 71, 101, 116]⟩ 1, sy ⟨#[95, 95, 115, 117, 112, 101, 114, 83, 101, 116]⟩ 2])) c), ((mp, .map #[⟨.string ⟨#[95, 95, 115, 117, 112, 101, 114, 71, 101, 116]⟩, .agg #[.int .i32 loc, .int .u32 0, .int .u32 1], 0⟩, ⟨.string ⟨#[95, 95, 115, 117, 112, 101, 114, 83, 101, 116]⟩, .agg #[.int .i32 loc, .int .u32 0, .int .u32 2], 1⟩] 2) : Rw), row (ms) 203 MC, row (gb) 25 (full refZ [.int .u32 0, .int .u32 1, .int .u32 0, .int .u32 2] cg), row (cr) 25 #[.int .u32 0, .int .u32 0], row (nd5) 211 #[.int .u32 0, .int .u32 2, .bool false, .bool false, .bool false], row (nd4) 71 #[.iface 209 (.pointer (some ⟨nd5, 0, none⟩)), .int .i32 loc, .slice (some ⟨nd6, 0, none⟩) 4 4, .int .i32 0, .int .u8 0, .int .u8 0, .bool false, .bool false], row (nd6) 35 #[.iface (clsTy s) (.pointer (some ⟨nd7, 0, none⟩)), .int .i32 loc, .iface (thsTy r) (.pointer (some ⟨nd9, 0, none⟩)), .int .i32 loc, .iface kT (.pointer (some ⟨kx, 0, none⟩)), .int .i32 kl, .iface vT (.pointer (some ⟨vx, 0, none⟩)), .int .i32 vl], row (nd7) (clsT s) (clsC s loc nd8), row (nd8) (xtrT s) (xtrC s loc nd7), row (nd9) (thsT r) (thsC r), row (B1_3) 35 #[.iface 65 (.pointer (some ⟨nd4, 0, none⟩)), .int .i32 loc], row (B1_2) 35 #[.iface vT (.pointer (some ⟨vx, 0, none⟩)), .int .i32 vl], row (B1_1) 35 #[.iface kT (.pointer (some ⟨kx, 0, none⟩)), .int .i32 kl], row (B1) 31 #[.int .i32 loc]] X := by
    rw [← hW]
    exact ((hO).set 12 rfl 0 _).set 12 rfl 1 _
  clear hW hO
  have hO := hN
  clear hN
  have z9_12_0 : W11.cell? ⟨B1_3, 0, none⟩ = some (.iface 65 (.pointer (some ⟨nd4, 0, none⟩))) := hO.cell 12 rfl 0 rfl
  have z9_12_1 : W11.cell? ⟨B1_3, 1, none⟩ = some (.int .i32 loc) := hO.cell 12 rfl 1 rfl
  refine bodyPost_ret (v := .agg #[.iface 65 (.pointer (some ⟨nd4, 0, none⟩)), .int .i32 loc]) ?_ rfl ⟨nd4, nd5, nd6, rfl, hO.sub [0, 1, 2, 3, 4, 5, 6, 7] (by decide)⟩
  simp [results, Tryd.results11, go_sem, z9_12_0, z9_12_1]
end Go.Proofs.YtkhmjppfogppoaaDoor.Use
