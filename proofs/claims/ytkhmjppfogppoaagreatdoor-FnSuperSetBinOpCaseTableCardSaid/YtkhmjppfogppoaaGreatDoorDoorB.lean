/- The door of a compound assignment; its reader. No condition. -/
import Derived.Test.YtkhmjppfogppoaaGreatDoorBinU
import Derived.Test.YtkhmjppfogppoaaGreatDoorLive
import Derived.Test.YtkhmjppfogppoaaGreatDoorApp
import Derived.Test.YtkhmjppfogppoaaGreatDoorOwnK
import Derived.Test.YtkhmjppfogppoaaGreatDoorOwn
import Derived.Test.YtkhmjppfogppoaaGreatDoorDeepCells
import Derived.Test.YtkhmjppfogppoaaGreatDoorRows
import Derived.Test.YtkhmjppfogppoaaGreatDoorUse
namespace Go.Proofs.YtkhmjppfogppoaaGreatDoor.Use
open Go.ChangeShapes Go.WideShapes Go.ChangeAt Go.RowKit Go.Sort Own
set_option linter.unusedVariables false
def dbinopUPost (pb : Nat) (PC : Array Value) (sb c mp ms : Nat) (MC : Array Value) (cr : Nat) (loc : Int) (r s : Bool) (eb ub ln cp : Nat) (kl op : Int) (vT vx : Nat) (vl : Int) (w0 : World) (X : Nat → Obj → Prop) (e : Ending) (w' : World) : Prop :=
  ∃ bg : Nat, ∃ cag : Nat, ∃ sxg : Nat, ∃ eg : Nat, ∃ cbg : Nat, ∃ xbg : Nat, ∃ tbg : Nat, ∃ bs : Nat, ∃ cas : Nat, ∃ sxs : Nat, ∃ es : Nat, ∃ cbs : Nat, ∃ xbs : Nat, ∃ tbs : Nat, ∃ bi : Nat, ∃ sb2 : Nat, ∃ c2 : Nat, ∃ gb2 : Nat, ∃ cg2 : Nat, e = .returned (.agg #[.iface 251 (.pointer (some ⟨cas, 0, none⟩)), .int .i32 loc]) ∧ Own w0 w' [row (pb) 188 (PC.setIfInBounds 106 (.slice (some ⟨sb2, 0, none⟩) 3 (3 + c2))), row (sb2) 74 (full symZ (symL ([sy ⟨#[70, 111, 111]⟩ (uz r (uz r 0)), sy ⟨#[95, 95, 115, 117, 112, 101, 114, 71, 101, 116]⟩ 1, sy ⟨#[95, 95, 115, 117, 112, 101, 114, 83, 101, 116]⟩ 1])) c2), ((mp, .map #[⟨.string ⟨#[95, 95, 115, 117, 112, 101, 114, 71, 101, 116]⟩, .agg #[.int .i32 loc, .int .u32 0, .int .u32 1], 0⟩, ⟨.string ⟨#[95, 95, 115, 117, 112, 101, 114, 83, 101, 116]⟩, .agg #[.int .i32 loc, .int .u32 0, .int .u32 2], 1⟩] 2) : Rw), row (ms) 223 (MC.setIfInBounds 5 (.slice (some ⟨gb2, 0, none⟩) 2 (2 + cg2))), row (gb2) 48 (full refZ ([.int .u32 0, .int .u32 1, .int .u32 0, .int .u32 2]) cg2), row (cr) 48 #[.int .u32 0, .int .u32 0], row (eb) 197 #[.slice (some ⟨ub, 0, none⟩) ln cp, .int .i32 0, .bool false, .bool false, .bool false], row (bg) 191 #[.int .u32 0, .int .u32 1, .bool false, .bool false, .bool false], row (cag) 255 #[.iface 189 (.pointer (some ⟨bg, 0, none⟩)), .int .i32 loc, .slice (some ⟨sxg, 0, none⟩) 3 3, .int .i32 0, .int .u8 0, .int .u8 0, .bool false, .bool false], row (sxg) 32 #[.iface (clsTy s) (.pointer (some ⟨cbg, 0, none⟩)), .int .i32 loc, .iface (thsTy r) (.pointer (some ⟨tbg, 0, none⟩)), .int .i32 loc, .iface 195 (.pointer (some ⟨eg, 0, none⟩)), .int .i32 kl], row (eg) 197 #[.slice (some ⟨ub, 0, none⟩) ln cp, .int .i32 0, .bool false, .bool false, .bool false], row (cbg) (clsT s) (clsC s loc xbg), row (xbg) (xtrT s) (xtrC s loc cbg), row (tbg) (thsT r) (thsC r), row (bs) 191 #[.int .u32 0, .int .u32 2, .bool false, .bool false, .bool false], row (cas) 255 #[.iface 189 (.pointer (some ⟨bs, 0, none⟩)), .int .i32 loc, .slice (some ⟨sxs, 0, none⟩) 4 4, .int .i32 0, .int .u8 0, .int .u8 0, .bool false, .bool false], row (sxs) 32 #[.iface (clsTy s) (.pointer (some ⟨cbs, 0, none⟩)), .int .i32 loc, .iface (thsTy r) (.pointer (some ⟨tbs, 0, none⟩)), .int .i32 loc, .iface 195 (.pointer (some ⟨es, 0, none⟩)), .int .i32 kl, .iface 235 (.pointer (some ⟨bi, 0, none⟩)), .int .i32 vl], row (es) 197 #[.slice (some ⟨ub, 0, none⟩) ln cp, .int .i32 0, .bool false, .bool false, .bool false], row (cbs) (clsT s) (clsC s loc xbs), row (xbs) (xtrT s) (xtrC s loc cbs), row (tbs) (thsT r) (thsC r), row (bi) 238 #[.iface 251 (.pointer (some ⟨cag, 0, none⟩)), .int .i32 loc, .iface vT (.pointer (some ⟨vx, 0, none⟩)), .int .i32 vl, .int .u8 op, .bool false]] X
set_option maxRecDepth 100000 in
set_option maxHeartbeats 1000000 in
theorem dbinopU (pb : Nat) (PC : Array Value) (sb c mp ms : Nat) (MC : Array Value) (cr : Nat) (loc : Int) (r s : Bool) (eb ub ln cp : Nat) (kl op : Int) (vT vx : Nat) (vl : Int) (w0 w : World) (X : Nat → Obj → Prop) (hO : Own w0 w [row (pb) 188 PC, row (sb) 74 (full symZ (symL ([sy ⟨#[70, 111, 111]⟩ 0])) c), ((mp, .map #[] 0) : Rw), row (ms) 223 MC, row (cr) 48 #[.int .u32 0, .int .u32 0], row (eb) 197 #[.slice (some ⟨ub, 0, none⟩) ln cp, .int .i32 0, .bool false, .bool false, .bool false]] X) (hk350 : PC[350]? = some (.bool false)) (hk32 : PC[32]? = some (.bool false)) (hk105 : PC[105]? = some (.pointer none)) (hk66 : PC[66]? = some (.int .u32 0)) (hk117 : PC[117]? = some (.map (some mp))) (hk187 : PC[187]? = some (.pointer (some ⟨ms, 0, none⟩))) (hk97 : PC[97]? = some (.pointer (some ⟨cr, 0, none⟩))) (hk95 : PC[95]? = some (.bool r)) (hk96 : PC[96]? = some (.bool s)) (hk106 : PC[106]? = some (.slice (some ⟨sb, 0, none⟩) 1 (1 + c))) (hgen : MC[5]? = some (.slice none 0 0)) (hg0 : w0.cell? ⟨0, 0, none⟩ = some (.int .u32 4294967295)) (hg1 : w0.cell? ⟨0, 1, none⟩ = some (.int .u32 4294967295)) :
    Calls Tryz.prog 22 #[.pointer (some ⟨pb, 0, none⟩), .agg #[.int .i32 loc], .agg #[.iface 195 (.pointer (some ⟨eb, 0, none⟩)), .int .i32 kl], .int .u8 op, .agg #[.iface vT (.pointer (some ⟨vx, 0, none⟩)), .int .i32 vl]] w (dbinopUPost pb PC sb c mp ms MC cr loc r s eb ub ln cp kl op vT vx vl w0 X) := by
  go_enter Tryz.func22, Tryz.ntmps22
  obtain ⟨c9_4_0, c9_4_1, lt9_4, y9_4, -⟩ := hO.k2 4 rfl
  obtain ⟨c9_5_0, c9_5_1, c9_5_2, c9_5_3, c9_5_4, lt9_5, y9_5, -⟩ := hO.k5 5 rfl
  have HO := Lib.hid hO
  clear hO
  go_wp2_with (first | (with_reducible refine Own.stay (fn := Tryz.f22) ?_) | fail)
  try with_reducible refine Own.Stay.mk ?_
  have hO := HO.out
  clear HO c9_4_0 c9_4_1 lt9_4 y9_4 c9_5_0 c9_5_1 c9_5_2 c9_5_3 c9_5_4 lt9_5 y9_5
  generalize hW : World.alloc _ _ = W2
  have hN : Own w0 W2 [row (w.heap.size + 1 + 1 + 1) 32 #[.nilIface, .int .i32 0], row (w.heap.size + 1 + 1) 32 #[.iface vT (.pointer (some ⟨vx, 0, none⟩)), .int .i32 vl], row (w.heap.size + 1) 32 #[.iface 195 (.pointer (some ⟨eb, 0, none⟩)), .int .i32 kl], row (w.heap.size) 30 #[.int .i32 loc], row (pb) 188 PC, row (sb) 74 (full symZ (symL ([sy ⟨#[70, 111, 111]⟩ 0])) c), ((mp, .map #[] 0) : Rw), row (ms) 223 MC, row (cr) 48 #[.int .u32 0, .int .u32 0], row (eb) 197 #[.slice (some ⟨ub, 0, none⟩) ln cp, .int .i32 0, .bool false, .bool false, .bool false]] X := by
    rw [← hW]
    exact ((((hO).alloc' _ (w.heap.size) (by simp)).alloc' _ (w.heap.size + 1) (by simp)).alloc' _ (w.heap.size + 1 + 1) (by simp)).alloc' _ (w.heap.size + 1 + 1 + 1) (by simp)
  clear hW hO
  generalize w.heap.size + 1 + 1 + 1 = B1_3 at hN ⊢
  generalize w.heap.size + 1 + 1 = B1_2 at hN ⊢
  generalize w.heap.size + 1 = B1_1 at hN ⊢
  generalize w.heap.size = B1 at hN ⊢
  have hO := hN
  clear hN
  have hL := hO.apart
  have hX := hO.apartX
  have HL := Lib.hid hL
  have HX := Lib.hid hX
  clear hL hX
  have hP9 := hO.pick [4, 5, 6, 7, 8, 9] (by decide)
  have T9 := binopU pb PC sb c mp ms MC cr loc r s eb ub ln cp kl op vT vx vl _ _ _ hP9 hk350 hk32 hk105 hk66 hk117 hk187 hk97 hk95 hk96 hk106 hgen hg0 hg1
  refine Calls.mono T9 ?_
  clear hP9 T9
  rintro e u3 ⟨nd4, nd5, nd6, nd7, nd8, nd9, nd10, nd11, nd12, nd13, nd14, nd15, nd16, nd17, nd18, nd19, nd20, nd21, nd22, rfl, hQ⟩
  have hN : Own w0 u3 [row (pb) 188 (PC.setIfInBounds 106 (.slice (some ⟨nd19, 0, none⟩) 3 (3 + nd20))), row (nd19) 74 (full symZ (symL ([sy ⟨#[70, 111, 111]⟩ (uz r (uz r 0)), sy ⟨#[95, 95, 115, 117, 112, 101, 114, 71, 101, 116]⟩ 1, sy ⟨#[95, 95, 115, 117, 112, 101, 114, 83, 101, 116]⟩ 1])) nd20), ((mp, .map #[⟨.string ⟨#[95, 95, 115, 117, 112, 101, 114, 71, 101, 116]⟩, .agg #[.int .i32 loc, .int .u32 0, .int .u32 1], 0⟩, ⟨.string ⟨#[95, 95, 115, 117, 112, 101, 114, 83, 101, 116]⟩, .agg #[.int .i32 loc, .int .u32 0, .int .u32 2], 1⟩] 2) : Rw), row (ms) 223 (MC.setIfInBounds 5 (.slice (some ⟨nd21, 0, none⟩) 2 (2 + nd22))), row (nd21) 48 (full refZ [.int .u32 0, .int .u32 1, .int .u32 0, .int .u32 2] nd22), row (cr) 48 #[.int .u32 0, .int .u32 0], row (eb) 197 #[.slice (some ⟨ub, 0, none⟩) ln cp, .int .i32 0, .bool false, .bool false, .bool false], row (nd4) 191 #[.int .u32 0, .int .u32 1, .bool false, .bool false, .bool false], row (nd5) 255 #[.iface 189 (.pointer (some ⟨nd4, 0, none⟩)), .int .i32 loc, .slice (some ⟨nd6, 0, none⟩) 3 3, .int .i32 0, .int .u8 0, .int .u8 0, .bool false, .bool false], row (nd6) 32 #[.iface (clsTy s) (.pointer (some ⟨nd8, 0, none⟩)), .int .i32 loc, .iface (thsTy r) (.pointer (some ⟨nd10, 0, none⟩)), .int .i32 loc, .iface 195 (.pointer (some ⟨nd7, 0, none⟩)), .int .i32 kl], row (nd7) 197 #[.slice (some ⟨ub, 0, none⟩) ln cp, .int .i32 0, .bool false, .bool false, .bool false], row (nd8) (clsT s) (clsC s loc nd9), row (nd9) (xtrT s) (xtrC s loc nd8), row (nd10) (thsT r) (thsC r), row (nd11) 191 #[.int .u32 0, .int .u32 2, .bool false, .bool false, .bool false], row (nd12) 255 #[.iface 189 (.pointer (some ⟨nd11, 0, none⟩)), .int .i32 loc, .slice (some ⟨nd13, 0, none⟩) 4 4, .int .i32 0, .int .u8 0, .int .u8 0, .bool false, .bool false], row (nd13) 32 #[.iface (clsTy s) (.pointer (some ⟨nd15, 0, none⟩)), .int .i32 loc, .iface (thsTy r) (.pointer (some ⟨nd17, 0, none⟩)), .int .i32 loc, .iface 195 (.pointer (some ⟨nd14, 0, none⟩)), .int .i32 kl, .iface 235 (.pointer (some ⟨nd18, 0, none⟩)), .int .i32 vl], row (nd14) 197 #[.slice (some ⟨ub, 0, none⟩) ln cp, .int .i32 0, .bool false, .bool false, .bool false], row (nd15) (clsT s) (clsC s loc nd16), row (nd16) (xtrT s) (xtrC s loc nd15), row (nd17) (thsT r) (thsC r), row (nd18) 238 #[.iface 251 (.pointer (some ⟨nd5, 0, none⟩)), .int .i32 loc, .iface vT (.pointer (some ⟨vx, 0, none⟩)), .int .i32 vl, .int .u8 op, .bool false], row (B1_3) 32 #[.nilIface, .int .i32 0], row (B1_2) 32 #[.iface vT (.pointer (some ⟨vx, 0, none⟩)), .int .i32 vl], row (B1_1) 32 #[.iface 195 (.pointer (some ⟨eb, 0, none⟩)), .int .i32 kl], row (B1) 30 #[.int .i32 loc]] X := hQ.back HL.out HX.out [0, 1, 2, 3] (by decide) (by decide)
  clear hQ HL HX hO
  have hO := hN
  clear hN
  obtain ⟨c9_5_0, c9_5_1, lt9_5, y9_5, -⟩ := hO.k2 5 rfl
  obtain ⟨c9_6_0, c9_6_1, c9_6_2, c9_6_3, c9_6_4, lt9_6, y9_6, -⟩ := hO.k5 6 rfl
  obtain ⟨c9_7_0, c9_7_1, c9_7_2, c9_7_3, c9_7_4, lt9_7, y9_7, -⟩ := hO.k5 7 rfl
  obtain ⟨c9_8_0, c9_8_1, c9_8_2, c9_8_3, c9_8_4, c9_8_5, c9_8_6, c9_8_7, lt9_8, y9_8, -⟩ := hO.k8 8 rfl
  obtain ⟨c9_9_0, c9_9_1, c9_9_2, c9_9_3, c9_9_4, c9_9_5, lt9_9, y9_9, -⟩ := hO.k6 9 rfl
  obtain ⟨c9_10_0, c9_10_1, c9_10_2, c9_10_3, c9_10_4, lt9_10, y9_10, -⟩ := hO.k5 10 rfl
  obtain ⟨c9_14_0, c9_14_1, c9_14_2, c9_14_3, c9_14_4, lt9_14, y9_14, -⟩ := hO.k5 14 rfl
  obtain ⟨c9_15_0, c9_15_1, c9_15_2, c9_15_3, c9_15_4, c9_15_5, c9_15_6, c9_15_7, lt9_15, y9_15, -⟩ := hO.k8 15 rfl
  obtain ⟨c9_16_0, c9_16_1, c9_16_2, c9_16_3, c9_16_4, c9_16_5, c9_16_6, c9_16_7, lt9_16, y9_16, -⟩ := hO.k8 16 rfl
  obtain ⟨c9_17_0, c9_17_1, c9_17_2, c9_17_3, c9_17_4, lt9_17, y9_17, -⟩ := hO.k5 17 rfl
  obtain ⟨c9_21_0, c9_21_1, c9_21_2, c9_21_3, c9_21_4, c9_21_5, lt9_21, y9_21, -⟩ := hO.k6 21 rfl
  obtain ⟨c9_22_0, c9_22_1, lt9_22, y9_22, -⟩ := hO.k2 22 rfl
  obtain ⟨c9_23_0, c9_23_1, lt9_23, y9_23, -⟩ := hO.k2 23 rfl
  obtain ⟨c9_24_0, c9_24_1, lt9_24, y9_24, -⟩ := hO.k2 24 rfl
  obtain ⟨c9_25_0, lt9_25, y9_25, -⟩ := hO.k1 25 rfl
  have HO := Lib.hid hO
  clear hO
  go_wp2_with (first | (with_reducible refine Own.stay (fn := Tryz.f22) ?_) | fail)
  try with_reducible refine Own.Stay.mk ?_
  have hO := HO.out
  clear HO c9_5_0 c9_5_1 lt9_5 y9_5 c9_6_0 c9_6_1 c9_6_2 c9_6_3 c9_6_4 lt9_6 y9_6 c9_7_0 c9_7_1 c9_7_2 c9_7_3 c9_7_4 lt9_7 y9_7 c9_8_0 c9_8_1 c9_8_2 c9_8_3 c9_8_4 c9_8_5 c9_8_6 c9_8_7 lt9_8 y9_8 c9_9_0 c9_9_1 c9_9_2 c9_9_3 c9_9_4 c9_9_5 lt9_9 y9_9 c9_10_0 c9_10_1 c9_10_2 c9_10_3 c9_10_4 lt9_10 y9_10 c9_14_0 c9_14_1 c9_14_2 c9_14_3 c9_14_4 lt9_14 y9_14 c9_15_0 c9_15_1 c9_15_2 c9_15_3 c9_15_4 c9_15_5 c9_15_6 c9_15_7 lt9_15 y9_15 c9_16_0 c9_16_1 c9_16_2 c9_16_3 c9_16_4 c9_16_5 c9_16_6 c9_16_7 lt9_16 y9_16 c9_17_0 c9_17_1 c9_17_2 c9_17_3 c9_17_4 lt9_17 y9_17 c9_21_0 c9_21_1 c9_21_2 c9_21_3 c9_21_4 c9_21_5 lt9_21 y9_21 c9_22_0 c9_22_1 lt9_22 y9_22 c9_23_0 c9_23_1 lt9_23 y9_23 c9_24_0 c9_24_1 lt9_24 y9_24 c9_25_0 lt9_25 y9_25
  generalize hW : World.setCell _ _ _ = W24
  have hN : Own w0 W24 [row (pb) 188 (PC.setIfInBounds 106 (.slice (some ⟨nd19, 0, none⟩) 3 (3 + nd20))), row (nd19) 74 (full symZ (symL ([sy ⟨#[70, 111, 111]⟩ (uz r (uz r 0)), sy ⟨#[95, 95, 115, 117, 112, 101, 114, 71, 101, 116]⟩ 1, sy ⟨#[95, 95, 115, 117, 112, 101, 114, 83, 101, 116]⟩ 1])) nd20), ((mp, .map #[⟨.string ⟨#[95, 95, 115, 117, 112, 101, 114, 71, 101, 116]⟩, .agg #[.int .i32 loc, .int .u32 0, .int .u32 1], 0⟩, ⟨.string ⟨#[95, 95, 115, 117, 112, 101, 114, 83, 101, 116]⟩, .agg #[.int .i32 loc, .int .u32 0, .int .u32 2], 1⟩] 2) : Rw), row (ms) 223 (MC.setIfInBounds 5 (.slice (some ⟨nd21, 0, none⟩) 2 (2 + nd22))), row (nd21) 48 (full refZ [.int .u32 0, .int .u32 1, .int .u32 0, .int .u32 2] nd22), row (cr) 48 #[.int .u32 0, .int .u32 0], row (eb) 197 #[.slice (some ⟨ub, 0, none⟩) ln cp, .int .i32 0, .bool false, .bool false, .bool false], row (nd4) 191 #[.int .u32 0, .int .u32 1, .bool false, .bool false, .bool false], row (nd5) 255 #[.iface 189 (.pointer (some ⟨nd4, 0, none⟩)), .int .i32 loc, .slice (some ⟨nd6, 0, none⟩) 3 3, .int .i32 0, .int .u8 0, .int .u8 0, .bool false, .bool false], row (nd6) 32 #[.iface (clsTy s) (.pointer (some ⟨nd8, 0, none⟩)), .int .i32 loc, .iface (thsTy r) (.pointer (some ⟨nd10, 0, none⟩)), .int .i32 loc, .iface 195 (.pointer (some ⟨nd7, 0, none⟩)), .int .i32 kl], row (nd7) 197 #[.slice (some ⟨ub, 0, none⟩) ln cp, .int .i32 0, .bool false, .bool false, .bool false], row (nd8) (clsT s) (clsC s loc nd9), row (nd9) (xtrT s) (xtrC s loc nd8), row (nd10) (thsT r) (thsC r), row (nd11) 191 #[.int .u32 0, .int .u32 2, .bool false, .bool false, .bool false], row (nd12) 255 #[.iface 189 (.pointer (some ⟨nd11, 0, none⟩)), .int .i32 loc, .slice (some ⟨nd13, 0, none⟩) 4 4, .int .i32 0, .int .u8 0, .int .u8 0, .bool false, .bool false], row (nd13) 32 #[.iface (clsTy s) (.pointer (some ⟨nd15, 0, none⟩)), .int .i32 loc, .iface (thsTy r) (.pointer (some ⟨nd17, 0, none⟩)), .int .i32 loc, .iface 195 (.pointer (some ⟨nd14, 0, none⟩)), .int .i32 kl, .iface 235 (.pointer (some ⟨nd18, 0, none⟩)), .int .i32 vl], row (nd14) 197 #[.slice (some ⟨ub, 0, none⟩) ln cp, .int .i32 0, .bool false, .bool false, .bool false], row (nd15) (clsT s) (clsC s loc nd16), row (nd16) (xtrT s) (xtrC s loc nd15), row (nd17) (thsT r) (thsC r), row (nd18) 238 #[.iface 251 (.pointer (some ⟨nd5, 0, none⟩)), .int .i32 loc, .iface vT (.pointer (some ⟨vx, 0, none⟩)), .int .i32 vl, .int .u8 op, .bool false], row (B1_3) 32 #[.iface 251 (.pointer (some ⟨nd12, 0, none⟩)), .int .i32 loc], row (B1_2) 32 #[.iface vT (.pointer (some ⟨vx, 0, none⟩)), .int .i32 vl], row (B1_1) 32 #[.iface 195 (.pointer (some ⟨eb, 0, none⟩)), .int .i32 kl], row (B1) 30 #[.int .i32 loc]] X := by
    rw [← hW]
    exact ((hO).set 22 rfl 0 _).set 22 rfl 1 _
  clear hW hO
  have hO := hN
  clear hN
  have z9_22_0 : W24.cell? ⟨B1_3, 0, none⟩ = some (.iface 251 (.pointer (some ⟨nd12, 0, none⟩))) := hO.cell 22 rfl 0 rfl
  have z9_22_1 : W24.cell? ⟨B1_3, 1, none⟩ = some (.int .i32 loc) := hO.cell 22 rfl 1 rfl
  refine bodyPost_ret (v := .agg #[.iface 251 (.pointer (some ⟨nd12, 0, none⟩)), .int .i32 loc]) ?_ rfl ⟨nd4, nd5, nd6, nd7, nd8, nd9, nd10, nd11, nd12, nd13, nd14, nd15, nd16, nd17, nd18, nd19, nd20, nd21, nd22, rfl, hO.sub [0, 1, 2, 3, 4, 5, 6, 7, 8, 9, 10, 11, 12, 13, 14, 15, 16, 17, 18, 19, 20, 21] (by decide)⟩
  simp [results, Tryz.results22, go_sem, z9_22_0, z9_22_1]
noncomputable def rBO1E (bi : Nat) (l : Int) (xT : Nat) (xa : Nat) (l2 : Int) (vT : Nat) (vx : Nat) (l3 : Int) (op : Int) (B1_2 : Nat) (B1_1 : Nat) (B1 : Nat) : Nat → Rega.Atoms → Value
  | 0, α => .pointer (some ⟨bi, 0, none⟩)
  | 1, α => .pointer (some ⟨bi, 0, none⟩)
  | 2, α => .pointer (some ⟨bi, 4, none⟩)
  | 3, α => .int .u8 op
  | 4, α => .pointer (some ⟨bi, 0, none⟩)
  | 5, α => .pointer (some ⟨bi, 0, none⟩)
  | 6, α => .pointer (some ⟨bi, 0, none⟩)
  | 7, α => .agg #[.iface xT (.pointer (some ⟨xa, 0, none⟩)), .int .i32 l2]
  | 8, α => .pointer (some ⟨bi, 0, none⟩)
  | 9, α => .pointer (some ⟨bi, 0, none⟩)
  | 10, α => .pointer (some ⟨bi, 2, none⟩)
  | 11, α => .agg #[.iface vT (.pointer (some ⟨vx, 0, none⟩)), .int .i32 l3]
  | 12, α => .int .u8 op
  | 13, α => undef
  | 14, α => undef
  | 15, α => .bool true
  | _, _ => undef
noncomputable def rBO1Anc : Nat → List Nat
  | 1 => [0]
  | 2 => [0, 1]
  | 3 => [0, 1, 2]
  | 5 => [4]
  | 6 => [4, 5]
  | 7 => [4, 5, 6]
  | 9 => [8]
  | 10 => [8, 9]
  | 11 => [8, 9, 10]
  | 12 => [0, 1, 2, 3]
  | 13 => [0, 1, 2, 3, 4, 5, 6, 7, 12]
  | 14 => [0, 1, 2, 3, 4, 5, 6, 7, 8, 9, 10, 11, 12, 13]
  | 15 => [0, 1, 2, 3, 4, 5, 6, 7, 8, 9, 10, 11, 12, 13, 14]
  | _ => []
noncomputable def rBO1Trn : Nat → List Nat
  | 13 => [1999]
  | 14 => [999]
  | _ => []
noncomputable def rBO1Cnt : List (Nat × Nat) := []
noncomputable def rBO1T999 (bi : Nat) (l : Int) (xT : Nat) (xa : Nat) (l2 : Int) (vT : Nat) (vx : Nat) (l3 : Int) (op : Int) (B1_2 : Nat) (B1_1 : Nat) (B1 : Nat) (L9 : Nat → Bool) (α : Rega.Atoms) : Rw := if L9 14 = true then row (B1_2) 32 #[.iface vT (.pointer (some ⟨vx, 0, none⟩)), .int .i32 l3] else row (B1_2) 32 #[.nilIface, .int .i32 0]
noncomputable def rBO1T1999 (bi : Nat) (l : Int) (xT : Nat) (xa : Nat) (l2 : Int) (vT : Nat) (vx : Nat) (l3 : Int) (op : Int) (B1_2 : Nat) (B1_1 : Nat) (B1 : Nat) (L9 : Nat → Bool) (α : Rega.Atoms) : Rw := if L9 13 = true then row (B1_1) 32 #[.iface xT (.pointer (some ⟨xa, 0, none⟩)), .int .i32 l2] else row (B1_1) 32 #[.nilIface, .int .i32 0]
noncomputable def rBO1R (bi : Nat) (l : Int) (xT : Nat) (xa : Nat) (l2 : Int) (vT : Nat) (vx : Nat) (l3 : Int) (op : Int) (B1_2 : Nat) (B1_1 : Nat) (B1 : Nat) (L9 : Nat → Bool) (α : Rega.Atoms) (ix9 : Nat) : Rw := if ix9 = 999 then rBO1T999 bi l xT xa l2 vT vx l3 op B1_2 B1_1 B1 L9 α else if ix9 = 1999 then rBO1T1999 bi l xT xa l2 vT vx l3 op B1_2 B1_1 B1 L9 α else if ix9 = 2999 then row (B1) 32 #[.iface 235 (.pointer (some ⟨bi, 0, none⟩)), .int .i32 l] else if ix9 = 3999 then row (bi) 238 #[.iface xT (.pointer (some ⟨xa, 0, none⟩)), .int .i32 l2, .iface vT (.pointer (some ⟨vx, 0, none⟩)), .int .i32 l3, .int .u8 op, .bool false] else (0, .map #[] 0)
theorem rBO1_he (bi : Nat) (l : Int) (xT : Nat) (xa : Nat) (l2 : Int) (vT : Nat) (vx : Nat) (l3 : Int) (op : Int) (B1_2 : Nat) (B1_1 : Nat) (B1 : Nat) : ∀ kk α α', (∀ j, (j % 1000 = kk ∨ j % 1000 ∈ rBO1Anc kk) → α j = α' j) → rBO1E bi l xT xa l2 vT vx l3 op B1_2 B1_1 B1 kk α = rBO1E bi l xT xa l2 vT vx l3 op B1_2 B1_1 B1 kk α' := by
  intro kk α α' h
  match kk with
  | 0 => rfl
  | 1 => rfl
  | 2 => rfl
  | 3 => rfl
  | 4 => rfl
  | 5 => rfl
  | 6 => rfl
  | 7 => rfl
  | 8 => rfl
  | 9 => rfl
  | 10 => rfl
  | 11 => rfl
  | 12 => rfl
  | 13 => rfl
  | 14 => rfl
  | 15 => rfl
  | n + 16 => rfl
theorem rBO1_st (bi : Nat) (l : Int) (xT : Nat) (xa : Nat) (l2 : Int) (vT : Nat) (vx : Nat) (l3 : Int) (op : Int) (B1_2 : Nat) (B1_1 : Nat) (B1 : Nat) : Stable rBO1Cnt 4 rBO1Anc rBO1Trn (rBO1R bi l xT xa l2 vT vx l3 op B1_2 B1_1 B1) := by
  intro k9 L9 α α' ix9 hk hcl hα hact ht
  have hp := act_places hact
  replace hp : ix9 ∈ [999, 1999, 2999, 3999] := hp
  simp only [List.mem_cons, List.not_mem_nil, or_false] at hp
  rcases hp with rfl | rfl | rfl | rfl
  · show rBO1T999 bi l xT xa l2 vT vx l3 op B1_2 B1_1 B1 (Rega.ran L9 k9) α' = rBO1T999 bi l xT xa l2 vT vx l3 op B1_2 B1_1 B1 L9 α
    unfold rBO1T999
    have n14 : 14 ≠ k9 := fun e => ht (by rw [← e]; decide)
    rw [ran_ne n14]
  · show rBO1T1999 bi l xT xa l2 vT vx l3 op B1_2 B1_1 B1 (Rega.ran L9 k9) α' = rBO1T1999 bi l xT xa l2 vT vx l3 op B1_2 B1_1 B1 L9 α
    unfold rBO1T1999
    have n13 : 13 ≠ k9 := fun e => ht (by rw [← e]; decide)
    rw [ran_ne n13]
  · rfl
  · rfl
def binOfPost (bi : Nat) (l : Int) (xT xa : Nat) (l2 : Int) (vT vx : Nat) (l3 op : Int) (w0 : World) (X : Nat → Obj → Prop) (e : Ending) (w' : World) : Prop :=
  e = .returned (.tuple #[.int .u8 op, .agg #[.iface xT (.pointer (some ⟨xa, 0, none⟩)), .int .i32 l2], .agg #[.iface vT (.pointer (some ⟨vx, 0, none⟩)), .int .i32 l3], .bool true]) ∧ Own w0 w' [row (bi) 238 #[.iface xT (.pointer (some ⟨xa, 0, none⟩)), .int .i32 l2, .iface vT (.pointer (some ⟨vx, 0, none⟩)), .int .i32 l3, .int .u8 op, .bool false]] X
set_option maxRecDepth 100000 in
set_option maxHeartbeats 1000000 in
theorem binOf (bi : Nat) (l : Int) (xT xa : Nat) (l2 : Int) (vT vx : Nat) (l3 op : Int) (w0 w : World) (X : Nat → Obj → Prop) (hO : Own w0 w [row (bi) 238 #[.iface xT (.pointer (some ⟨xa, 0, none⟩)), .int .i32 l2, .iface vT (.pointer (some ⟨vx, 0, none⟩)), .int .i32 l3, .int .u8 op, .bool false]] X)  :
    Calls Tryz.prog 31 #[.agg #[.iface 235 (.pointer (some ⟨bi, 0, none⟩)), .int .i32 l]] w (binOfPost bi l xT xa l2 vT vx l3 op w0 X) := by
  go_enter Tryz.func31, Tryz.ntmps31
  obtain ⟨c9_0_0, c9_0_1, c9_0_2, c9_0_3, c9_0_4, c9_0_5, lt9_0, y9_0, -⟩ := hO.k6 0 rfl
  have HO := Lib.hid hO
  clear hO
  go_wp2_with (first | (with_reducible refine Own.stay (fn := Tryz.f31) ?_) | fail)
  try with_reducible refine Own.Stay.mk ?_
  have hO := HO.out
  clear HO c9_0_0 c9_0_1 c9_0_2 c9_0_3 c9_0_4 c9_0_5 lt9_0 y9_0
  generalize hW : World.alloc _ _ = W2
  have hN : Own w0 W2 [row (w.heap.size + 1 + 1) 32 #[.nilIface, .int .i32 0], row (w.heap.size + 1) 32 #[.nilIface, .int .i32 0], row (w.heap.size) 32 #[.iface 235 (.pointer (some ⟨bi, 0, none⟩)), .int .i32 l], row (bi) 238 #[.iface xT (.pointer (some ⟨xa, 0, none⟩)), .int .i32 l2, .iface vT (.pointer (some ⟨vx, 0, none⟩)), .int .i32 l3, .int .u8 op, .bool false]] X := by
    rw [← hW]
    exact (((hO).alloc' _ (w.heap.size) (by simp)).alloc' _ (w.heap.size + 1) (by simp)).alloc' _ (w.heap.size + 1 + 1) (by simp)
  clear hW hO
  generalize w.heap.size + 1 + 1 = B1_2 at hN ⊢
  generalize w.heap.size + 1 = B1_1 at hN ⊢
  generalize w.heap.size = B1 at hN ⊢
  have hO := hN
  clear hN
  have st9 := rBO1_st bi l xT xa l2 vT vx l3 op B1_2 B1_1 B1
  let R9 := rBO1R bi l xT xa l2 vT vx l3 op B1_2 B1_1 B1
  refine wp_region_own (e := rBO1E bi l xT xa l2 vT vx l3 op B1_2 B1_1 B1) (anc := rBO1Anc) (G := (fun L9 α u9 => OwnF w0 u9 (act rBO1Cnt 4 L9) (rBO1R bi l xT xa l2 vT vx l3 op B1_2 B1_1 B1 L9 α) X)) (by kernel_rfl) (by kernel_rfl) (by kernel_rfl) (by kernel_rfl) (rBO1_he bi l xT xa l2 vT vx l3 op B1_2 B1_1 B1) ?_ (RunsAll.all ?_) ?_
  · have hp : ∀ i, act rBO1Cnt 4 (fun _ => false) i → i ∈ [999, 1999, 2999, 3999] := by
      intro i hi
      have h9 : i % 1000 = 999 := by
        by_cases h : i % 1000 = 999
        · exact h
        · exact absurd (act_lt hi h) (by simp)
      unfold act at hi
      rw [if_pos h9] at hi
      simp only [List.mem_cons, List.not_mem_nil, or_false]
      omega
    refine hO.drew.family (fun i hi => ?_) (fun i j hi hj hij => ?_)
    · have := hp i hi
      simp only [List.mem_cons, List.not_mem_nil, or_false] at this
      rcases this with rfl | rfl | rfl | rfl <;> rfl
    · have h1 := hp i hi
      have h2 := hp j hj
      simp only [List.mem_cons, List.not_mem_nil, or_false] at h1 h2
      omega
  · refine ⟨?_, ?_, ?_, ?_, ?_, ?_, ?_, ?_, ?_, ?_, ?_, ?_, ?_, ?_, ?_, ?_, trivial⟩
    · intro L9 α a9 u9 K9 hL hcl hA hG hS h0 hK
      replace hL : L9 0 = false := hL
      have q6 : a9.tmps[6]? = some (.pointer (some ⟨bi, 0, none⟩)) := (h0 6 (by kernel_rfl)).trans rfl
      have s6 := Rega.eval_of q6
      go_simp
      exact hK _ α _ (fun _ _ => rfl) rfl (step_same (st9) hL hcl rfl rfl hG)
    · intro L9 α a9 u9 K9 hL hcl hA hG hS h0 hK
      replace hL : L9 1 = false := hL
      have q18 : a9.tmps[18]? = some (.pointer (some ⟨bi, 0, none⟩)) := hS 0 18 (by decide) rfl (by show 18 < 30; decide)
      have s18 := Rega.eval_of q18
      go_simp
      exact hK _ α _ (fun _ _ => rfl) rfl (step_same (st9) hL hcl rfl rfl hG)
    · intro L9 α a9 u9 K9 hL hcl hA hG hS h0 hK
      replace hL : L9 2 = false := hL
      have q19 : a9.tmps[19]? = some (.pointer (some ⟨bi, 0, none⟩)) := hS 1 19 (by decide) rfl (by show 19 < 30; decide)
      have s19 := Rega.eval_of q19
      go_simp
      exact hK _ α _ (fun _ _ => rfl) rfl (step_same (st9) hL hcl rfl rfl hG)
    · intro L9 α a9 u9 K9 hL hcl hA hG hS h0 hK
      replace hL : L9 3 = false := hL
      have q20 : a9.tmps[20]? = some (.pointer (some ⟨bi, 4, none⟩)) := hS 2 20 (by decide) rfl (by show 20 < 30; decide)
      have s20 := Rega.eval_of q20
      have e0 : R9 L9 α 3999 = row (bi) 238 #[.iface xT (.pointer (some ⟨xa, 0, none⟩)), .int .i32 l2, .iface vT (.pointer (some ⟨vx, 0, none⟩)), .int .i32 l3, .int .u8 op, .bool false] := rfl
      have hr := hG.rowAt 3999 (act_base 3999 rfl) e0
      have c0 : u9.cell? ⟨bi, 4, none⟩ = some (.int .u8 op) := hr.cell rfl
      clear hr e0
      go_simp
      exact hK _ α _ (fun _ _ => rfl) rfl (step_same (st9) hL hcl rfl rfl hG)
    · intro L9 α a9 u9 K9 hL hcl hA hG hS h0 hK
      replace hL : L9 4 = false := hL
      have q6 : a9.tmps[6]? = some (.pointer (some ⟨bi, 0, none⟩)) := (h0 6 (by kernel_rfl)).trans rfl
      have s6 := Rega.eval_of q6
      go_simp
      exact hK _ α _ (fun _ _ => rfl) rfl (step_same (st9) hL hcl rfl rfl hG)
    · intro L9 α a9 u9 K9 hL hcl hA hG hS h0 hK
      replace hL : L9 5 = false := hL
      have q22 : a9.tmps[22]? = some (.pointer (some ⟨bi, 0, none⟩)) := hS 4 22 (by decide) rfl (by show 22 < 30; decide)
      have s22 := Rega.eval_of q22
      go_simp
      exact hK _ α _ (fun _ _ => rfl) rfl (step_same (st9) hL hcl rfl rfl hG)
    · intro L9 α a9 u9 K9 hL hcl hA hG hS h0 hK
      replace hL : L9 6 = false := hL
      have q23 : a9.tmps[23]? = some (.pointer (some ⟨bi, 0, none⟩)) := hS 5 23 (by decide) rfl (by show 23 < 30; decide)
      have s23 := Rega.eval_of q23
      go_simp
      exact hK _ α _ (fun _ _ => rfl) rfl (step_same (st9) hL hcl rfl rfl hG)
    · intro L9 α a9 u9 K9 hL hcl hA hG hS h0 hK
      replace hL : L9 7 = false := hL
      have q24 : a9.tmps[24]? = some (.pointer (some ⟨bi, 0, none⟩)) := hS 6 24 (by decide) rfl (by show 24 < 30; decide)
      have s24 := Rega.eval_of q24
      have e0 : R9 L9 α 3999 = row (bi) 238 #[.iface xT (.pointer (some ⟨xa, 0, none⟩)), .int .i32 l2, .iface vT (.pointer (some ⟨vx, 0, none⟩)), .int .i32 l3, .int .u8 op, .bool false] := rfl
      have hr := hG.rowAt 3999 (act_base 3999 rfl) e0
      have c0 : u9.cell? ⟨bi, 0, none⟩ = some (.iface xT (.pointer (some ⟨xa, 0, none⟩))) := hr.cell rfl
      have c1 : u9.cell? ⟨bi, 1, none⟩ = some (.int .i32 l2) := hr.cell rfl
      clear hr e0
      go_simp
      exact hK _ α _ (fun _ _ => rfl) rfl (step_same (st9) hL hcl rfl rfl hG)
    · intro L9 α a9 u9 K9 hL hcl hA hG hS h0 hK
      replace hL : L9 8 = false := hL
      have q6 : a9.tmps[6]? = some (.pointer (some ⟨bi, 0, none⟩)) := (h0 6 (by kernel_rfl)).trans rfl
      have s6 := Rega.eval_of q6
      go_simp
      exact hK _ α _ (fun _ _ => rfl) rfl (step_same (st9) hL hcl rfl rfl hG)
    · intro L9 α a9 u9 K9 hL hcl hA hG hS h0 hK
      replace hL : L9 9 = false := hL
      have q26 : a9.tmps[26]? = some (.pointer (some ⟨bi, 0, none⟩)) := hS 8 26 (by decide) rfl (by show 26 < 30; decide)
      have s26 := Rega.eval_of q26
      go_simp
      exact hK _ α _ (fun _ _ => rfl) rfl (step_same (st9) hL hcl rfl rfl hG)
    · intro L9 α a9 u9 K9 hL hcl hA hG hS h0 hK
      replace hL : L9 10 = false := hL
      have q27 : a9.tmps[27]? = some (.pointer (some ⟨bi, 0, none⟩)) := hS 9 27 (by decide) rfl (by show 27 < 30; decide)
      have s27 := Rega.eval_of q27
      go_simp
      exact hK _ α _ (fun _ _ => rfl) rfl (step_same (st9) hL hcl rfl rfl hG)
    · intro L9 α a9 u9 K9 hL hcl hA hG hS h0 hK
      replace hL : L9 11 = false := hL
      have q28 : a9.tmps[28]? = some (.pointer (some ⟨bi, 2, none⟩)) := hS 10 28 (by decide) rfl (by show 28 < 30; decide)
      have s28 := Rega.eval_of q28
      have e0 : R9 L9 α 3999 = row (bi) 238 #[.iface xT (.pointer (some ⟨xa, 0, none⟩)), .int .i32 l2, .iface vT (.pointer (some ⟨vx, 0, none⟩)), .int .i32 l3, .int .u8 op, .bool false] := rfl
      have hr := hG.rowAt 3999 (act_base 3999 rfl) e0
      have c0 : u9.cell? ⟨bi, 2, none⟩ = some (.iface vT (.pointer (some ⟨vx, 0, none⟩))) := hr.cell rfl
      have c1 : u9.cell? ⟨bi, 3, none⟩ = some (.int .i32 l3) := hr.cell rfl
      clear hr e0
      go_simp
      exact hK _ α _ (fun _ _ => rfl) rfl (step_same (st9) hL hcl rfl rfl hG)
    · intro L9 α a9 u9 K9 hL hcl hA hG hS h0 hK
      replace hL : L9 12 = false := hL
      have q21 : a9.tmps[21]? = some (.int .u8 op) := hS 3 21 (by decide) rfl (by show 21 < 30; decide)
      have s21 := Rega.eval_of q21
      go_simp
      exact hK _ α _ (fun _ _ => rfl) rfl (step_same (st9) hL hcl rfl rfl hG)
    · intro L9 α a9 u9 K9 hL hcl hA hG hS h0 hK
      replace hL : L9 13 = false := hL
      have q3 : a9.tmps[3]? = some (.pointer (some ⟨B1_1, 0, none⟩)) := (h0 3 (by kernel_rfl)).trans rfl
      have s3 := Rega.eval_of q3
      have q25 : a9.tmps[25]? = some (.agg #[.iface xT (.pointer (some ⟨xa, 0, none⟩)), .int .i32 l2]) := hS 7 25 (by decide) rfl (by show 25 < 30; decide)
      have s25 := Rega.eval_of q25
      have e0 : R9 L9 α 1999 = row (B1_1) 32 #[.nilIface, .int .i32 0] := by
        show rBO1T1999 bi l xT xa l2 vT vx l3 op B1_2 B1_1 B1 L9 α = _
        unfold rBO1T1999
        rw [if_neg (by rw [hL]; decide)]
      have hr := hG.rowAt 1999 (act_base 1999 rfl) e0
      have c0 : u9.cell? ⟨B1_1, 0, none⟩ = some (.nilIface) := hr.cell rfl
      have y0 : u9.frozen? ⟨B1_1, 0, none⟩ = false := hr.free 0
      have c1 : u9.cell? ⟨B1_1, 1, none⟩ = some (.int .i32 0) := hr.cell rfl
      have y1 : u9.frozen? ⟨B1_1, 1, none⟩ = false := hr.free 1
      clear hr
      have E0 := Lib.hid e0
      clear e0
      go_simp
      have e1 : R9 (Rega.ran L9 13) α 1999 = row (B1_1) 32 #[.iface xT (.pointer (some ⟨xa, 0, none⟩)), .int .i32 l2] := by
        show rBO1T1999 bi l xT xa l2 vT vx l3 op B1_2 B1_1 B1 (Rega.ran L9 13) α = _
        unfold rBO1T1999
        rw [if_pos (show Rega.ran L9 13 13 = true from rfl)]
      exact hK _ α _ (fun _ _ => rfl) rfl (step_sets (st9) hL hcl rfl 1999 rfl (act_base 1999 rfl) E0.out 0 [.iface xT (.pointer (some ⟨xa, 0, none⟩)), .int .i32 l2] (e1.trans rfl) hG)
    · intro L9 α a9 u9 K9 hL hcl hA hG hS h0 hK
      replace hL : L9 14 = false := hL
      have q4 : a9.tmps[4]? = some (.pointer (some ⟨B1_2, 0, none⟩)) := (h0 4 (by kernel_rfl)).trans rfl
      have s4 := Rega.eval_of q4
      have q29 : a9.tmps[29]? = some (.agg #[.iface vT (.pointer (some ⟨vx, 0, none⟩)), .int .i32 l3]) := hS 11 29 (by decide) rfl (by show 29 < 30; decide)
      have s29 := Rega.eval_of q29
      have e0 : R9 L9 α 999 = row (B1_2) 32 #[.nilIface, .int .i32 0] := by
        show rBO1T999 bi l xT xa l2 vT vx l3 op B1_2 B1_1 B1 L9 α = _
        unfold rBO1T999
        rw [if_neg (by rw [hL]; decide)]
      have hr := hG.rowAt 999 (act_base 999 rfl) e0
      have c0 : u9.cell? ⟨B1_2, 0, none⟩ = some (.nilIface) := hr.cell rfl
      have y0 : u9.frozen? ⟨B1_2, 0, none⟩ = false := hr.free 0
      have c1 : u9.cell? ⟨B1_2, 1, none⟩ = some (.int .i32 0) := hr.cell rfl
      have y1 : u9.frozen? ⟨B1_2, 1, none⟩ = false := hr.free 1
      clear hr
      have E0 := Lib.hid e0
      clear e0
      go_simp
      have e1 : R9 (Rega.ran L9 14) α 999 = row (B1_2) 32 #[.iface vT (.pointer (some ⟨vx, 0, none⟩)), .int .i32 l3] := by
        show rBO1T999 bi l xT xa l2 vT vx l3 op B1_2 B1_1 B1 (Rega.ran L9 14) α = _
        unfold rBO1T999
        rw [if_pos (show Rega.ran L9 14 14 = true from rfl)]
      exact hK _ α _ (fun _ _ => rfl) rfl (step_sets (st9) hL hcl rfl 999 rfl (act_base 999 rfl) E0.out 0 [.iface vT (.pointer (some ⟨vx, 0, none⟩)), .int .i32 l3] (e1.trans rfl) hG)
    · intro L9 α a9 u9 K9 hL hcl hA hG hS h0 hK
      replace hL : L9 15 = false := hL
      go_simp
      exact hK _ α _ (fun _ _ => rfl) rfl (step_same (st9) hL hcl rfl rfl hG)
  clear st9
  intro α u hG
  have e0 : R9 (fun k => decide (k < 16)) α 999 = row (B1_2) 32 #[.iface vT (.pointer (some ⟨vx, 0, none⟩)), .int .i32 l3] := by
    show rBO1T999 bi l xT xa l2 vT vx l3 op B1_2 B1_1 B1 (fun k => decide (k < 16)) α = _
    unfold rBO1T999
    rw [if_pos (by decide)]
  have e1 : R9 (fun k => decide (k < 16)) α 1999 = row (B1_1) 32 #[.iface xT (.pointer (some ⟨xa, 0, none⟩)), .int .i32 l2] := by
    show rBO1T1999 bi l xT xa l2 vT vx l3 op B1_2 B1_1 B1 (fun k => decide (k < 16)) α = _
    unfold rBO1T1999
    rw [if_pos (by decide)]
  have e2 : R9 (fun k => decide (k < 16)) α 2999 = row (B1) 32 #[.iface 235 (.pointer (some ⟨bi, 0, none⟩)), .int .i32 l] := rfl
  have e3 : R9 (fun k => decide (k < 16)) α 3999 = row (bi) 238 #[.iface xT (.pointer (some ⟨xa, 0, none⟩)), .int .i32 l2, .iface vT (.pointer (some ⟨vx, 0, none⟩)), .int .i32 l3, .int .u8 op, .bool false] := rfl
  have hO : Own w0 u [row (B1_2) 32 #[.iface vT (.pointer (some ⟨vx, 0, none⟩)), .int .i32 l3], row (B1_1) 32 #[.iface xT (.pointer (some ⟨xa, 0, none⟩)), .int .i32 l2], row (B1) 32 #[.iface 235 (.pointer (some ⟨bi, 0, none⟩)), .int .i32 l], row (bi) 238 #[.iface xT (.pointer (some ⟨xa, 0, none⟩)), .int .i32 l2, .iface vT (.pointer (some ⟨vx, 0, none⟩)), .int .i32 l3, .int .u8 op, .bool false]] X := (hG.list [999, 1999, 2999, 3999] (by decide) (act_all (by decide))).conv (by
    show [R9 (fun k => decide (k < 16)) α 999, R9 (fun k => decide (k < 16)) α 1999, R9 (fun k => decide (k < 16)) α 2999, R9 (fun k => decide (k < 16)) α 3999] = _
    rw [e0, e1, e2, e3])
  clear hG e0 e1 e2 e3 R9
  generalize hfr : Rega.frameAt _ _ _ _ _ = fr
  have hdf : fr = ⟨#[.agg #[.iface 235 (.pointer (some ⟨bi, 0, none⟩)), .int .i32 l], .pointer (some ⟨B1, 0, none⟩), .int .u8 op, .pointer (some ⟨B1_1, 0, none⟩), .pointer (some ⟨B1_2, 0, none⟩), .bool true, .pointer (some ⟨bi, 0, none⟩), .bool true, .tuple #[.pointer (some ⟨bi, 0, none⟩), .bool true], .pointer (some ⟨B1, 0, none⟩), .iface 235 (.pointer (some ⟨bi, 0, none⟩)), .tuple #[.pointer (some ⟨bi, 0, none⟩), .bool true], .pointer (some ⟨bi, 0, none⟩), .bool true, .bool true, .bool false, undef, undef, .pointer (some ⟨bi, 0, none⟩), .pointer (some ⟨bi, 0, none⟩), .pointer (some ⟨bi, 4, none⟩), .int .u8 op, .pointer (some ⟨bi, 0, none⟩), .pointer (some ⟨bi, 0, none⟩), .pointer (some ⟨bi, 0, none⟩), .agg #[.iface xT (.pointer (some ⟨xa, 0, none⟩)), .int .i32 l2], .pointer (some ⟨bi, 0, none⟩), .pointer (some ⟨bi, 0, none⟩), .pointer (some ⟨bi, 2, none⟩), .agg #[.iface vT (.pointer (some ⟨vx, 0, none⟩)), .int .i32 l3]], []⟩ := by rw [← hfr]; kernel_rfl
  clear hfr
  subst hdf
  clear α
  obtain ⟨c9_0_0, c9_0_1, lt9_0, y9_0, -⟩ := hO.k2 0 rfl
  obtain ⟨c9_1_0, c9_1_1, lt9_1, y9_1, -⟩ := hO.k2 1 rfl
  obtain ⟨c9_2_0, c9_2_1, lt9_2, y9_2, -⟩ := hO.k2 2 rfl
  obtain ⟨c9_3_0, c9_3_1, c9_3_2, c9_3_3, c9_3_4, c9_3_5, lt9_3, y9_3, -⟩ := hO.k6 3 rfl
  have HO := Lib.hid hO
  clear hO
  go_wp2_with (first | (with_reducible refine Own.stay (fn := Tryz.f31) ?_) | fail)
  try with_reducible refine Own.Stay.mk ?_
  have hO := HO.out
  clear HO c9_0_0 c9_0_1 lt9_0 y9_0 c9_1_0 c9_1_1 lt9_1 y9_1 c9_2_0 c9_2_1 lt9_2 y9_2 c9_3_0 c9_3_1 c9_3_2 c9_3_3 c9_3_4 c9_3_5 lt9_3 y9_3
  have z9_1_0 : u.cell? ⟨B1_1, 0, none⟩ = some (.iface xT (.pointer (some ⟨xa, 0, none⟩))) := hO.cell 1 rfl 0 rfl
  have z9_1_1 : u.cell? ⟨B1_1, 1, none⟩ = some (.int .i32 l2) := hO.cell 1 rfl 1 rfl
  have z9_0_0 : u.cell? ⟨B1_2, 0, none⟩ = some (.iface vT (.pointer (some ⟨vx, 0, none⟩))) := hO.cell 0 rfl 0 rfl
  have z9_0_1 : u.cell? ⟨B1_2, 1, none⟩ = some (.int .i32 l3) := hO.cell 0 rfl 1 rfl
  refine bodyPost_ret (v := .tuple #[.int .u8 op, .agg #[.iface xT (.pointer (some ⟨xa, 0, none⟩)), .int .i32 l2], .agg #[.iface vT (.pointer (some ⟨vx, 0, none⟩)), .int .i32 l3], .bool true]) ?_ rfl ⟨rfl, hO.sub [3] (by decide)⟩
  simp [results, Tryz.results31, go_sem, z9_1_0, z9_1_1, z9_0_0, z9_0_1]
end Go.Proofs.YtkhmjppfogppoaaGreatDoor.Use
